/-
  rowsRisingFrom (31).
-/
import Derived.Test.Qxb6601373aBase
namespace Go.Proofs.Qxb6601373a
open Go.RowKit
set_option linter.unusedVariables false

set_option maxHeartbeats 1000000 in
theorem rising_any (a : Option Addr) (len cap : Nat) (zs : List Int) (wd frm rows : Nat) (w : World) (hl : len ≤ 131072) (hs : Sl w a len zs) (hwd : (wd : Int) ≤ 9223372036854775807) (hr : rows ≤ 131072) (hf : frm ≤ rows) (heq : len = wd * rows) :
    Calls Try.prog 31 #[.slice a len cap, .int .i64 wd, .int .i64 frm, .int .i64 rows] w fun e w' => BoolIf (Rising zs wd frm rows) e ∧ Below w.heap.size w w' := by
  have HE := hid heq
  clear heq
  go_enter Try.func31, Try.ntmps31
  go_wp2
  go_loopw [9] (fun i wr => ∃ k : Nat, frm ≤ k ∧ k ≤ rows ∧ i = .int .i64 k ∧ RisingTo zs wd frm rows k ∧ Below w.heap.size w wr) (fun i _ => rows - (intOf i).toNat)
  case atStart => exact ⟨frm, Nat.le_refl _, hf, rfl, RisingTo.zero _ _ _ _, Below.refl _ _⟩
  case round =>
    obtain ⟨k, hk1, hk2, rfl, hris, hbel⟩ := hrel
    have HR := hid hris
    have HB := hid hbel
    clear hris hbel
    by_cases hk : k + 1 < rows
    · have hkd : decide ((k : Int) + 1 < (rows : Int)) = true := by simp; omega
      go_wp2
      go_loopw [10] (fun i wr => ∃ p : Nat, p ≤ wd ∧ i = .int .i64 p ∧ RowTo zs wd k p ∧ Below w.heap.size w wr) (fun i _ => wd - (intOf i).toNat)
      case atStart => exact ⟨0, Nat.zero_le _, rfl, RowTo.zero _ _ _, HB.out⟩
      case round =>
        obtain ⟨p, hp, rfl, hrow, hbel⟩ := hrel
        have HW := hid hrow
        have HB2 := hid hbel
        by_cases hp' : p < wd
        · have l1 := row_lt wd rows k p len HE.out (by omega) hp'
          have l2 := row_lt wd rows (k + 1) p len HE.out (by omega) hp'
          obtain ⟨b, off, rfl, hlt, hc⟩ := (hs.below hbel).cells (by omega)
          obtain ⟨i1, hi1⟩ : ∃ i1, k * wd + p = i1 := ⟨_, rfl⟩
          obtain ⟨i2, hi2⟩ : ∃ i2, (k + 1) * wd + p = i2 := ⟨_, rfl⟩
          have j1 : (k : Int) * (wd : Int) + (p : Int) = (i1 : Int) := by rw [← hi1]; simp
          have j2 : ((k : Int) + 1) * (wd : Int) + (p : Int) = (i2 : Int) := by rw [← hi2]; simp
          rw [hi1] at l1
          rw [hi2] at l2
          have c1 := hc i1 l1
          have c2 := hc i2 l2
          have m1 : (0 : Int) ≤ (k : Int) * (wd : Int) := Int.mul_nonneg (by omega) (by omega)
          have m2 : (0 : Int) ≤ ((k : Int) + 1) * (wd : Int) := Int.mul_nonneg (by omega) (by omega)
          have m3 : (k : Int) * (wd : Int) ≤ 131072 := by omega
          have m4 : ((k : Int) + 1) * (wd : Int) ≤ 131072 := by omega
          have H1 := hid hi1
          have H2 := hid hi2
          clear hi1 hi2 hc hrow hbel
          go_wp2
          go_quiet (fail)
          by_cases hz : zs[i2]?.getD 0 < zs[i1]?.getD 0
          · go_wp2
            go_ret
            exact ⟨BoolIf.no _, below_drewN HB2.out _⟩
          · have HW2 := hid (HW.out.step H1.out H2.out hz)
            go_wp2
            go_roundw
            case rel => exact ⟨p + 1, by omega, by go_num, HW2.out, below_drewN HB2.out _⟩
            case measure => simp [intOf]; omega
        · have e : p = wd := by omega
          subst e
          have HR2 := hid (HR.out.step hrow)
          clear hrow hbel
          go_wp2
          go_roundw
          case rel => exact ⟨k + 1, by omega, by omega, by go_num, HR2.out, HB2.out⟩
          case measure => simp [intOf]; omega
    · go_wp2
      go_ret
      exact ⟨BoolIf.yes (HR.out.done hk), HB.out⟩
end Go.Proofs.Qxb6601373a
