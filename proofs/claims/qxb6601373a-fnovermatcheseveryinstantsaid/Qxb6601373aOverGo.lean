/-
  noFewer (38) and (*floors).over (34).
-/
import Derived.Test.Qxb6601373aOverModel
import Derived.Test.Qxb6601373aOverPlain2
namespace Go.Proofs.Qxb6601373a
open Go.RowKit
set_option linter.unusedVariables false

def GeL (z z' : List Int) (n : Nat) : Prop := ∀ p, p < n → z'.getD p 0 ≤ z.getD p 0
theorem GeL.zero (z z' : List Int) : GeL z z' 0 := fun _ h => by omega
theorem GeL.step {z z' : List Int} {n : Nat} (h : GeL z z' n) (h' : ¬ z[n]?.getD 0 < z'[n]?.getD 0) : GeL z z' (n + 1) := by
  intro p hp
  by_cases e : p = n
  · subst e; simp; omega
  · exact h p (by omega)

set_option maxHeartbeats 1000000 in
theorem noFewer_any (a : Option Addr) (c : Nat) (z : List Int) (a' : Option Addr) (c' : Nat) (z' : List Int) (n : Nat) (w : World) (hn : n ≤ 131072) (hs : Sl w a n z) (hs' : Sl w a' n z') :
    Calls Try.prog 38 #[.slice a n c, .slice a' n c'] w fun e w' => BoolIff (GeL z z' n) e ∧ Drawn w w' := by
  go_enter Try.func38, Try.ntmps38
  go_wp2
  go_loop [9] (fun i => ∃ p : Nat, p ≤ n ∧ i = .int .i64 p ∧ GeL z z' p) (fun i => n - (intOf i).toNat)
  case atStart => exact ⟨0, Nat.zero_le _, rfl, GeL.zero _ _⟩
  case round =>
    obtain ⟨p, hp, rfl, hge⟩ := hrel
    have HG := hid hge
    clear hge
    by_cases hlt : p < n
    · obtain ⟨b, off, rfl, hb, hc⟩ := hs.cells (by omega)
      obtain ⟨b', off', rfl, hb', hc'⟩ := hs'.cells (by omega)
      have c1 := hc p hlt
      have c2 := hc' p hlt
      clear hc hc' hs hs'
      by_cases hz : z[p]?.getD 0 < z'[p]?.getD 0
      · have HN := hid (show ¬ GeL z z' n from fun h => by have := h p hlt; simp at this; omega)
        go_wp2
        go_ret
        exact ⟨BoolIff.no HN.out, Drawn.refl _⟩
      · have HG2 := hid (HG.out.step hz)
        go_wp2
        go_round
        case rel => exact ⟨p + 1, by omega, by go_num, HG2.out⟩
        case measure => simp [intOf]; omega
    · have e : p = n := by omega
      subst e
      clear hs hs'
      go_wp2
      go_ret
      exact ⟨BoolIff.yes HG.out, Drawn.refl _⟩

/-- Row k of a table of rows of wd. -/
def seg (z : List Int) (k wd : Nat) : List Int := (z.drop (k * wd)).take wd
theorem seg_get (z : List Int) (k wd p : Nat) (hp : p < wd) : (seg z k wd).getD p 0 = z.getD (k * wd + p) 0 := by
  unfold seg
  simp [hp, List.getElem?_drop]
theorem GeL_seg (za zb : List Int) (ka kb wd : Nat) : GeL (seg za ka wd) (seg zb kb wd) wd ↔ GeRow za ka zb kb wd := by
  unfold GeL GeRow
  constructor
  · intro h p hp
    have := h p hp
    rwa [seg_get _ _ _ _ hp, seg_get _ _ _ _ hp] at this
  · intro h p hp
    rw [seg_get _ _ _ _ hp, seg_get _ _ _ _ hp]
    exact h p hp

theorem elem32 : Try.prog.elem 32 = 2 := by kernel_rfl
/-- A row cut out of a slice: what the slice expression gives, and that it reads as the row. -/
theorem cut_row (a : Option Addr) (len cap : Nat) (z : List Int) (k wd rows : Nat) (w : World) (hs : Sl w a len z) (hc : len ≤ cap) (he : len = wd * rows) (hk : k < rows) (l h : Int) (hl : l = (k : Int) * (wd : Int)) (hh : h = ((k : Int) + 1) * (wd : Int)) :
    ∃ a' c', (∀ wx, (Instr.slice 32 (.slice a len cap) (some (.int .i64 l)) (some (.int .i64 h)) none).run Try.prog wx = .ok (.slice a' wd c') wx) ∧ Sl w a' wd (seg z k wd) := by
  have hle : (k + 1) * wd ≤ len := by
    rw [he, Nat.mul_comm wd]
    exact Nat.mul_le_mul_right _ (by omega)
  have e1 : l = ((k * wd : Nat) : Int) := by rw [hl]; simp
  have e2 : h = (((k + 1) * wd : Nat) : Int) := by rw [hh]; simp
  have e3 : (k + 1) * wd - k * wd = wd := by rw [Nat.add_mul]; omega
  refine ⟨if cap = k * wd then a else a.map (·.add (k * wd)), cap - k * wd, fun wx => ?_, ?_⟩
  · rw [e1, e2, run_slice_lh (P := Try.prog) wx 32 a len cap (elem32 ▸ Try.underlying32) .i64 .i64 ((k * wd : Nat) : Int) (((k + 1) * wd : Nat) : Int) (Int.natCast_nonneg _) (by rw [Nat.add_mul]; omega) (by omega)]
    rw [Int.toNat_natCast, Int.toNat_natCast]
    simp [go_sem, e3]
  · refine ⟨?_, fun h0 => ?_, fun i => ?_⟩
    · unfold seg
      have := hs.length
      simp
      rw [Nat.add_mul] at hle
      omega
    · rw [Nat.add_mul] at hle
      obtain ⟨b, off, rfl, hb, hcell⟩ := hs.cells (by omega)
      refine ⟨b, off + k * wd, ?_, hb, fun i hi => ?_⟩
      · rw [if_neg (by omega)]
        simp [Addr.add]
      · rw [seg_get _ _ _ _ hi, Nat.add_assoc]
        exact hcell (k * wd + i) (by omega)
    · by_cases hi : i < wd
      · rw [seg_get _ _ _ _ hi]
        exact hs.fits _
      · have : (seg z k wd).getD i 0 = 0 := by
          unfold seg
          simp [List.getElem?_take, hi]
        rw [this]
        unfold I64
        omega
end Go.Proofs.Qxb6601373a
