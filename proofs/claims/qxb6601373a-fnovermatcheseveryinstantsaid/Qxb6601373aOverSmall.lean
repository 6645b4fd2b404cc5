/-
  The small functions of the law on 'over': strictlyRising (36), overShape (27), lastAtOrBefore (39), rowNoLess (40), coveredAt (35).
-/
import Derived.Test.Qxb6601373aBase
import Derived.Test.Qxb6601373aOverPlain
namespace Go.Proofs.Qxb6601373a
open Go.RowKit
set_option linter.unusedVariables false

/-- Only draws lie between the two worlds. -/
def Drawn (w w' : World) : Prop := ∃ n, w' = w.drewN n
theorem Drawn.refl (w : World) : Drawn w w := ⟨0, rfl⟩
theorem Drawn.trans {a b c : World} (h : Drawn a b) (k : Drawn b c) : Drawn a c := by
  obtain ⟨n, rfl⟩ := h
  obtain ⟨m, rfl⟩ := k
  exact ⟨n + m, World.drewN_drewN _ _ _⟩
theorem Drawn.drewN {a b : World} (h : Drawn a b) (n : Nat) : Drawn a (b.drewN n) := h.trans ⟨n, rfl⟩
theorem Drawn.below {a b : World} (h : Drawn a b) (B : Nat) : Below B a b := by
  obtain ⟨n, rfl⟩ := h
  exact below_drewN (Below.refl _ _) _
theorem the_bool (P : Prop) : ∃ b : Bool, b = true ↔ P := by
  rcases Classical.em P with h | h
  · exact ⟨true, by simp [h]⟩
  · exact ⟨false, by simp [h]⟩
theorem BoolIff.is {P : Prop} {e : Ending} {b : Bool} (h : BoolIff P e) (hb : b = true ↔ P) : e = .returned (.bool b) := by
  obtain ⟨b', rfl, hb'⟩ := h
  have : b' = b := by rw [Bool.eq_iff_iff]; exact hb'.trans hb.symm
  rw [this]
/-- A callee that only reads, in a region that draws its order. -/
theorem quiet_bool {P : Prop} {b : Bool} (hb : b = true ↔ P) {f : FuncId} {args : Array Value} {w : World} {n : Nat} (h : Calls Try.prog f args (w.drewN n) fun e w' => BoolIff P e ∧ Drawn (w.drewN n) w') :
    Calls Try.prog f args (w.drewN n) fun e w'' => e = .returned (.bool b) ∧ ∃ m, w'' = w.drewN m :=
  h.mono fun _ _ ⟨he, hm⟩ => ⟨he.is hb, Drawn.trans ⟨n, rfl⟩ hm⟩

set_option maxHeartbeats 1000000 in
theorem strict_any (a : Option Addr) (len cap : Nat) (zs : List Int) (w : World) (hl : len ≤ 131072) (hs : Sl w a len zs) :
    Calls Try.prog 36 #[.slice a len cap] w fun e w' => BoolIf (StrictR zs len) e ∧ Below w.heap.size w w' := by
  by_cases h0 : len ≤ 1
  · have HR := hid (show StrictR zs len from fun i hi => by omega)
    clear hs
    go_enter Try.func36, Try.ntmps36
    go_wp2
    refine wp_loop_rounds 1 ?_
    rw [rounds_succ]
    go_wp2
    go_ret
    exact ⟨BoolIf.yes HR.out, Below.refl _ _⟩
  · obtain ⟨b, off, rfl, hlt, hc⟩ := hs.cells (by omega)
    clear hs
    go_enter Try.func36, Try.ntmps36
    go_wp2
    go_loopw [3] (fun i wr => ∃ k : Nat, k + 1 ≤ len ∧ i = .int .i64 (k + 1 : Nat) ∧ StrictR zs (k + 1) ∧ Below w.heap.size w wr) (fun i _ => len - (intOf i).toNat)
    case atStart => exact ⟨0, by omega, rfl, StrictR.zero zs, Below.refl _ _⟩
    case round =>
      obtain ⟨k, hk, rfl, hall, hbel⟩ := hrel
      have HA := hid hall
      have HB := hid hbel
      by_cases hlt' : k + 1 < len
      · have c1 := (hbel.cell (p := ⟨b, off + k, none⟩) hlt).trans (hc k (by omega))
        have c2 := (hbel.cell (p := ⟨b, off + (k + 1), none⟩) hlt).trans (hc (k + 1) hlt')
        have ii : ((k + 1 : Nat) : Int) - 1 = (k : Int) := by omega
        have i1 : (k : Int) < (len : Int) := by omega
        clear hall hbel
        go_wp2
        go_quiet (fail)
        by_cases hz : zs[k]?.getD 0 < zs[k + 1]?.getD 0
        · have HA2 := hid (HA.out.step hz)
          go_wp2
          go_roundw
          case rel => exact ⟨k + 1, by omega, by go_num, HA2.out, below_drewN HB.out _⟩
          case measure => simp [intOf]; omega
        · go_wp2
          go_ret
          exact ⟨BoolIf.no _, below_drewN HB.out _⟩
      · have e : len = k + 1 := by omega
        subst e
        clear hc hall hbel
        go_wp2
        go_ret
        exact ⟨BoolIf.yes HA.out, HB.out⟩

set_option maxHeartbeats 1000000 in
theorem last_any (a : Option Addr) (len cap : Nat) (zs : List Int) (t : Int) (w : World) (hl : len ≤ 131072) (hs : Sl w a len zs) (hr : StrictR zs len) :
    Calls Try.prog 39 #[.slice a len cap, .int .i64 t] w fun e w' => IntOf (IsLast zs len t) e ∧ w = w' := by
  have HR := hid hr
  clear hr
  go_enter Try.func39, Try.ntmps39
  go_wp2
  go_loop [5, 6] (fun l h => ∃ lo hi : Nat, l = .int .i64 lo ∧ h = .int .i64 hi ∧ Bin zs len t lo hi) (fun l h => (intOf h - intOf l).toNat)
  case atStart => exact ⟨0, len, rfl, rfl, Bin.zero _ _ _⟩
  case round =>
    obtain ⟨lo, hi, rfl, rfl, hb⟩ := hrel
    have HB := hid hb
    have g1 := hb.1
    have g2 := hb.2.1
    clear hb
    by_cases hlt : lo < hi
    · obtain ⟨b, off, rfl, hlt', hc⟩ := hs.cells (by omega)
      obtain ⟨m, hm⟩ : ∃ m : Nat, (lo : Int) + ((hi : Int) - (lo : Int)) / 2 = (m : Int) := ⟨lo + (hi - lo) / 2, by omega⟩
      have hm1 : lo ≤ m := by omega
      have hm2 : m < hi := by omega
      have cc := hc m (by omega)
      clear hc hs
      by_cases hz : zs[m]?.getD 0 ≤ t
      · have HB2 := hid (HB.out.up HR.out hm1 hm2 hz)
        go_wp2
        go_round
        case rel => exact ⟨m + 1, hi, by go_num, rfl, HB2.out⟩
        case measure => simp [intOf]; omega
      · have HB2 := hid (HB.out.down HR.out hm1 hm2 hz)
        go_wp2
        go_round
        case rel => exact ⟨lo, m, rfl, rfl, HB2.out⟩
        case measure => simp [intOf]; omega
    · have e : lo = hi := by omega
      subst e
      have HD := hid HB.out.done
      clear hs
      go_wp2
      go_ret
      exact ⟨⟨_, rfl, HD.out⟩, rfl⟩

set_option maxHeartbeats 1000000 in
theorem row_any (a : Option Addr) (len cap : Nat) (za : List Int) (ka : Nat) (a' : Option Addr) (len' cap' : Nat) (zb : List Int) (kb wd ra rb : Nat) (w : World) (hl : len ≤ 131072) (hl' : len' ≤ 131072) (hs : Sl w a len za) (hs' : Sl w a' len' zb)
    (e1 : len = wd * ra) (e2 : len' = wd * rb) (h1 : ka < ra) (h2 : kb < rb) :
    Calls Try.prog 40 #[.slice a len cap, .int .i64 ka, .slice a' len' cap', .int .i64 kb, .int .i64 wd] w fun e w' => BoolIff (GeRow za ka zb kb wd) e ∧ Drawn w w' := by
  have hwd : wd ≤ 131072 := by
    have := Nat.mul_le_mul_left wd (show 1 ≤ ra by omega)
    omega
  have HE1 := hid e1
  have HE2 := hid e2
  clear e1 e2
  go_enter Try.func40, Try.ntmps40
  go_wp2
  go_loopw [11] (fun i wr => ∃ p : Nat, p ≤ wd ∧ i = .int .i64 p ∧ GeRowTo za ka zb kb wd p ∧ Drawn w wr) (fun i _ => wd - (intOf i).toNat)
  case atStart => exact ⟨0, Nat.zero_le _, rfl, GeRowTo.zero _ _ _ _ _, Drawn.refl _⟩
  case round =>
    obtain ⟨p, hp, rfl, hrow, hbel⟩ := hrel
    have HW := hid hrow
    have HB2 := hid hbel
    by_cases hp' : p < wd
    · have l1 := row_lt wd ra ka p len HE1.out h1 hp'
      have l2 := row_lt wd rb kb p len' HE2.out h2 hp'
      obtain ⟨b, off, rfl, hlt, hc⟩ := (hs.below (hbel.below _)).cells (by omega)
      obtain ⟨b', off', rfl, hlt', hc'⟩ := (hs'.below (hbel.below _)).cells (by omega)
      obtain ⟨i1, hi1⟩ : ∃ i1, ka * wd + p = i1 := ⟨_, rfl⟩
      obtain ⟨i2, hi2⟩ : ∃ i2, kb * wd + p = i2 := ⟨_, rfl⟩
      have j1 : (ka : Int) * (wd : Int) + (p : Int) = (i1 : Int) := by rw [← hi1]; simp
      have j2 : (kb : Int) * (wd : Int) + (p : Int) = (i2 : Int) := by rw [← hi2]; simp
      rw [hi1] at l1
      rw [hi2] at l2
      have c1 := hc i1 l1
      have c2 := hc' i2 l2
      have m1 : (0 : Int) ≤ (ka : Int) * (wd : Int) := Int.mul_nonneg (by omega) (by omega)
      have m2 : (0 : Int) ≤ (kb : Int) * (wd : Int) := Int.mul_nonneg (by omega) (by omega)
      have m3 : (ka : Int) * (wd : Int) ≤ 131072 := by omega
      have m4 : (kb : Int) * (wd : Int) ≤ 131072 := by omega
      have H1 := hid hi1
      have H2 := hid hi2
      clear hi1 hi2 hc hc' hrow hbel hs hs'
      go_wp2
      go_quiet (fail)
      by_cases hz : za[i1]?.getD 0 < zb[i2]?.getD 0
      · have HN := hid (GeRow.not hp' H1.out H2.out hz)
        go_wp2
        go_ret
        exact ⟨BoolIff.no HN.out, HB2.out.drewN _⟩
      · have HW2 := hid (HW.out.step H1.out H2.out hz)
        go_wp2
        go_roundw
        case rel => exact ⟨p + 1, by omega, by go_num, HW2.out, HB2.out.drewN _⟩
        case measure => simp [intOf]; omega
    · have e : p = wd := by omega
      subst e
      have HY := hid (show GeRow za ka zb kb p from hrow)
      clear hrow hbel hs hs'
      go_wp2
      go_ret
      exact ⟨BoolIff.yes HY.out, HB2.out⟩
end Go.Proofs.Qxb6601373a
