/-
  fitsAtLeast (17) and (*floors).fits (37).
-/
import Derived.Test.Qxb6601373aBase
import Derived.Deep.DrawnRows
namespace Go.Proofs.Qxb6601373a
open Go.RowKit
set_option linter.unusedVariables false

set_option maxHeartbeats 1000000 in
theorem fitsAtLeast_any (M S k n rows : Nat) (most base size : Int) (a4 : Option Addr) (len4 cap4 : Nat) (z4 : List Int) (a5 : Option Addr) (len5 cap5 : Nat) (z5 : List Int) (w : World)
    (s4 : Sl w a4 len4 z4) (s5 : Sl w a5 len5 z5) (e4 : len4 = M * rows) (e5 : len5 = S * rows) (l4 : len4 ≤ 131072) (l5 : len5 ≤ 131072) (hk : k < rows) (hr : rows ≤ 131072) (hn1 : 1 ≤ n) (hn2 : n ≤ M)
    (hbase : ((n : Int) - 1) * most = base) (hb0 : 0 ≤ base) (hb1 : base ≤ 9223372036854775807) (hsz : I64 size) (p4 : NonNeg z4 len4) (p5 : NonNeg z5 len5) :
    Calls Try.prog 17 #[.int .i64 M, .int .i64 S, .int .i64 most, .slice a4 len4 cap4, .slice a5 len5 cap5, .int .i64 k, .int .i64 n, .int .i64 size] w fun e w' => BoolIff (FitAt M S base z4 z5 k n size) e ∧ w = w' := by
  obtain ⟨g1, g2⟩ := hsz
  have hM : M ≤ 131072 := by
    have := Nat.mul_le_mul_left M (show 1 ≤ rows by omega)
    omega
  have hS : S ≤ 131072 := by
    have := Nat.mul_le_mul_left S (show 1 ≤ rows by omega)
    omega
  have x1 := row_lt M rows k (n - 1) len4 e4 hk (by omega)
  obtain ⟨b, off, rfl, hlt, hc⟩ := s4.cells (by omega)
  obtain ⟨i1, hi1⟩ : ∃ i1, k * M + n - 1 = i1 := ⟨_, rfl⟩
  have j1 : (k : Int) * (M : Int) + (n : Int) - 1 = (i1 : Int) := by
    rw [← hi1]
    have : ((k * M + n - 1 : Nat) : Int) = ((k * M : Nat) : Int) + (n : Int) - 1 := by omega
    rw [this]; simp
  have x1' : i1 < len4 := by omega
  have c1 := hc i1 x1'
  have q1 := p4 i1 x1'
  have m1 : (0 : Int) ≤ (k : Int) * (M : Int) := Int.mul_nonneg (by omega) (by omega)
  have m2 : (k : Int) * (M : Int) ≤ 131072 := by omega
  have HC1 := hid hi1
  clear hc hi1 x1
  have hget : z4.getD i1 0 = z4[i1]?.getD 0 := by simp
  by_cases hlev : size ≤ z4[i1]?.getD 0
  · have HF := hid (show FitAt M S base z4 z5 k n size from .inl (by rw [HC1.out, hget]; exact hlev))
    clear e4 e5 hget s4 s5 q1 p4 p5
    go_enter Try.func17, Try.ntmps17
    go_wp2
    go_ret
    exact ⟨BoolIff.yes HF.out, rfl⟩
  have hpos : ¬ size < 1 := by rw [hget] at q1; omega
  have HN := hid (show ¬ size ≤ z4.getD (k * M + n - 1) 0 by rw [HC1.out, hget]; exact hlev)
  have E5 := hid e5
  clear e4 e5 hget s4 q1 p4
  go_enter Try.func17, Try.ntmps17
  go_wp2
  go_loop [18] (fun i => ∃ j : Nat, n ≤ j ∧ (j ≤ S + 1 ∨ j = n) ∧ i = .int .i64 j ∧ ¬ SomeTo S base z5 k n size j) (fun i => S + 1 - (intOf i).toNat)
  case atStart => exact ⟨n, Nat.le_refl _, .inr rfl, rfl, SomeTo.zero _ _ _ _ _ _⟩
  case round =>
    obtain ⟨j, hj1, hj2, rfl, hno⟩ := hrel
    have HNo := hid hno
    clear hno
    by_cases hj : j ≤ S
    · have x2 := row_lt S rows k (j - 1) len5 E5.out hk (by omega)
      obtain ⟨b5, off5, rfl, hlt5, hc5⟩ := s5.cells (by omega)
      obtain ⟨i2, hi2⟩ : ∃ i2, k * S + j - 1 = i2 := ⟨_, rfl⟩
      have j2 : (k : Int) * (S : Int) + (j : Int) - 1 = (i2 : Int) := by
        rw [← hi2]
        have : ((k * S + j - 1 : Nat) : Int) = ((k * S : Nat) : Int) + (j : Int) - 1 := by omega
        rw [this]; simp
      have x2' : i2 < len5 := by omega
      have c2 := hc5 i2 x2'
      have q2 := p5 i2 x2'
      obtain ⟨_, q3⟩ := s5.fits i2
      have m3 : (0 : Int) ≤ (k : Int) * (S : Int) := Int.mul_nonneg (by omega) (by omega)
      have m4 : (k : Int) * (S : Int) ≤ 131072 := by omega
      have hget2 : z5.getD i2 0 = z5[i2]?.getD 0 := by simp
      rw [hget2] at q2 q3
      have HC2 := hid hi2
      have HG2 := hid hget2
      clear hc5 hi2 x2 s5 p5 hget2
      go_wp2_with fail
      refine (exceeds_any _ _ _ ⟨by omega, by omega⟩ (by omega) (by omega) (by omega) (by omega) _).mono ?_
      rintro e w' ⟨⟨bb, rfl, hiff⟩, rfl⟩
      have HS : Hid (bb = true ↔ Says S base z5 k n size j) := by
        refine hiff.trans ?_
        unfold Exc Says
        rw [HC2.out, HG2.out]
      clear hiff
      cases bb
      · have HNo2 := hid (show ¬ SomeTo S base z5 k n size (j + 1) by
          rw [SomeTo.step_iff _ _ _ _ _ _ _ hj1]
          rintro (h | h)
          · exact HNo.out h
          · exact absurd (HS.out.2 h) (by simp))
        go_wp2
        go_round
        case rel => exact ⟨j + 1, by omega, .inl (by omega), by go_num, HNo2.out⟩
        case measure => simp [intOf]; omega
      · have HYes := hid (show FitAt M S base z4 z5 k n size from .inr (((SomeTo.step_iff _ _ _ _ _ _ _ hj1).2 (.inr (HS.out.1 rfl))).mono (by omega)))
        go_wp2
        go_ret
        exact ⟨BoolIff.yes HYes.out, rfl⟩
    · go_wp2
      go_ret
      refine ⟨BoolIff.no ?_, rfl⟩
      rintro (h | h)
      · have := HN.out; omega
      · exact HNo.out (h.mono (by omega))
end Go.Proofs.Qxb6601373a
