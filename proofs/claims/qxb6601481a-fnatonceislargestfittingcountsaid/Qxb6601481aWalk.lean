/-
  The plain law and the walk of FnAtOnceIsLargestFittingCount (3): fitsAtOnce (8), ZZAtOnce (7) with atOnce (25).
-/
import Derived.Test.Qxb6601481aRows
import Derived.WalkKit
import Derived.ProofKit
import Derived.OpenShut
import Derived.WalkSpells
import Derived.WalkLawsBesides
import Derived.Below
import Derived.Outline
namespace Go.Proofs.Qxb6601481a
open Go.RowKit
set_option linter.unusedVariables false

theorem hid {p : Prop} (h : p) : Hid p := h
theorem ret_int {k : IntKind} {a b : Int} (h : a = b) : Ending.returned (.int k a) = .returned (.int k b) := by rw [h]

/-! ### Plain -/
/-- k instances of n nodes fit both ceilings. -/
def Fit (k n p : Int) : Prop := k * n * n ≤ 8388608 ∧ (0 < p → p ≤ 67108864 ∧ k * (n + 1) * p ≤ 67108864)
def mostV (n p : Int) : Int := if 0 < p then (if 8388608 / (n * n) < 67108864 / ((n + 1) * p) then 8388608 / (n * n) else 67108864 / ((n + 1) * p)) else 8388608 / (n * n)
def atV (n p : Int) : Int := if 1 < mostV n p then mostV n p else 1

theorem div_iff (a b k : Int) (hb : 0 < b) : k ≤ a / b ↔ k * b ≤ a := Int.le_ediv_iff_mul_le hb

theorem sq_bd (n : Int) (h1 : 1 ≤ n) (h2 : n ≤ 2048) : 1 ≤ n * n ∧ n * n ≤ 4194304 := by
  have a := Int.mul_le_mul_of_nonneg_left h2 (show 0 ≤ n by omega)
  have b := Int.mul_le_mul_of_nonneg_left h1 (show 0 ≤ n by omega)
  omega
theorem np_bd (n p : Int) (h1 : 1 ≤ n) (h2 : n ≤ 2048) (p1 : 0 < p) (p2 : p ≤ 1099511627776) : 1 ≤ (n + 1) * p ∧ (n + 1) * p ≤ 2252899325313024 ∧ p ≤ (n + 1) * p := by
  have a := Int.mul_le_mul_of_nonneg_right (show n + 1 ≤ 2049 by omega) (show 0 ≤ p by omega)
  have b := Int.mul_le_mul_of_nonneg_right (show 1 ≤ n + 1 by omega) (show 0 ≤ p by omega)
  omega

theorem fit_iff (k n p : Int) (h1 : 1 ≤ n) (h2 : n ≤ 2048) (hk : 1 ≤ k) (p2 : p ≤ 1099511627776) : Fit k n p ↔ k ≤ mostV n p := by
  obtain ⟨s1, s2⟩ := sq_bd n h1 h2
  have e1 := div_iff 8388608 (n * n) k (by omega)
  unfold Fit mostV
  rw [Int.mul_assoc]
  by_cases hp : 0 < p
  · obtain ⟨q1, q2, q3⟩ := np_bd n p h1 h2 hp p2
    have e2 := div_iff 67108864 ((n + 1) * p) k (by omega)
    have e3 : k * (n + 1) * p = k * ((n + 1) * p) := Int.mul_assoc _ _ _
    have e4 : k * ((n + 1) * p) ≤ 67108864 → p ≤ 67108864 := by
      intro h
      have := Int.mul_le_mul_of_nonneg_right hk (show 0 ≤ (n + 1) * p by omega)
      omega
    rw [if_pos hp, e3]
    generalize 8388608 / (n * n) = A at *
    generalize 67108864 / ((n + 1) * p) = B at *
    split <;> constructor
    · rintro ⟨a, b⟩
      exact e1.2 a
    · intro h
      have hB : k ≤ B := by omega
      exact ⟨e1.1 h, fun _ => ⟨e4 (e2.1 hB), e2.1 hB⟩⟩
    · rintro ⟨a, b⟩
      exact e2.2 (b hp).2
    · intro h
      have hA : k ≤ A := by omega
      exact ⟨e1.1 hA, fun _ => ⟨e4 (e2.1 h), e2.1 h⟩⟩
  · rw [if_neg hp, e1]
    exact ⟨fun h => h.1, fun h => ⟨h, fun h' => absurd h' hp⟩⟩

theorem most_le (n p : Int) (h1 : 1 ≤ n) (h2 : n ≤ 2048) (p2 : p ≤ 1099511627776) : mostV n p ≤ 8388608 ∧ 0 ≤ mostV n p := by
  obtain ⟨s1, s2⟩ := sq_bd n h1 h2
  have a1 : 8388608 / (n * n) ≤ 8388608 := Int.ediv_le_self _ (by omega)
  have a2 : 0 ≤ 8388608 / (n * n) := Int.ediv_nonneg (by omega) (by omega)
  unfold mostV
  split
  · rename_i hp
    obtain ⟨q1, q2, q3⟩ := np_bd n p h1 h2 hp p2
    have a3 : 0 ≤ 67108864 / ((n + 1) * p) := Int.ediv_nonneg (by omega) (by omega)
    split <;> omega
  · omega

theorem law (n p : Int) (h1 : 1 ≤ n) (h2 : n ≤ 2048) (p2 : p ≤ 1099511627776) :
    1 ≤ atV n p ∧ atV n p ≤ 8388608 ∧ (¬ Fit 1 n p → atV n p = 1) ∧ (Fit 1 n p → Fit (atV n p) n p ∧ ¬ Fit (atV n p + 1) n p) := by
  have m := most_le n p h1 h2 p2
  have f1 := fit_iff 1 n p h1 h2 (by omega) p2
  have h : 1 ≤ atV n p ∧ atV n p ≤ 8388608 := by unfold atV; split <;> omega
  have f2 := fit_iff (atV n p) n p h1 h2 h.1 p2
  have f3 := fit_iff (atV n p + 1) n p h1 h2 (by omega) p2
  refine ⟨h.1, h.2, fun hn => ?_, fun hy => ?_⟩
  · rw [f1] at hn
    unfold atV
    rw [if_neg (by omega)]
  · rw [f1] at hy
    rw [f2, f3]
    have : atV n p = mostV n p := by unfold atV; split <;> omega
    omega

/-! ### fitsAtOnce (8) -/
def BoolIff (P : Prop) (e : Ending) : Prop := ∃ b, e = .returned (.bool b) ∧ (b = true ↔ P)
theorem BoolIff.no {P : Prop} (h : ¬ P) : BoolIff P (.returned (.bool false)) := ⟨false, rfl, by simp [h]⟩
theorem BoolIff.yes {P : Prop} (h : P) : BoolIff P (.returned (.bool true)) := ⟨true, rfl, by simp [h]⟩

theorem kn_bd (k n : Int) (h1 : 1 ≤ n) (h2 : n ≤ 2048) (k1 : 1 ≤ k) (k2 : k ≤ 8388609) : 0 ≤ k * n ∧ k * n ≤ 17179871232 ∧ 0 ≤ k * n * n ∧ k * n * n ≤ 35184376283136 ∧ 0 ≤ k * (n + 1) ∧ k * (n + 1) ≤ 17188259841 := by
  have a1 := Int.mul_nonneg (show 0 ≤ k by omega) (show 0 ≤ n by omega)
  have a2 := Int.mul_le_mul_of_nonneg_left h2 (show 0 ≤ k by omega)
  have b1 := Int.mul_nonneg a1 (show 0 ≤ n by omega)
  have b2 := Int.mul_le_mul_of_nonneg_left h2 a1
  have c1 := Int.mul_nonneg (show 0 ≤ k by omega) (show 0 ≤ n + 1 by omega)
  have c2 := Int.mul_le_mul_of_nonneg_left (show n + 1 ≤ 2049 by omega) (show 0 ≤ k by omega)
  omega
theorem knp_bd (a p : Int) (a1 : 0 ≤ a) (a2 : a ≤ 17188259841) (p1 : 0 < p) (p2 : p ≤ 67108864) : 0 ≤ a * p ∧ a * p ≤ 1153484592081076224 := by
  have b1 := Int.mul_nonneg a1 (show 0 ≤ p by omega)
  have b2 := Int.mul_le_mul_of_nonneg_left p2 a1
  omega

set_option maxHeartbeats 400000 in
theorem fits_any (k n p : Int) (h1 : 1 ≤ n) (h2 : n ≤ 2048) (k1 : 1 ≤ k) (k2 : k ≤ 8388609) (p0 : -9223372036854775808 ≤ p) (p2 : p ≤ 1099511627776) (w : World) :
    Calls Try.prog 8 #[.int .i64 k, .int .i64 n, .int .i64 p] w fun e w' => BoolIff (Fit k n p) e ∧ w = w' := by
  obtain ⟨a1, a2, a3, a4, a5, a6⟩ := kn_bd k n h1 h2 k1 k2
  by_cases c1 : 8388608 < k * n * n
  · have HN := hid (show ¬ Fit k n p from fun h => by have := h.1; omega)
    go_enter Try.func8, Try.ntmps8
    go_wp2
    go_ret
    exact ⟨BoolIff.no HN.out, rfl⟩
  by_cases c2 : 0 < p
  · by_cases c3 : 67108864 < p
    · have HN := hid (show ¬ Fit k n p from fun h => by have := (h.2 c2).1; omega)
      go_enter Try.func8, Try.ntmps8
      go_wp2
      go_ret
      exact ⟨BoolIff.no HN.out, rfl⟩
    obtain ⟨b1, b2⟩ := knp_bd (k * (n + 1)) p a5 a6 c2 (by omega)
    by_cases c4 : 67108864 < k * (n + 1) * p
    · have HN := hid (show ¬ Fit k n p from fun h => by have := (h.2 c2).2; omega)
      go_enter Try.func8, Try.ntmps8
      go_wp2
      go_ret
      exact ⟨BoolIff.no HN.out, rfl⟩
    · have HY := hid (show Fit k n p from ⟨by omega, fun _ => ⟨by omega, by omega⟩⟩)
      go_enter Try.func8, Try.ntmps8
      go_wp2
      go_ret
      exact ⟨BoolIff.yes HY.out, rfl⟩
  · have HY := hid (show Fit k n p from ⟨by omega, fun h => absurd h c2⟩)
    go_enter Try.func8, Try.ntmps8
    go_wp2
    go_ret
    exact ⟨BoolIff.yes HY.out, rfl⟩

/-! ### ZZAtOnce (7) -/
set_option maxHeartbeats 1000000 in
theorem at_any (n p : Int) (h1 : 1 ≤ n) (h2 : n ≤ 2048) (p0 : -9223372036854775808 ≤ p) (p2 : p ≤ 1099511627776) (w : World) :
    Calls Try.prog 7 #[.int .i64 n, .int .i64 p] w fun e w' => e = .returned (.int .i64 (atV n p)) ∧ Below w.heap.size w w' := by
  obtain ⟨s1, s2⟩ := sq_bd n h1 h2
  by_cases c2 : 0 < p
  · obtain ⟨q1, q2, q3⟩ := np_bd n p h1 h2 c2 p2
    go_enter Try.func7, Try.ntmps7
    go_wp2
    all_goals go_ret
    all_goals (refine ⟨ret_int ?_, ?_⟩)
    all_goals first | (unfold atV mostV; (repeat' split) <;> omega) | skip
    all_goals (repeat (first | exact Below.refl _ _ | refine Below.drew ?_ | (refine Below.alloc ?_ (by simp) _)))
  · go_enter Try.func7, Try.ntmps7
    go_wp2
    all_goals go_ret
    all_goals (refine ⟨ret_int ?_, ?_⟩)
    all_goals first | (unfold atV mostV; (repeat' split) <;> omega) | skip
    all_goals (repeat (first | exact Below.refl _ _ | refine Below.drew ?_ | (refine Below.alloc ?_ (by simp) _)))

/-! ### the law (3) -/
set_option maxHeartbeats 1000000 in
theorem law_walk (n p : Int) (n0 : -9223372036854775808 ≤ n) (n9 : n ≤ 9223372036854775807) (p0 : -9223372036854775808 ≤ p) (p9 : p ≤ 9223372036854775807) (w : World) :
    Calls Try.prog 3 #[.int .i64 n, .int .i64 p] w fun e w' => e = .returned (.bool true) ∧ Below w.heap.size w w' := by
  by_cases c1 : n < 1
  · go_enter Try.func3, Try.ntmps3
    go_wp2
    go_ret
    exact ⟨rfl, Below.refl _ _⟩
  by_cases c2 : 2048 < n
  · go_enter Try.func3, Try.ntmps3
    go_wp2
    go_ret
    exact ⟨rfl, Below.refl _ _⟩
  by_cases c3 : 1099511627776 < p
  · go_enter Try.func3, Try.ntmps3
    go_wp2
    go_ret
    exact ⟨rfl, Below.refl _ _⟩
  obtain ⟨l1, l2, l3, l4⟩ := law n p (by omega) (by omega) (by omega)
  have H3 := hid l3
  have H4 := hid l4
  clear l3 l4
  have HA := hid (at_any n p (by omega) (by omega) p0 (by omega))
  generalize atV n p = g at *
  go_enter Try.func3, Try.ntmps3
  go_wp2_with fail
  refine (HA.out _).mono ?_
  rintro e w1 ⟨rfl, hw1⟩
  have HW := hid hw1
  clear hw1
  go_wp2_with fail
  refine (fits_any _ _ _ (by omega) (by omega) (by omega) (by omega) p0 (by omega) _).mono ?_
  rintro e w' ⟨⟨b, rfl, hb⟩, rfl⟩
  have HB := hid hb
  clear hb
  cases b
  · have e1 : (g == 1) = true := by rw [H3.out (fun h => absurd (HB.out.2 h) (by simp))]; rfl
    clear HB H3 H4
    go_wp2
    go_ret
    exact ⟨rfl, HW.out⟩
  have H5 := hid (H4.out (HB.out.1 rfl))
  clear HB H3 H4
  go_wp2_with fail
  refine (fits_any _ _ _ (by omega) (by omega) (by omega) (by omega) p0 (by omega) _).mono ?_
  rintro e w' ⟨⟨b, rfl, hb⟩, rfl⟩
  have e2 : b = true := hb.2 H5.out.1
  subst e2
  clear hb
  go_wp2_with fail
  refine (fits_any _ _ _ (by omega) (by omega) (by omega) (by omega) p0 (by omega) _).mono ?_
  rintro e w' ⟨⟨b, rfl, hb⟩, rfl⟩
  have e3 : b = false := by
    cases b
    · rfl
    · exact absurd (hb.1 rfl) H5.out.2
  subst e3
  clear hb
  go_wp2
  go_ret
  exact ⟨rfl, HW.out⟩
end Go.Proofs.Qxb6601481a
