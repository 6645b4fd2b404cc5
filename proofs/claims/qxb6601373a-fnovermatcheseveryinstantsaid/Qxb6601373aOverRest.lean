/-
  overShape (27), overDomain (22), ZZOver (23), and the ways on which over (34) and overModel (24) answer no at once.
-/
import Derived.Test.Qxb6601373aOverWalk
import Derived.Deep.OwnRows
namespace Go.Proofs.Qxb6601373a
open Go.RowKit
set_option linter.unusedVariables false

/-! ### Shapes -/
structure Shp (M S : Int) (n lL lS : Nat) (zA : List Int) : Prop where
  m0 : 0 ≤ M
  s0 : 0 ≤ S
  eL : (lL : Int) = M * n
  eS : (lS : Int) = S * n
  st : StrictR zA n

set_option maxHeartbeats 1000000 in
theorem shape_any (M S : Int) (hM : I64 M) (hS : I64 S) (aA : Option Addr) (n cA : Nat) (zA : List Int) (aL : Option Addr) (lL cL : Nat) (aS : Option Addr) (lS cS : Nat) (w : World)
    (sA : Sl w aA n zA) (hl : n ≤ 131072) (hl2 : lL ≤ 131072) (hl3 : lS ≤ 131072) :
    Calls Try.prog 27 #[.int .i64 M, .int .i64 S, .slice aA n cA, .slice aL lL cL, .slice aS lS cS] w fun e w' => BoolIf (Shp M S n lL lS zA) e ∧ Below w.heap.size w w' := by
  obtain ⟨u1, u2⟩ := hM
  obtain ⟨u3, u4⟩ := hS
  have HS := hid sA
  clear sA
  by_cases c1 : M < 0
  · go_enter Try.func27, Try.ntmps27
    go_wp2
    go_ret
    exact ⟨BoolIf.no _, Below.refl _ _⟩
  by_cases c2 : S < 0
  · go_enter Try.func27, Try.ntmps27
    go_wp2
    go_ret
    exact ⟨BoolIf.no _, Below.refl _ _⟩
  go_enter Try.func27, Try.ntmps27
  go_wp2_with fail
  refine (rowsOf_any _ _ _ (by omega) (by omega) (by omega) (by omega) (by omega) (by omega) _).mono ?_
  rintro e w' ⟨⟨b1, rfl, hb1⟩, rfl⟩
  have HB1 := hid hb1
  clear hb1
  cases b1
  · go_wp2
    go_ret
    exact ⟨BoolIf.no _, Below.refl _ _⟩
  replace HB1 := hid (HB1.out rfl)
  go_wp2_with fail
  refine (rowsOf_any _ _ _ (by omega) (by omega) (by omega) (by omega) (by omega) (by omega) _).mono ?_
  rintro e w' ⟨⟨b2, rfl, hb2⟩, rfl⟩
  have HB2 := hid hb2
  clear hb2
  cases b2
  · go_wp2
    go_ret
    exact ⟨BoolIf.no _, Below.refl _ _⟩
  replace HB2 := hid (HB2.out rfl)
  go_wp2_with fail
  refine (strict_any _ _ _ _ _ (by omega) HS.out).mono ?_
  rintro e w1 ⟨⟨b3, rfl, hb3⟩, hw1⟩
  have HB3 := hid hb3
  have HW1 := hid hw1
  clear hb3 hw1
  go_wp2
  go_ret
  exact ⟨⟨_, rfl, fun hb => ⟨by omega, by omega, HB1.out, HB2.out, HB3.out hb⟩⟩, HW1.out⟩

set_option maxHeartbeats 1000000 in
theorem dom2_any (M S first KM KS : Int) (hM : I64 M) (hS : I64 S) (hf : I64 first) (hKM : I64 KM) (hKS : I64 KS) (aA : Option Addr) (n cA : Nat) (zA : List Int) (aL : Option Addr) (lL cL : Nat) (aS : Option Addr) (lS cS : Nat)
    (aK : Option Addr) (r cK : Nat) (zK : List Int) (aKL : Option Addr) (lKL cKL : Nat) (aKS : Option Addr) (lKS cKS : Nat) (w : World)
    (sA : Sl w aA n zA) (sK : Sl w aK r zK) (hl : n + lL + lS + r + lKL + lKS ≤ 131072) :
    Calls Try.prog 22 #[.int .i64 M, .int .i64 S, .slice aA n cA, .slice aL lL cL, .slice aS lS cS, .int .i64 first, .int .i64 KM, .int .i64 KS, .slice aK r cK, .slice aKL lKL cKL, .slice aKS lKS cKS] w fun e w' =>
      BoolIf (0 ≤ first ∧ Shp M S n lL lS zA ∧ Shp KM KS r lKL lKS zK) e ∧ Below w.heap.size w w' := by
  obtain ⟨u1, u2⟩ := hf
  have HS := hid sA
  have HK := hid sK
  clear sA sK
  have t1 : (n : Int) ≤ 131072 := by omega
  have t2 : (lL : Int) ≤ 131072 := by omega
  have t3 : (lS : Int) ≤ 131072 := by omega
  have t4 : (r : Int) ≤ 131072 := by omega
  have t5 : (lKL : Int) ≤ 131072 := by omega
  have t6 : (lKS : Int) ≤ 131072 := by omega
  have t7 : (n : Int) + (lL : Int) + (lS : Int) + (r : Int) + (lKL : Int) + (lKS : Int) ≤ 131072 := by omega
  by_cases c1 : first < 0
  · go_enter Try.func22, Try.ntmps22
    go_wp2
    go_ret
    exact ⟨BoolIf.no _, Below.refl _ _⟩
  go_enter Try.func22, Try.ntmps22
  go_wp2_with fail
  refine (shape_any _ _ hM hS _ _ _ _ _ _ _ _ _ _ _ HS.out (by omega) (by omega) (by omega)).mono ?_
  rintro e w1 ⟨⟨b1, rfl, hb1⟩, hw1⟩
  have HB1 := hid hb1
  have HW1 := hid hw1
  clear hb1 hw1
  cases b1
  · go_wp2
    go_ret
    exact ⟨BoolIf.no _, HW1.out⟩
  replace HB1 := hid (HB1.out rfl)
  go_wp2_with fail
  refine (shape_any _ _ hKM hKS _ _ _ _ _ _ _ _ _ _ _ (HK.out.below HW1.out) (by omega) (by omega) (by omega)).mono ?_
  rintro e w2 ⟨⟨b2, rfl, hb2⟩, hw2⟩
  have HB2 := hid hb2
  have HW2 := hid (HW1.out.trans (hw2.mono HW1.out.size))
  clear hb2 hw2
  go_wp2
  go_ret
  exact ⟨⟨_, rfl, fun hb => ⟨by omega, HB1.out, HB2.out hb⟩⟩, HW2.out⟩

/-! ### The short noes -/
set_option maxHeartbeats 1000000 in
theorem model_no (M S first KM KS : Int) (aA : Option Addr) (n cA : Nat) (aL : Option Addr) (lL cL : Nat) (aS : Option Addr) (lS cS : Nat)
    (aK : Option Addr) (r cK : Nat) (aKL : Option Addr) (lKL cKL : Nat) (aKS : Option Addr) (lKS cKS : Nat) (w : World) (h : ¬ (M = KM ∧ S = KS ∧ 0 < r)) :
    Calls Try.prog 24 #[.int .i64 M, .int .i64 S, .slice aA n cA, .slice aL lL cL, .slice aS lS cS, .int .i64 first, .int .i64 KM, .int .i64 KS, .slice aK r cK, .slice aKL lKL cKL, .slice aKS lKS cKS] w fun e w' =>
      e = .returned (.bool false) ∧ Below w.heap.size w w' := by
  by_cases c1 : M = KM
  · subst c1
    by_cases c2 : S = KS
    · subst c2
      have c3 : r = 0 := by simp at h; omega
      subst c3
      clear h
      go_enter Try.func24, Try.ntmps24
      go_wp2
      go_ret
      exact ⟨rfl, Below.refl _ _⟩
    · have e1 : (S != KS) = true := by simp [c2]
      clear h c2
      go_enter Try.func24, Try.ntmps24
      go_wp2
      go_ret
      exact ⟨rfl, Below.refl _ _⟩
  · have e1 : (M != KM) = true := by simp [c1]
    clear h c1
    go_enter Try.func24, Try.ntmps24
    go_wp2
    go_ret
    exact ⟨rfl, Below.refl _ _⟩

set_option maxRecDepth 100000 in
set_option maxHeartbeats 1000000 in
theorem over_no (B B' : Nat) (M S KM KS : Int) (x5 x6 x7 x8 : Value) (aK : Option Addr) (r cK : Nat) (w : World) (h : ¬ (M = KM ∧ S = KS ∧ 0 < r))
    (d0 : w.cell? ⟨B, 0, none⟩ = some (.int .i64 M)) (d1 : w.cell? ⟨B, 1, none⟩ = some (.int .i64 S))
    (k0 : w.cell? ⟨B', 0, none⟩ = some (.int .i64 KM)) (k1 : w.cell? ⟨B', 1, none⟩ = some (.int .i64 KS)) (k5 : w.cell? ⟨B', 5, none⟩ = some (.slice aK r cK)) :
    Calls Try.prog 34 #[.pointer (some ⟨B, 0, none⟩), .pointer (some ⟨B', 0, none⟩)] w fun e w' => e = .returned (.bool false) ∧ Below w.heap.size w w' := by
  by_cases c1 : M = KM
  · subst c1
    by_cases c2 : S = KS
    · subst c2
      have c3 : r = 0 := by simp at h; omega
      subst c3
      clear h
      go_enter Try.func34, Try.ntmps34
      go_wp2
      go_quiet (fail)
      go_wp2
      go_ret
      exact ⟨rfl, below_drewN (Below.refl _ _) _⟩
    · have e1 : (S != KS) = true := by simp [c2]
      clear h c2
      go_enter Try.func34, Try.ntmps34
      go_wp2
      go_quiet (fail)
      go_wp2
      go_ret
      exact ⟨rfl, below_drewN (Below.refl _ _) _⟩
  · have e1 : (M != KM) = true := by simp [c1]
    clear h c1
    go_enter Try.func34, Try.ntmps34
    go_wp2
    go_quiet (fail)
    go_wp2
    go_ret
    exact ⟨rfl, below_drewN (Below.refl _ _) _⟩
end Go.Proofs.Qxb6601373a
