/-
  The walk of FnDecimalDigitsOpsAgree, and the plain law behind it.
-/
import Derived.Test.Qxb6600781aDd
namespace Go.Proofs.Qxb6600781a.fnDecimalDigitsOpsAgree
open Go.ChangeShapes Go.WideShapes Go.ChangeAt Go.RowKit
set_option linter.unusedVariables false

/-! ### The plain law -/
theorem agree (ea pa eb pb : Int) (g1 : -536870912 ≤ ea) (g3 : -536870912 ≤ eb) (h1 : 0 ≤ pa) (h2 : pa ≤ 255) (h3 : 0 ≤ pb) (h4 : pb ≤ 255) : ddD 4 ea pa eb pb = ddD 3 ea pa eb pb ∧ scD 4 pa pb = scD 3 pa pb ∧ scD 6 pa pb = scD 3 pa pb ∧
    (ddD 3 ea pa eb pb < 65 → ddD 6 ea pa eb pb = ddD 3 ea pa eb pb - 1) ∧ (¬ ddD 3 ea pa eb pb < 65 → ddD 6 ea pa eb pb = 64 ∨ ddD 6 ea pa eb pb = 65) ∧ -2000000000 ≤ ddD 3 ea pa eb pb ∧ ddD 3 ea pa eb pb ≤ 65 := by
  have h : scD 4 pa pb = scD 3 pa pb ∧ scD 6 pa pb = scD 3 pa pb := by simp [scD]
  have hs := scD_bd 3 pa pb h1 h2 h3 h4
  obtain ⟨k1, k2⟩ := h
  have e3 : ddD 3 ea pa eb pb = min (max (ea - pa) (eb - pb) + 1 + scD 3 pa pb) 65 := by simp [ddD]
  have e4 : ddD 4 ea pa eb pb = min (max (ea - pa) (eb - pb) + 1 + scD 3 pa pb) 65 := by simp [ddD, k1]
  have e6 : ddD 6 ea pa eb pb = min (max (ea - pa) (eb - pb) + scD 3 pa pb) 65 := by simp [ddD, k2]
  omega

/-! ### The walk -/
theorem below4 {w w1 w2 w3 : World} {o1 o2 o3 o4 : Obj} (h1 : Below ((((w.alloc o1).alloc o2).alloc o3).alloc o4).heap.size ((((w.alloc o1).alloc o2).alloc o3).alloc o4) w1) (h2 : Below w1.heap.size w1 w2) (h3 : Below w2.heap.size w2 w3) : Below w.heap.size w w3 := by
  have s1 := h1.size
  have s2 := h2.size
  simp only [World.size_alloc] at s1
  have b0 : Below w.heap.size w ((((w.alloc o1).alloc o2).alloc o3).alloc o4) :=
    ((((Below.refl _ _).alloc (Nat.le_refl _) _).alloc (by simp only [World.size_alloc]; omega) _).alloc (by simp only [World.size_alloc]; omega) _).alloc (by simp only [World.size_alloc]; omega) _
  exact ((b0.trans (h1.mono (by simp only [World.size_alloc]; omega))).trans (h2.mono (by omega))).trans (h3.mono (by omega))
set_option maxHeartbeats 1000000 in
theorem walk (a0 : Int) (a1 : Bool) (a2 : Int) (a3 : Int) (a4 : Int) (a5 : Bool) (a6 : Int) (a7 : Int) (w0 : (Lit.int .u8 a0).wf = true) (w2 : (Lit.int .u8 a2).wf = true) (w3 : (Lit.int .i64 a3).wf = true) (w4 : (Lit.int .u8 a4).wf = true) (w6 : (Lit.int .u8 a6).wf = true) (w7 : (Lit.int .i64 a7).wf = true) (w : World) :
    Calls Try.prog 7 #[.int .u8 a0, .bool a1, .int .u8 a2, .int .i64 a3, .int .u8 a4, .bool a5, .int .u8 a6, .int .i64 a7] w fun e w' => e = .returned (.bool true) ∧ Below w.heap.size w w' := by
  have ⟨p1, p2⟩ := bounds_u8 w2
  have ⟨p3, p4⟩ := bounds_u8 w6
  clear w0 w2 w3 w4 w6 w7
  by_cases ca : a3 < -536870912 ∨ 536870912 < a3
  · go_enter Try.func7, Try.ntmps7
    go_wp2_with (first | (go_at_call 12; refine (len_no _ (by assumption) _).mono ?_; rintro e w' ⟨rfl, rfl⟩))
    go_ret
    exact ⟨rfl, Below.refl _ _⟩
  by_cases cb : a7 < -536870912 ∨ 536870912 < a7
  · have ca1 : -536870912 ≤ a3 := by omega
    have ca2 : a3 ≤ 536870912 := by omega
    clear ca
    go_enter Try.func7, Try.ntmps7
    go_wp2_with fail
    refine (len_yes _ ca1 ca2 _).mono ?_
    rintro e w' ⟨rfl, rfl⟩
    go_wp2_with fail
    refine (len_no _ (by assumption) _).mono ?_
    rintro e w' ⟨rfl, rfl⟩
    go_wp2
    go_ret
    exact ⟨rfl, Below.refl _ _⟩
  have ca1 : -536870912 ≤ a3 := by omega
  have ca2 : a3 ≤ 536870912 := by omega
  have cb1 : -536870912 ≤ a7 := by omega
  have cb2 : a7 ≤ 536870912 := by omega
  clear ca cb
  go_enter Try.func7, Try.ntmps7
  go_wp2_with (first | (go_at_call 12; refine (len_yes _ (by omega) (by omega) _).mono ?_; rintro e w' ⟨rfl, rfl⟩) | (go_at_call 10; refine (col_any _ _ _ _ _).mono ?_; rintro e w' ⟨rfl, rfl⟩))
  have d3 := zz_any 3 ⟨#[]⟩ a0 a1 a2 a3 ⟨#[]⟩ a4 a5 a6 a7 p1 p2 p3 p4 ca1 ca2 cb1 cb2
  have d4 := zz_any 4 ⟨#[]⟩ a0 a1 a2 a3 ⟨#[]⟩ a4 a5 a6 a7 p1 p2 p3 p4 ca1 ca2 cb1 cb2
  have d6 := zz_any 6 ⟨#[]⟩ a0 a1 a2 a3 ⟨#[]⟩ a4 a5 a6 a7 p1 p2 p3 p4 ca1 ca2 cb1 cb2
  have A := agree (exD a0 a1 a3) a2 (exD a4 a5 a7) a6 (exD_bd a0 a1 a3 ca1 ca2).1 (exD_bd a4 a5 a7 cb1 cb2).1 p1 p2 p3 p4
  generalize ddD 3 (exD a0 a1 a3) a2 (exD a4 a5 a7) a6 = D3 at d3 A
  generalize ddD 4 (exD a0 a1 a3) a2 (exD a4 a5 a7) a6 = D4 at d4 A
  generalize ddD 6 (exD a0 a1 a3) a2 (exD a4 a5 a7) a6 = D6 at d6 A
  generalize scD 3 a2 a6 = S3 at d3 A
  generalize scD 4 a2 a6 = S4 at d4 A
  generalize scD 6 a2 a6 = S6 at d6 A
  obtain ⟨rfl, rfl, rfl, A5, A6, A7, A8⟩ := A
  have H3 : Hid _ := d3
  have H4 : Hid _ := d4
  have H6 : Hid _ := d6
  clear d3 d4 d6
  have HA5 : Hid _ := A5
  have HA6 : Hid _ := A6
  clear A5 A6
  refine (H3.out _).mono ?_
  rintro e w1 ⟨rfl, hb1⟩
  obtain ⟨hc1, hf1⟩ := bcell hb1
  have hz1 := hb1.size
  simp only [World.size_alloc] at hz1
  have hz1a : w'.heap.size + 1 < w1.heap.size := by omega
  have hz1b : w'.heap.size + 1 + 1 + 1 < w1.heap.size := by omega
  clear hz1
  go_wp2_with fail
  refine (H4.out _).mono ?_
  rintro e w2 ⟨rfl, hb2⟩
  obtain ⟨hc2, hf2⟩ := bcell hb2
  have hz2 := hb2.size
  have hz2a : w'.heap.size + 1 < w2.heap.size := by omega
  have hz2b : w'.heap.size + 1 + 1 + 1 < w2.heap.size := by omega
  clear hz2
  go_wp2_with fail
  refine (H6.out _).mono ?_
  rintro e w3 ⟨rfl, hb3⟩
  by_cases hlt : D4 < 65
  · have e := HA5.out hlt
    have e1 : (D6 == D4 - 1) = true := by simp [e]
    clear e
    go_wp2
    go_ret
    exact ⟨rfl, below4 hb1 hb2 hb3⟩
  · by_cases e64 : D6 = 64
    · have e1 : (D6 == 64) = true := by simp [e64]
      clear e64
      go_wp2
      go_ret
      exact ⟨rfl, below4 hb1 hb2 hb3⟩
    · have e0 : D6 = 65 := by have := HA6.out (by omega); omega
      have e1 : (D6 == 64) = false := by simp [e64]
      have e2 : (D6 == 65) = true := by simp [e0]
      clear e64 e0
      go_wp2
      go_ret
      exact ⟨rfl, below4 hb1 hb2 hb3⟩

end Go.Proofs.Qxb6600781a.fnDecimalDigitsOpsAgree
