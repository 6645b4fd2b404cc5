/-
  The walk of FnDecimalDigitsWellFormed, and the plain law behind it.
-/
import Derived.Test.Qxb6600781aDd
namespace Go.Proofs.Qxb6600781a.fnDecimalDigitsWellFormed
open Go.ChangeShapes Go.WideShapes Go.ChangeAt Go.RowKit
set_option linter.unusedVariables false

/-! ### The plain law -/
def Dom (t p l : Int) : Prop := (t = 1 ∧ p = 0) ∨ (t = 2 ∧ p = 0) ∨ (t = 4 ∧ 1 ≤ l ∧ l ≤ 65 ∧ p ≤ 30 ∧ p ≤ l)

theorem exD_dom {t p l : Int} {u : Bool} (h0 : 0 ≤ p) (h : Dom t p l) : 1 ≤ exD t u l ∧ p ≤ exD t u l ∧ p ≤ 30 := by
  rcases h with ⟨rfl, rfl⟩ | ⟨rfl, rfl⟩ | ⟨rfl, h1, h2, h3, h4⟩
  · simp [exD]
  · cases u <;> simp [exD]
  · simp [exD]; omega

theorem wf_neg (ea pa eb : Int) (h0 : 0 ≤ pa) (h1 : 1 ≤ ea) (h2 : pa ≤ ea) (h3 : pa ≤ 30) : 1 ≤ ddD 1 ea pa eb 0 ∧ ddD 1 ea pa eb 0 ≤ 65 ∧ 0 ≤ scD 1 pa 0 ∧ scD 1 pa 0 ≤ 30 ∧ scD 1 pa 0 ≤ ddD 1 ea pa eb 0 := by
  have e : scD 1 pa 0 = max pa 0 := by simp [scD]
  have d : ddD 1 ea pa eb 0 = min ea 65 := by simp [ddD]
  omega
theorem wf_bin (op ea pa eb pb : Int) (ho : op = 3 ∨ op = 4 ∨ op = 5 ∨ op = 6) (h0 : 0 ≤ pa) (h1 : 1 ≤ ea) (h2 : pa ≤ ea) (h3 : pa ≤ 30) (k0 : 0 ≤ pb) (k1 : 1 ≤ eb) (k2 : pb ≤ eb) (k3 : pb ≤ 30) :
    1 ≤ ddD op ea pa eb pb ∧ ddD op ea pa eb pb ≤ 65 ∧ 0 ≤ scD op pa pb ∧ scD op pa pb ≤ 30 ∧ scD op pa pb ≤ ddD op ea pa eb pb := by
  rcases ho with rfl | rfl | rfl | rfl
  · have e : scD 3 pa pb = max pa pb := by simp [scD]
    have d : ddD 3 ea pa eb pb = min (max (ea - pa) (eb - pb) + 1 + scD 3 pa pb) 65 := by simp [ddD]
    omega
  · have e : scD 4 pa pb = max pa pb := by simp [scD]
    have d : ddD 4 ea pa eb pb = min (max (ea - pa) (eb - pb) + 1 + scD 4 pa pb) 65 := by simp [ddD]
    omega
  · have e : scD 5 pa pb = min (pa + pb) 30 := by simp [scD]
    have d : ddD 5 ea pa eb pb = min (ea + eb) 65 := by simp [ddD]
    omega
  · have e : scD 6 pa pb = max pa pb := by simp [scD]
    have d : ddD 6 ea pa eb pb = min (max (ea - pa) (eb - pb) + scD 6 pa pb) 65 := by simp [ddD]
    omega

/-! ### zzExactInDomain -/
set_option maxHeartbeats 1000000 in
theorem dom_yes (t p l : Int) (h0 : 0 ≤ p) (h255 : p ≤ 255) (h : Dom t p l) (w : World) : Calls Try.prog 14 #[.int .u8 t, .int .u8 p, .int .i64 l] w fun e w' => e = .returned (.bool true) ∧ w = w' := by
  rcases h with ⟨rfl, rfl⟩ | ⟨rfl, rfl⟩ | ⟨rfl, h1, h2, h3, h4⟩
  · go_enter Try.func14, Try.ntmps14
    go_wp2
    go_ret
    exact ⟨rfl, rfl⟩
  · go_enter Try.func14, Try.ntmps14
    go_wp2
    go_ret
    exact ⟨rfl, rfl⟩
  · go_enter Try.func14, Try.ntmps14
    go_wp2
    go_ret
    exact ⟨rfl, rfl⟩
set_option maxHeartbeats 1000000 in
theorem dom_no (t p l : Int) (h0 : 0 ≤ p) (h255 : p ≤ 255) (h : ¬ Dom t p l) (w : World) : Calls Try.prog 14 #[.int .u8 t, .int .u8 p, .int .i64 l] w fun e w' => e = .returned (.bool false) ∧ w = w' := by
  unfold Dom at h
  by_cases t1 : t = 1
  · have e0 : (p == 0) = false := by simp; omega
    have e1 : (t == 1) = true := by simp [t1]
    clear h t1
    go_enter Try.func14, Try.ntmps14
    go_wp2
    go_ret
    exact ⟨rfl, rfl⟩
  have e1 : (t == 1) = false := by simp [t1]
  by_cases t2 : t = 2
  · have e0 : (p == 0) = false := by simp; omega
    have e2 : (t == 2) = true := by simp [t2]
    clear h t1 t2
    go_enter Try.func14, Try.ntmps14
    go_wp2
    go_ret
    exact ⟨rfl, rfl⟩
  have e2 : (t == 2) = false := by simp [t2]
  by_cases t4 : t = 4
  · have e4 : (t == 4) = true := by simp [t4]
    by_cases c1 : 1 ≤ l
    · by_cases c2 : l ≤ 65
      · by_cases c3 : p ≤ 30
        · have c4 : ¬ p ≤ l := by omega
          clear h t1 t2 t4
          go_enter Try.func14, Try.ntmps14
          go_wp2
          go_ret
          exact ⟨rfl, rfl⟩
        · clear h t1 t2 t4
          go_enter Try.func14, Try.ntmps14
          go_wp2
          go_ret
          exact ⟨rfl, rfl⟩
      · clear h t1 t2 t4
        go_enter Try.func14, Try.ntmps14
        go_wp2
        go_ret
        exact ⟨rfl, rfl⟩
    · clear h t1 t2 t4
      go_enter Try.func14, Try.ntmps14
      go_wp2
      go_ret
      exact ⟨rfl, rfl⟩
  have e4 : (t == 4) = false := by simp [t4]
  clear h t1 t2 t4
  go_enter Try.func14, Try.ntmps14
  go_wp2
  go_ret
  exact ⟨rfl, rfl⟩
theorem below_ends {w w1 : World} {o1 o2 o3 o4 : Obj} (h1 : Below ((((w.alloc o1).alloc o2).alloc o3).alloc o4).heap.size ((((w.alloc o1).alloc o2).alloc o3).alloc o4) w1) : Below w.heap.size w w1 := by
  have b0 : Below w.heap.size w ((((w.alloc o1).alloc o2).alloc o3).alloc o4) :=
    ((((Below.refl _ _).alloc (Nat.le_refl _) _).alloc (by simp only [World.size_alloc]; omega) _).alloc (by simp only [World.size_alloc]; omega) _).alloc (by simp only [World.size_alloc]; omega) _
  exact b0.trans (h1.mono (by simp only [World.size_alloc]; omega))
theorem len_yes' (l : Int) (h1 : -536870912 ≤ l) (h2 : l ≤ 536870912) (w : World) : Calls Try.prog 12 #[.int .i64 l] w fun e w' => e = .returned (.bool true) ∧ w = w' := (len_yes l h1 h2 w).mono fun _ _ h => ⟨h.1, h.2.symm⟩
theorem len_no' (l : Int) (h : l < -536870912 ∨ 536870912 < l) (w : World) : Calls Try.prog 12 #[.int .i64 l] w fun e w' => e = .returned (.bool false) ∧ w = w' := (len_no l h w).mono fun _ _ h => ⟨h.1, h.2.symm⟩

set_option maxHeartbeats 1000000 in
theorem main3 (a1 : Int) (a2 : Bool) (a3 : Int) (a4 : Int) (a5 : Int) (a6 : Bool) (a7 : Int) (a8 : Int) (p1 : 0 ≤ a3) (p2 : a3 ≤ 255) (p3 : 0 ≤ a7) (p4 : a7 ≤ 255) (ca1 : -536870912 ≤ a4) (ca2 : a4 ≤ 536870912) (cb1 : -536870912 ≤ a8) (cb2 : a8 ≤ 536870912) (da : Dom a1 a3 a4) (db : Dom a5 a7 a8) (w : World) :
    Calls Try.prog 8 #[.int .u8 3, .int .u8 a1, .bool a2, .int .u8 a3, .int .i64 a4, .int .u8 a5, .bool a6, .int .u8 a7, .int .i64 a8] w fun e w' => e = .returned (.bool true) ∧ Below w.heap.size w w' := by
  have W := wf_bin 3 (exD a1 a2 a4) a3 (exD a5 a6 a8) a7 (by omega) p1 (exD_dom p1 da).1 (exD_dom p1 da).2.1 (exD_dom (u := true) p1 da).2.2 p3 (exD_dom p3 db).1 (exD_dom p3 db).2.1 (exD_dom (u := true) p3 db).2.2
  have d := zz_any 3 ⟨#[]⟩ a1 a2 a3 a4 ⟨#[]⟩ a5 a6 a7 a8 p1 p2 p3 p4 ca1 ca2 cb1 cb2
  have ⟨m1, m2, m3, m4, m5⟩ := W
  clear W
  generalize ddD 3 (exD a1 a2 a4) a3 (exD a5 a6 a8) a7 = D at d m1 m2 m3 m4 m5
  generalize scD 3 a3 a7 = S at d m1 m2 m3 m4 m5
  have H : Hid _ := d
  clear d
  go_enter Try.func8, Try.ntmps8
  go_wp2_with (first | (go_at_call 12; refine (len_yes' _ (by omega) (by omega) _).mono ?_; rintro e w' ⟨rfl, rfl⟩) | (go_at_call 14; refine (dom_yes _ _ _ (by omega) (by omega) (by assumption) _).mono ?_; rintro e w' ⟨rfl, rfl⟩) | (go_at_call 10; refine (col_any _ _ _ _ _).mono ?_; rintro e w' ⟨rfl, rfl⟩) | (go_at_call 13; refine (H.out _).mono ?_; rintro e w1 ⟨rfl, hb1⟩))
  go_ret
  exact ⟨rfl, below_ends hb1⟩

set_option maxHeartbeats 1000000 in
theorem main4 (a1 : Int) (a2 : Bool) (a3 : Int) (a4 : Int) (a5 : Int) (a6 : Bool) (a7 : Int) (a8 : Int) (p1 : 0 ≤ a3) (p2 : a3 ≤ 255) (p3 : 0 ≤ a7) (p4 : a7 ≤ 255) (ca1 : -536870912 ≤ a4) (ca2 : a4 ≤ 536870912) (cb1 : -536870912 ≤ a8) (cb2 : a8 ≤ 536870912) (da : Dom a1 a3 a4) (db : Dom a5 a7 a8) (w : World) :
    Calls Try.prog 8 #[.int .u8 4, .int .u8 a1, .bool a2, .int .u8 a3, .int .i64 a4, .int .u8 a5, .bool a6, .int .u8 a7, .int .i64 a8] w fun e w' => e = .returned (.bool true) ∧ Below w.heap.size w w' := by
  have W := wf_bin 4 (exD a1 a2 a4) a3 (exD a5 a6 a8) a7 (by omega) p1 (exD_dom p1 da).1 (exD_dom p1 da).2.1 (exD_dom (u := true) p1 da).2.2 p3 (exD_dom p3 db).1 (exD_dom p3 db).2.1 (exD_dom (u := true) p3 db).2.2
  have d := zz_any 4 ⟨#[]⟩ a1 a2 a3 a4 ⟨#[]⟩ a5 a6 a7 a8 p1 p2 p3 p4 ca1 ca2 cb1 cb2
  have ⟨m1, m2, m3, m4, m5⟩ := W
  clear W
  generalize ddD 4 (exD a1 a2 a4) a3 (exD a5 a6 a8) a7 = D at d m1 m2 m3 m4 m5
  generalize scD 4 a3 a7 = S at d m1 m2 m3 m4 m5
  have H : Hid _ := d
  clear d
  go_enter Try.func8, Try.ntmps8
  go_wp2_with (first | (go_at_call 12; refine (len_yes' _ (by omega) (by omega) _).mono ?_; rintro e w' ⟨rfl, rfl⟩) | (go_at_call 14; refine (dom_yes _ _ _ (by omega) (by omega) (by assumption) _).mono ?_; rintro e w' ⟨rfl, rfl⟩) | (go_at_call 10; refine (col_any _ _ _ _ _).mono ?_; rintro e w' ⟨rfl, rfl⟩) | (go_at_call 13; refine (H.out _).mono ?_; rintro e w1 ⟨rfl, hb1⟩))
  go_ret
  exact ⟨rfl, below_ends hb1⟩

set_option maxHeartbeats 1000000 in
theorem main5 (a1 : Int) (a2 : Bool) (a3 : Int) (a4 : Int) (a5 : Int) (a6 : Bool) (a7 : Int) (a8 : Int) (p1 : 0 ≤ a3) (p2 : a3 ≤ 255) (p3 : 0 ≤ a7) (p4 : a7 ≤ 255) (ca1 : -536870912 ≤ a4) (ca2 : a4 ≤ 536870912) (cb1 : -536870912 ≤ a8) (cb2 : a8 ≤ 536870912) (da : Dom a1 a3 a4) (db : Dom a5 a7 a8) (w : World) :
    Calls Try.prog 8 #[.int .u8 5, .int .u8 a1, .bool a2, .int .u8 a3, .int .i64 a4, .int .u8 a5, .bool a6, .int .u8 a7, .int .i64 a8] w fun e w' => e = .returned (.bool true) ∧ Below w.heap.size w w' := by
  have W := wf_bin 5 (exD a1 a2 a4) a3 (exD a5 a6 a8) a7 (by omega) p1 (exD_dom p1 da).1 (exD_dom p1 da).2.1 (exD_dom (u := true) p1 da).2.2 p3 (exD_dom p3 db).1 (exD_dom p3 db).2.1 (exD_dom (u := true) p3 db).2.2
  have d := zz_any 5 ⟨#[]⟩ a1 a2 a3 a4 ⟨#[]⟩ a5 a6 a7 a8 p1 p2 p3 p4 ca1 ca2 cb1 cb2
  have ⟨m1, m2, m3, m4, m5⟩ := W
  clear W
  generalize ddD 5 (exD a1 a2 a4) a3 (exD a5 a6 a8) a7 = D at d m1 m2 m3 m4 m5
  generalize scD 5 a3 a7 = S at d m1 m2 m3 m4 m5
  have H : Hid _ := d
  clear d
  go_enter Try.func8, Try.ntmps8
  go_wp2_with (first | (go_at_call 12; refine (len_yes' _ (by omega) (by omega) _).mono ?_; rintro e w' ⟨rfl, rfl⟩) | (go_at_call 14; refine (dom_yes _ _ _ (by omega) (by omega) (by assumption) _).mono ?_; rintro e w' ⟨rfl, rfl⟩) | (go_at_call 10; refine (col_any _ _ _ _ _).mono ?_; rintro e w' ⟨rfl, rfl⟩) | (go_at_call 13; refine (H.out _).mono ?_; rintro e w1 ⟨rfl, hb1⟩))
  go_ret
  exact ⟨rfl, below_ends hb1⟩

set_option maxHeartbeats 1000000 in
theorem main6 (a1 : Int) (a2 : Bool) (a3 : Int) (a4 : Int) (a5 : Int) (a6 : Bool) (a7 : Int) (a8 : Int) (p1 : 0 ≤ a3) (p2 : a3 ≤ 255) (p3 : 0 ≤ a7) (p4 : a7 ≤ 255) (ca1 : -536870912 ≤ a4) (ca2 : a4 ≤ 536870912) (cb1 : -536870912 ≤ a8) (cb2 : a8 ≤ 536870912) (da : Dom a1 a3 a4) (db : Dom a5 a7 a8) (w : World) :
    Calls Try.prog 8 #[.int .u8 6, .int .u8 a1, .bool a2, .int .u8 a3, .int .i64 a4, .int .u8 a5, .bool a6, .int .u8 a7, .int .i64 a8] w fun e w' => e = .returned (.bool true) ∧ Below w.heap.size w w' := by
  have W := wf_bin 6 (exD a1 a2 a4) a3 (exD a5 a6 a8) a7 (by omega) p1 (exD_dom p1 da).1 (exD_dom p1 da).2.1 (exD_dom (u := true) p1 da).2.2 p3 (exD_dom p3 db).1 (exD_dom p3 db).2.1 (exD_dom (u := true) p3 db).2.2
  have d := zz_any 6 ⟨#[]⟩ a1 a2 a3 a4 ⟨#[]⟩ a5 a6 a7 a8 p1 p2 p3 p4 ca1 ca2 cb1 cb2
  have ⟨m1, m2, m3, m4, m5⟩ := W
  clear W
  generalize ddD 6 (exD a1 a2 a4) a3 (exD a5 a6 a8) a7 = D at d m1 m2 m3 m4 m5
  generalize scD 6 a3 a7 = S at d m1 m2 m3 m4 m5
  have H : Hid _ := d
  clear d
  go_enter Try.func8, Try.ntmps8
  go_wp2_with (first | (go_at_call 12; refine (len_yes' _ (by omega) (by omega) _).mono ?_; rintro e w' ⟨rfl, rfl⟩) | (go_at_call 14; refine (dom_yes _ _ _ (by omega) (by omega) (by assumption) _).mono ?_; rintro e w' ⟨rfl, rfl⟩) | (go_at_call 10; refine (col_any _ _ _ _ _).mono ?_; rintro e w' ⟨rfl, rfl⟩) | (go_at_call 13; refine (H.out _).mono ?_; rintro e w1 ⟨rfl, hb1⟩))
  go_ret
  exact ⟨rfl, below_ends hb1⟩

set_option maxHeartbeats 1000000 in
theorem main1 (a1 : Int) (a2 : Bool) (a3 : Int) (a4 : Int) (p1 : 0 ≤ a3) (p2 : a3 ≤ 255) (ca1 : -536870912 ≤ a4) (ca2 : a4 ≤ 536870912) (da : Dom a1 a3 a4) (w : World) :
    Calls Try.prog 8 #[.int .u8 1, .int .u8 a1, .bool a2, .int .u8 a3, .int .i64 a4, .int .u8 0, .bool false, .int .u8 0, .int .i64 0] w fun e w' => e = .returned (.bool true) ∧ Below w.heap.size w w' := by
  have W := wf_neg (exD a1 a2 a4) a3 (exD 0 false 0) p1 (exD_dom p1 da).1 (exD_dom p1 da).2.1 (exD_dom (u := true) p1 da).2.2
  have d := zz_any 1 ⟨#[]⟩ a1 a2 a3 a4 ⟨#[]⟩ 0 false 0 0 p1 p2 (by omega) (by omega) ca1 ca2 (by omega) (by omega)
  have ⟨m1, m2, m3, m4, m5⟩ := W
  clear W
  generalize ddD 1 (exD a1 a2 a4) a3 (exD 0 false 0) 0 = D at d m1 m2 m3 m4 m5
  generalize scD 1 a3 0 = S at d m1 m2 m3 m4 m5
  have H : Hid _ := d
  clear d
  go_enter Try.func8, Try.ntmps8
  go_wp2_with (first | (go_at_call 12; refine (len_yes' _ (by omega) (by omega) _).mono ?_; rintro e w' ⟨rfl, rfl⟩) | (go_at_call 14; refine (dom_yes _ _ _ (by omega) (by omega) (by assumption) _).mono ?_; rintro e w' ⟨rfl, rfl⟩) | (go_at_call 10; refine (col_any _ _ _ _ _).mono ?_; rintro e w' ⟨rfl, rfl⟩) | (go_at_call 13; refine (H.out _).mono ?_; rintro e w1 ⟨rfl, hb1⟩))
  go_ret
  exact ⟨rfl, below_ends hb1⟩

set_option maxHeartbeats 1000000 in
theorem out_a (a0 : Int) (a1 : Int) (a2 : Bool) (a3 : Int) (a4 : Int) (a5 : Int) (a6 : Bool) (a7 : Int) (a8 : Int) (c : a4 < -536870912 ∨ 536870912 < a4) (w : World) :
    Calls Try.prog 8 #[.int .u8 a0, .int .u8 a1, .bool a2, .int .u8 a3, .int .i64 a4, .int .u8 a5, .bool a6, .int .u8 a7, .int .i64 a8] w fun e w' => e = .returned (.bool true) ∧ Below w.heap.size w w' := by
  go_enter Try.func8, Try.ntmps8
  go_wp2_with (go_at_call 12; refine (len_no' _ (by assumption) _).mono ?_; rintro e w' ⟨rfl, rfl⟩)
  go_ret
  exact ⟨rfl, Below.refl _ _⟩

set_option maxHeartbeats 1000000 in
theorem out_b (a0 : Int) (a1 : Int) (a2 : Bool) (a3 : Int) (a4 : Int) (a5 : Int) (a6 : Bool) (a7 : Int) (a8 : Int) (ca1 : -536870912 ≤ a4) (ca2 : a4 ≤ 536870912) (c : a8 < -536870912 ∨ 536870912 < a8) (w : World) :
    Calls Try.prog 8 #[.int .u8 a0, .int .u8 a1, .bool a2, .int .u8 a3, .int .i64 a4, .int .u8 a5, .bool a6, .int .u8 a7, .int .i64 a8] w fun e w' => e = .returned (.bool true) ∧ Below w.heap.size w w' := by
  go_enter Try.func8, Try.ntmps8
  go_wp2_with fail
  refine (len_yes' _ ca1 ca2 _).mono ?_
  rintro e w' ⟨rfl, rfl⟩
  go_wp2_with fail
  refine (len_no' _ c _).mono ?_
  rintro e w' ⟨rfl, rfl⟩
  go_wp2
  go_ret
  exact ⟨rfl, Below.refl _ _⟩

set_option maxHeartbeats 1000000 in
theorem no_a (a0 : Int) (a1 : Int) (a2 : Bool) (a3 : Int) (a4 : Int) (a5 : Int) (a6 : Bool) (a7 : Int) (a8 : Int) (p1 : 0 ≤ a3) (p2 : a3 ≤ 255) (p3 : 0 ≤ a7) (p4 : a7 ≤ 255) (ca1 : -536870912 ≤ a4) (ca2 : a4 ≤ 536870912) (cb1 : -536870912 ≤ a8) (cb2 : a8 ≤ 536870912) (da : ¬ Dom a1 a3 a4) (w : World) :
    Calls Try.prog 8 #[.int .u8 a0, .int .u8 a1, .bool a2, .int .u8 a3, .int .i64 a4, .int .u8 a5, .bool a6, .int .u8 a7, .int .i64 a8] w fun e w' => e = .returned (.bool true) ∧ Below w.heap.size w w' := by
  go_enter Try.func8, Try.ntmps8
  go_wp2_with (first | (go_at_call 12; refine (len_yes' _ (by omega) (by omega) _).mono ?_; rintro e w' ⟨rfl, rfl⟩) | (go_at_call 14; refine (dom_yes _ _ _ (by omega) (by omega) (by assumption) _).mono ?_; rintro e w' ⟨rfl, rfl⟩) | (go_at_call 14; refine (dom_no _ _ _ (by omega) (by omega) (by assumption) _).mono ?_; rintro e w' ⟨rfl, rfl⟩))
  go_ret
  exact ⟨rfl, Below.refl _ _⟩

set_option maxHeartbeats 1000000 in
theorem neg1 (a0 : Int) (a1 : Int) (a2 : Bool) (a3 : Int) (a4 : Int) (a5 : Int) (a6 : Bool) (a7 : Int) (a8 : Int) (p1 : 0 ≤ a3) (p2 : a3 ≤ 255) (p3 : 0 ≤ a7) (p4 : a7 ≤ 255) (ca1 : -536870912 ≤ a4) (ca2 : a4 ≤ 536870912) (cb1 : -536870912 ≤ a8) (cb2 : a8 ≤ 536870912) (da : Dom a1 a3 a4) (ho : a0 = 1) (hb : a5 ≠ 0) (w : World) :
    Calls Try.prog 8 #[.int .u8 a0, .int .u8 a1, .bool a2, .int .u8 a3, .int .i64 a4, .int .u8 a5, .bool a6, .int .u8 a7, .int .i64 a8] w fun e w' => e = .returned (.bool true) ∧ Below w.heap.size w w' := by
  have e1 : (a0 == 1) = true := by simp [ho]
  clear ho
  have e5 : (a5 != 0) = true := by simp [hb]
  go_enter Try.func8, Try.ntmps8
  go_wp2_with (first | (go_at_call 12; refine (len_yes' _ (by omega) (by omega) _).mono ?_; rintro e w' ⟨rfl, rfl⟩) | (go_at_call 14; refine (dom_yes _ _ _ (by omega) (by omega) (by assumption) _).mono ?_; rintro e w' ⟨rfl, rfl⟩) | (go_at_call 14; refine (dom_no _ _ _ (by omega) (by omega) (by assumption) _).mono ?_; rintro e w' ⟨rfl, rfl⟩))
  go_ret
  exact ⟨rfl, Below.refl _ _⟩

set_option maxHeartbeats 1000000 in
theorem neg2 (a0 : Int) (a1 : Int) (a2 : Bool) (a3 : Int) (a4 : Int) (a5 : Int) (a6 : Bool) (a7 : Int) (a8 : Int) (p1 : 0 ≤ a3) (p2 : a3 ≤ 255) (p3 : 0 ≤ a7) (p4 : a7 ≤ 255) (ca1 : -536870912 ≤ a4) (ca2 : a4 ≤ 536870912) (cb1 : -536870912 ≤ a8) (cb2 : a8 ≤ 536870912) (da : Dom a1 a3 a4) (ho : a0 = 1) (hb : a5 = 0) (hb2 : a6 = true) (w : World) :
    Calls Try.prog 8 #[.int .u8 a0, .int .u8 a1, .bool a2, .int .u8 a3, .int .i64 a4, .int .u8 a5, .bool a6, .int .u8 a7, .int .i64 a8] w fun e w' => e = .returned (.bool true) ∧ Below w.heap.size w w' := by
  have e1 : (a0 == 1) = true := by simp [ho]
  clear ho
  subst hb hb2
  go_enter Try.func8, Try.ntmps8
  go_wp2_with (first | (go_at_call 12; refine (len_yes' _ (by omega) (by omega) _).mono ?_; rintro e w' ⟨rfl, rfl⟩) | (go_at_call 14; refine (dom_yes _ _ _ (by omega) (by omega) (by assumption) _).mono ?_; rintro e w' ⟨rfl, rfl⟩) | (go_at_call 14; refine (dom_no _ _ _ (by omega) (by omega) (by assumption) _).mono ?_; rintro e w' ⟨rfl, rfl⟩))
  go_ret
  exact ⟨rfl, Below.refl _ _⟩

set_option maxHeartbeats 1000000 in
theorem neg3 (a0 : Int) (a1 : Int) (a2 : Bool) (a3 : Int) (a4 : Int) (a5 : Int) (a6 : Bool) (a7 : Int) (a8 : Int) (p1 : 0 ≤ a3) (p2 : a3 ≤ 255) (p3 : 0 ≤ a7) (p4 : a7 ≤ 255) (ca1 : -536870912 ≤ a4) (ca2 : a4 ≤ 536870912) (cb1 : -536870912 ≤ a8) (cb2 : a8 ≤ 536870912) (da : Dom a1 a3 a4) (ho : a0 = 1) (hb : a5 = 0) (hb2 : a6 = false) (hb3 : a7 ≠ 0) (w : World) :
    Calls Try.prog 8 #[.int .u8 a0, .int .u8 a1, .bool a2, .int .u8 a3, .int .i64 a4, .int .u8 a5, .bool a6, .int .u8 a7, .int .i64 a8] w fun e w' => e = .returned (.bool true) ∧ Below w.heap.size w w' := by
  have e1 : (a0 == 1) = true := by simp [ho]
  clear ho
  subst hb hb2
  have e7 : (a7 != 0) = true := by simp [hb3]
  go_enter Try.func8, Try.ntmps8
  go_wp2_with (first | (go_at_call 12; refine (len_yes' _ (by omega) (by omega) _).mono ?_; rintro e w' ⟨rfl, rfl⟩) | (go_at_call 14; refine (dom_yes _ _ _ (by omega) (by omega) (by assumption) _).mono ?_; rintro e w' ⟨rfl, rfl⟩) | (go_at_call 14; refine (dom_no _ _ _ (by omega) (by omega) (by assumption) _).mono ?_; rintro e w' ⟨rfl, rfl⟩))
  go_ret
  exact ⟨rfl, Below.refl _ _⟩

set_option maxHeartbeats 1000000 in
theorem neg4 (a0 : Int) (a1 : Int) (a2 : Bool) (a3 : Int) (a4 : Int) (a5 : Int) (a6 : Bool) (a7 : Int) (a8 : Int) (p1 : 0 ≤ a3) (p2 : a3 ≤ 255) (p3 : 0 ≤ a7) (p4 : a7 ≤ 255) (ca1 : -536870912 ≤ a4) (ca2 : a4 ≤ 536870912) (cb1 : -536870912 ≤ a8) (cb2 : a8 ≤ 536870912) (da : Dom a1 a3 a4) (ho : a0 = 1) (hb : a5 = 0) (hb2 : a6 = false) (hb3 : a7 = 0) (hb4 : a8 ≠ 0) (w : World) :
    Calls Try.prog 8 #[.int .u8 a0, .int .u8 a1, .bool a2, .int .u8 a3, .int .i64 a4, .int .u8 a5, .bool a6, .int .u8 a7, .int .i64 a8] w fun e w' => e = .returned (.bool true) ∧ Below w.heap.size w w' := by
  have e1 : (a0 == 1) = true := by simp [ho]
  clear ho
  subst hb hb2 hb3
  have e8 : (a8 != 0) = true := by simp [hb4]
  go_enter Try.func8, Try.ntmps8
  go_wp2_with (first | (go_at_call 12; refine (len_yes' _ (by omega) (by omega) _).mono ?_; rintro e w' ⟨rfl, rfl⟩) | (go_at_call 14; refine (dom_yes _ _ _ (by omega) (by omega) (by assumption) _).mono ?_; rintro e w' ⟨rfl, rfl⟩) | (go_at_call 14; refine (dom_no _ _ _ (by omega) (by omega) (by assumption) _).mono ?_; rintro e w' ⟨rfl, rfl⟩))
  go_ret
  exact ⟨rfl, Below.refl _ _⟩

set_option maxHeartbeats 1000000 in
theorem no_b3 (a0 : Int) (a1 : Int) (a2 : Bool) (a3 : Int) (a4 : Int) (a5 : Int) (a6 : Bool) (a7 : Int) (a8 : Int) (p1 : 0 ≤ a3) (p2 : a3 ≤ 255) (p3 : 0 ≤ a7) (p4 : a7 ≤ 255) (ca1 : -536870912 ≤ a4) (ca2 : a4 ≤ 536870912) (cb1 : -536870912 ≤ a8) (cb2 : a8 ≤ 536870912) (da : Dom a1 a3 a4) (ho : a0 = 3) (db : ¬ Dom a5 a7 a8) (w : World) :
    Calls Try.prog 8 #[.int .u8 a0, .int .u8 a1, .bool a2, .int .u8 a3, .int .i64 a4, .int .u8 a5, .bool a6, .int .u8 a7, .int .i64 a8] w fun e w' => e = .returned (.bool true) ∧ Below w.heap.size w w' := by
  subst ho
  go_enter Try.func8, Try.ntmps8
  go_wp2_with fail
  refine (len_yes' _ ca1 ca2 _).mono ?_
  rintro e w' ⟨rfl, rfl⟩
  go_wp2_with fail
  refine (len_yes' _ cb1 cb2 _).mono ?_
  rintro e w' ⟨rfl, rfl⟩
  go_wp2_with fail
  refine (dom_yes _ _ _ p1 p2 da _).mono ?_
  rintro e w' ⟨rfl, rfl⟩
  go_wp2_with fail
  refine (dom_no _ _ _ p3 p4 db _).mono ?_
  rintro e w' ⟨rfl, rfl⟩
  go_wp2
  go_ret
  exact ⟨rfl, Below.refl _ _⟩

set_option maxHeartbeats 1000000 in
theorem no_b4 (a0 : Int) (a1 : Int) (a2 : Bool) (a3 : Int) (a4 : Int) (a5 : Int) (a6 : Bool) (a7 : Int) (a8 : Int) (p1 : 0 ≤ a3) (p2 : a3 ≤ 255) (p3 : 0 ≤ a7) (p4 : a7 ≤ 255) (ca1 : -536870912 ≤ a4) (ca2 : a4 ≤ 536870912) (cb1 : -536870912 ≤ a8) (cb2 : a8 ≤ 536870912) (da : Dom a1 a3 a4) (ho : a0 = 4) (db : ¬ Dom a5 a7 a8) (w : World) :
    Calls Try.prog 8 #[.int .u8 a0, .int .u8 a1, .bool a2, .int .u8 a3, .int .i64 a4, .int .u8 a5, .bool a6, .int .u8 a7, .int .i64 a8] w fun e w' => e = .returned (.bool true) ∧ Below w.heap.size w w' := by
  subst ho
  go_enter Try.func8, Try.ntmps8
  go_wp2_with fail
  refine (len_yes' _ ca1 ca2 _).mono ?_
  rintro e w' ⟨rfl, rfl⟩
  go_wp2_with fail
  refine (len_yes' _ cb1 cb2 _).mono ?_
  rintro e w' ⟨rfl, rfl⟩
  go_wp2_with fail
  refine (dom_yes _ _ _ p1 p2 da _).mono ?_
  rintro e w' ⟨rfl, rfl⟩
  go_wp2_with fail
  refine (dom_no _ _ _ p3 p4 db _).mono ?_
  rintro e w' ⟨rfl, rfl⟩
  go_wp2
  go_ret
  exact ⟨rfl, Below.refl _ _⟩

set_option maxHeartbeats 1000000 in
theorem no_b5 (a0 : Int) (a1 : Int) (a2 : Bool) (a3 : Int) (a4 : Int) (a5 : Int) (a6 : Bool) (a7 : Int) (a8 : Int) (p1 : 0 ≤ a3) (p2 : a3 ≤ 255) (p3 : 0 ≤ a7) (p4 : a7 ≤ 255) (ca1 : -536870912 ≤ a4) (ca2 : a4 ≤ 536870912) (cb1 : -536870912 ≤ a8) (cb2 : a8 ≤ 536870912) (da : Dom a1 a3 a4) (ho : a0 = 5) (db : ¬ Dom a5 a7 a8) (w : World) :
    Calls Try.prog 8 #[.int .u8 a0, .int .u8 a1, .bool a2, .int .u8 a3, .int .i64 a4, .int .u8 a5, .bool a6, .int .u8 a7, .int .i64 a8] w fun e w' => e = .returned (.bool true) ∧ Below w.heap.size w w' := by
  subst ho
  go_enter Try.func8, Try.ntmps8
  go_wp2_with fail
  refine (len_yes' _ ca1 ca2 _).mono ?_
  rintro e w' ⟨rfl, rfl⟩
  go_wp2_with fail
  refine (len_yes' _ cb1 cb2 _).mono ?_
  rintro e w' ⟨rfl, rfl⟩
  go_wp2_with fail
  refine (dom_yes _ _ _ p1 p2 da _).mono ?_
  rintro e w' ⟨rfl, rfl⟩
  go_wp2_with fail
  refine (dom_no _ _ _ p3 p4 db _).mono ?_
  rintro e w' ⟨rfl, rfl⟩
  go_wp2
  go_ret
  exact ⟨rfl, Below.refl _ _⟩

set_option maxHeartbeats 1000000 in
theorem no_b6 (a0 : Int) (a1 : Int) (a2 : Bool) (a3 : Int) (a4 : Int) (a5 : Int) (a6 : Bool) (a7 : Int) (a8 : Int) (p1 : 0 ≤ a3) (p2 : a3 ≤ 255) (p3 : 0 ≤ a7) (p4 : a7 ≤ 255) (ca1 : -536870912 ≤ a4) (ca2 : a4 ≤ 536870912) (cb1 : -536870912 ≤ a8) (cb2 : a8 ≤ 536870912) (da : Dom a1 a3 a4) (ho : a0 = 6) (db : ¬ Dom a5 a7 a8) (w : World) :
    Calls Try.prog 8 #[.int .u8 a0, .int .u8 a1, .bool a2, .int .u8 a3, .int .i64 a4, .int .u8 a5, .bool a6, .int .u8 a7, .int .i64 a8] w fun e w' => e = .returned (.bool true) ∧ Below w.heap.size w w' := by
  subst ho
  go_enter Try.func8, Try.ntmps8
  go_wp2_with fail
  refine (len_yes' _ ca1 ca2 _).mono ?_
  rintro e w' ⟨rfl, rfl⟩
  go_wp2_with fail
  refine (len_yes' _ cb1 cb2 _).mono ?_
  rintro e w' ⟨rfl, rfl⟩
  go_wp2_with fail
  refine (dom_yes _ _ _ p1 p2 da _).mono ?_
  rintro e w' ⟨rfl, rfl⟩
  go_wp2_with fail
  refine (dom_no _ _ _ p3 p4 db _).mono ?_
  rintro e w' ⟨rfl, rfl⟩
  go_wp2
  go_ret
  exact ⟨rfl, Below.refl _ _⟩

set_option maxHeartbeats 1000000 in
theorem els (a0 : Int) (a1 : Int) (a2 : Bool) (a3 : Int) (a4 : Int) (a5 : Int) (a6 : Bool) (a7 : Int) (a8 : Int) (p1 : 0 ≤ a3) (p2 : a3 ≤ 255) (p3 : 0 ≤ a7) (p4 : a7 ≤ 255) (ca1 : -536870912 ≤ a4) (ca2 : a4 ≤ 536870912) (cb1 : -536870912 ≤ a8) (cb2 : a8 ≤ 536870912) (da : Dom a1 a3 a4) (ho : a0 ≠ 1 ∧ a0 ≠ 3 ∧ a0 ≠ 4 ∧ a0 ≠ 5 ∧ a0 ≠ 6) (w : World) :
    Calls Try.prog 8 #[.int .u8 a0, .int .u8 a1, .bool a2, .int .u8 a3, .int .i64 a4, .int .u8 a5, .bool a6, .int .u8 a7, .int .i64 a8] w fun e w' => e = .returned (.bool true) ∧ Below w.heap.size w w' := by
  have e1 : (a0 == 1) = false := by simp; omega
  have e3 : (a0 == 3) = false := by simp; omega
  have e4 : (a0 == 4) = false := by simp; omega
  have e5 : (a0 == 5) = false := by simp; omega
  have e6 : (a0 == 6) = false := by simp; omega
  clear ho
  go_enter Try.func8, Try.ntmps8
  go_wp2_with (first | (go_at_call 12; refine (len_yes' _ (by omega) (by omega) _).mono ?_; rintro e w' ⟨rfl, rfl⟩) | (go_at_call 14; refine (dom_yes _ _ _ (by omega) (by omega) (by assumption) _).mono ?_; rintro e w' ⟨rfl, rfl⟩) | (go_at_call 14; refine (dom_no _ _ _ (by omega) (by omega) (by assumption) _).mono ?_; rintro e w' ⟨rfl, rfl⟩))
  go_ret
  exact ⟨rfl, Below.refl _ _⟩

theorem walk (a0 : Int) (a1 : Int) (a2 : Bool) (a3 : Int) (a4 : Int) (a5 : Int) (a6 : Bool) (a7 : Int) (a8 : Int) (w0 : (Lit.int .u8 a0).wf = true) (w1 : (Lit.int .u8 a1).wf = true) (w3 : (Lit.int .u8 a3).wf = true) (w4 : (Lit.int .i64 a4).wf = true) (w5 : (Lit.int .u8 a5).wf = true) (w7 : (Lit.int .u8 a7).wf = true) (w8 : (Lit.int .i64 a8).wf = true) (w : World) :
    Calls Try.prog 8 #[.int .u8 a0, .int .u8 a1, .bool a2, .int .u8 a3, .int .i64 a4, .int .u8 a5, .bool a6, .int .u8 a7, .int .i64 a8] w fun e w' => e = .returned (.bool true) ∧ Below w.heap.size w w' := by
  have ⟨p1, p2⟩ := bounds_u8 w3
  have ⟨p3, p4⟩ := bounds_u8 w7
  by_cases ca : a4 < -536870912 ∨ 536870912 < a4
  · exact out_a a0 a1 a2 a3 a4 a5 a6 a7 a8 ca w
  have ca1 : -536870912 ≤ a4 := by omega
  have ca2 : a4 ≤ 536870912 := by omega
  by_cases cb : a8 < -536870912 ∨ 536870912 < a8
  · exact out_b a0 a1 a2 a3 a4 a5 a6 a7 a8 ca1 ca2 cb w
  have cb1 : -536870912 ≤ a8 := by omega
  have cb2 : a8 ≤ 536870912 := by omega
  by_cases da : Dom a1 a3 a4
  case neg => exact no_a a0 a1 a2 a3 a4 a5 a6 a7 a8 p1 p2 p3 p4 ca1 ca2 cb1 cb2 da w
  by_cases o1 : a0 = 1
  · by_cases b5 : a5 = 0
    · cases b6 : a6
      · by_cases b7 : a7 = 0
        · by_cases b8 : a8 = 0
          · subst o1 b5 b7 b8
            exact main1 a1 a2 a3 a4 p1 p2 ca1 ca2 da w
          · exact neg4 a0 a1 a2 a3 a4 a5 false a7 a8 p1 p2 p3 p4 ca1 ca2 cb1 cb2 da o1 b5 rfl b7 b8 w
        · exact neg3 a0 a1 a2 a3 a4 a5 false a7 a8 p1 p2 p3 p4 ca1 ca2 cb1 cb2 da o1 b5 rfl b7 w
      · exact neg2 a0 a1 a2 a3 a4 a5 true a7 a8 p1 p2 p3 p4 ca1 ca2 cb1 cb2 da o1 b5 rfl w
    · exact neg1 a0 a1 a2 a3 a4 a5 a6 a7 a8 p1 p2 p3 p4 ca1 ca2 cb1 cb2 da o1 b5 w
  by_cases o3 : a0 = 3
  · by_cases db : Dom a5 a7 a8
    · subst o3
      exact main3 a1 a2 a3 a4 a5 a6 a7 a8 p1 p2 p3 p4 ca1 ca2 cb1 cb2 da db w
    · exact no_b3 a0 a1 a2 a3 a4 a5 a6 a7 a8 p1 p2 p3 p4 ca1 ca2 cb1 cb2 da o3 db w
  by_cases o4 : a0 = 4
  · by_cases db : Dom a5 a7 a8
    · subst o4
      exact main4 a1 a2 a3 a4 a5 a6 a7 a8 p1 p2 p3 p4 ca1 ca2 cb1 cb2 da db w
    · exact no_b4 a0 a1 a2 a3 a4 a5 a6 a7 a8 p1 p2 p3 p4 ca1 ca2 cb1 cb2 da o4 db w
  by_cases o5 : a0 = 5
  · by_cases db : Dom a5 a7 a8
    · subst o5
      exact main5 a1 a2 a3 a4 a5 a6 a7 a8 p1 p2 p3 p4 ca1 ca2 cb1 cb2 da db w
    · exact no_b5 a0 a1 a2 a3 a4 a5 a6 a7 a8 p1 p2 p3 p4 ca1 ca2 cb1 cb2 da o5 db w
  by_cases o6 : a0 = 6
  · by_cases db : Dom a5 a7 a8
    · subst o6
      exact main6 a1 a2 a3 a4 a5 a6 a7 a8 p1 p2 p3 p4 ca1 ca2 cb1 cb2 da db w
    · exact no_b6 a0 a1 a2 a3 a4 a5 a6 a7 a8 p1 p2 p3 p4 ca1 ca2 cb1 cb2 da o6 db w
  exact els a0 a1 a2 a3 a4 a5 a6 a7 a8 p1 p2 p3 p4 ca1 ca2 cb1 cb2 da ⟨o1, o3, o4, o5, o6⟩ w
end Go.Proofs.Qxb6600781a.fnDecimalDigitsWellFormed
