/-
  decimalDigits (16) and ZZDecimalDigits (13) by contract.
-/
import Derived.Test.Qxb6600781aDigits
import Derived.Deep.DrawnRows
namespace Go.Proofs.Qxb6600781a
open Go.RowKit
attribute [local go_sem ↓] Go.wp_at_zero Go.wp_at_succ

theorem ret_int2 {k l : IntKind} {a b c d : Int} (h : a = b) (h' : c = d) : Ending.returned (.tuple #[.int k a, .int l c]) = .returned (.tuple #[.int k b, .int l d]) := by rw [h, h']

set_option maxHeartbeats 1000000 in
theorem digits_add (op : Int) (hop : op = 3) (sa : ByteArray) (ta : Int) (ua : Bool) (pa la : Int) (sb : ByteArray) (tb : Int) (ub : Bool) (pb lb : Int) (h1 : 0 ≤ pa) (h2 : pa ≤ 255) (h3 : 0 ≤ pb) (h4 : pb ≤ 255)
    (g1 : -536870912 ≤ la) (g2 : la ≤ 536870912) (g3 : -536870912 ≤ lb) (g4 : lb ≤ 536870912) (w : World) :
    Calls Try.prog 16 #[.int .u8 op, .agg #[.string sa, .int .u8 ta, .bool ua, .int .u8 pa, .int .i64 la], .agg #[.string sb, .int .u8 tb, .bool ub, .int .u8 pb, .int .i64 lb]] w fun e w' =>
      e = .returned (.tuple #[.int .i64 (ddD op (exD ta ua la) pa (exD tb ub lb) pb), .int .i64 (scD op pa pb)]) ∧ Below w.heap.size w w' := by
  obtain ⟨b1, b2⟩ := exD_bd ta ua la g1 g2
  obtain ⟨b3, b4⟩ := exD_bd tb ub lb g3 g4
  obtain ⟨b5, b6⟩ := scD_bd op pa pb h1 h2 h3 h4
  have e3 : (op == 3) = true := by simp; omega
  have X : ddD op (exD ta ua la) pa (exD tb ub lb) pb = min (max (exD ta ua la - pa) (exD tb ub lb - pb) + 1 + scD op pa pb) 65 := by simp [ddD, hop]
  rw [X]; clear X hop g1 g2 g3 g4
  go_enter Try.func16, Try.ntmps16
  go_wp2_with fail
  go_quiet (fail)
  go_wp2_with fail
  go_region_held3 (fun w' => w'.cell? ⟨w.heap.size, 0, none⟩ = some (.string sa) ∧ w'.cell? ⟨w.heap.size, 1, none⟩ = some (.int .u8 ta) ∧ w'.cell? ⟨w.heap.size, 2, none⟩ = some (.bool ua) ∧ w'.cell? ⟨w.heap.size, 3, none⟩ = some (.int .u8 pa) ∧ w'.cell? ⟨w.heap.size, 4, none⟩ = some (.int .i64 la) ∧
     w'.cell? ⟨w.heap.size + 1, 0, none⟩ = some (.string sb) ∧ w'.cell? ⟨w.heap.size + 1, 1, none⟩ = some (.int .u8 tb) ∧ w'.cell? ⟨w.heap.size + 1, 2, none⟩ = some (.bool ub) ∧ w'.cell? ⟨w.heap.size + 1, 3, none⟩ = some (.int .u8 pb) ∧ w'.cell? ⟨w.heap.size + 1, 4, none⟩ = some (.int .i64 lb)) (simp [go_sem, World.cell?_alloc_past])
    (first | (go_at_call 17; refine (exact_any _ _ _ _ _ _).mono ?_; rintro e w' ⟨rfl, rfl⟩))
  all_goals go_wp2_with (first | (go_at_call 18; refine (scale_any _ _ _ (by omega) (by omega) (by omega) (by omega) _).mono ?_; rintro e w' ⟨rfl, rfl⟩) | (go_at_call 17; refine (exact_any _ _ _ _ _ _).mono ?_; rintro e w' ⟨rfl, rfl⟩))
  all_goals go_ret2
  all_goals (refine ⟨ret_int2 (by omega) rfl, ?_⟩; repeat (first | exact Below.refl _ _ | (refine below_drewN ?_ _) | refine Below.drew ?_ | (refine Below.alloc ?_ (by simp; try omega) _)))

set_option maxHeartbeats 1000000 in
theorem digits_sub (op : Int) (hop : op = 4) (sa : ByteArray) (ta : Int) (ua : Bool) (pa la : Int) (sb : ByteArray) (tb : Int) (ub : Bool) (pb lb : Int) (h1 : 0 ≤ pa) (h2 : pa ≤ 255) (h3 : 0 ≤ pb) (h4 : pb ≤ 255)
    (g1 : -536870912 ≤ la) (g2 : la ≤ 536870912) (g3 : -536870912 ≤ lb) (g4 : lb ≤ 536870912) (w : World) :
    Calls Try.prog 16 #[.int .u8 op, .agg #[.string sa, .int .u8 ta, .bool ua, .int .u8 pa, .int .i64 la], .agg #[.string sb, .int .u8 tb, .bool ub, .int .u8 pb, .int .i64 lb]] w fun e w' =>
      e = .returned (.tuple #[.int .i64 (ddD op (exD ta ua la) pa (exD tb ub lb) pb), .int .i64 (scD op pa pb)]) ∧ Below w.heap.size w w' := by
  obtain ⟨b1, b2⟩ := exD_bd ta ua la g1 g2
  obtain ⟨b3, b4⟩ := exD_bd tb ub lb g3 g4
  obtain ⟨b5, b6⟩ := scD_bd op pa pb h1 h2 h3 h4
  have e3 : (op == 3) = false := by simp; omega
  have e4 : (op == 4) = true := by simp; omega
  have X : ddD op (exD ta ua la) pa (exD tb ub lb) pb = min (max (exD ta ua la - pa) (exD tb ub lb - pb) + 1 + scD op pa pb) 65 := by simp [ddD, hop]
  rw [X]; clear X hop g1 g2 g3 g4
  go_enter Try.func16, Try.ntmps16
  go_wp2_with fail
  go_quiet (fail)
  go_wp2_with fail
  go_region_held3 (fun w' => w'.cell? ⟨w.heap.size, 0, none⟩ = some (.string sa) ∧ w'.cell? ⟨w.heap.size, 1, none⟩ = some (.int .u8 ta) ∧ w'.cell? ⟨w.heap.size, 2, none⟩ = some (.bool ua) ∧ w'.cell? ⟨w.heap.size, 3, none⟩ = some (.int .u8 pa) ∧ w'.cell? ⟨w.heap.size, 4, none⟩ = some (.int .i64 la) ∧
     w'.cell? ⟨w.heap.size + 1, 0, none⟩ = some (.string sb) ∧ w'.cell? ⟨w.heap.size + 1, 1, none⟩ = some (.int .u8 tb) ∧ w'.cell? ⟨w.heap.size + 1, 2, none⟩ = some (.bool ub) ∧ w'.cell? ⟨w.heap.size + 1, 3, none⟩ = some (.int .u8 pb) ∧ w'.cell? ⟨w.heap.size + 1, 4, none⟩ = some (.int .i64 lb)) (simp [go_sem, World.cell?_alloc_past])
    (first | (go_at_call 17; refine (exact_any _ _ _ _ _ _).mono ?_; rintro e w' ⟨rfl, rfl⟩))
  all_goals go_wp2_with (first | (go_at_call 18; refine (scale_any _ _ _ (by omega) (by omega) (by omega) (by omega) _).mono ?_; rintro e w' ⟨rfl, rfl⟩) | (go_at_call 17; refine (exact_any _ _ _ _ _ _).mono ?_; rintro e w' ⟨rfl, rfl⟩))
  all_goals go_ret2
  all_goals (refine ⟨ret_int2 (by omega) rfl, ?_⟩; repeat (first | exact Below.refl _ _ | (refine below_drewN ?_ _) | refine Below.drew ?_ | (refine Below.alloc ?_ (by simp; try omega) _)))

set_option maxHeartbeats 1000000 in
theorem digits_mul (op : Int) (hop : op = 5) (sa : ByteArray) (ta : Int) (ua : Bool) (pa la : Int) (sb : ByteArray) (tb : Int) (ub : Bool) (pb lb : Int) (h1 : 0 ≤ pa) (h2 : pa ≤ 255) (h3 : 0 ≤ pb) (h4 : pb ≤ 255)
    (g1 : -536870912 ≤ la) (g2 : la ≤ 536870912) (g3 : -536870912 ≤ lb) (g4 : lb ≤ 536870912) (w : World) :
    Calls Try.prog 16 #[.int .u8 op, .agg #[.string sa, .int .u8 ta, .bool ua, .int .u8 pa, .int .i64 la], .agg #[.string sb, .int .u8 tb, .bool ub, .int .u8 pb, .int .i64 lb]] w fun e w' =>
      e = .returned (.tuple #[.int .i64 (ddD op (exD ta ua la) pa (exD tb ub lb) pb), .int .i64 (scD op pa pb)]) ∧ Below w.heap.size w w' := by
  obtain ⟨b1, b2⟩ := exD_bd ta ua la g1 g2
  obtain ⟨b3, b4⟩ := exD_bd tb ub lb g3 g4
  obtain ⟨b5, b6⟩ := scD_bd op pa pb h1 h2 h3 h4
  have e3 : (op == 3) = false := by simp; omega
  have e4 : (op == 4) = false := by simp; omega
  have e5 : (op == 5) = true := by simp; omega
  have X : ddD op (exD ta ua la) pa (exD tb ub lb) pb = min (exD ta ua la + exD tb ub lb) 65 := by simp [ddD, hop]
  rw [X]; clear X hop g1 g2 g3 g4
  go_enter Try.func16, Try.ntmps16
  go_wp2_with fail
  go_quiet (fail)
  go_wp2_with fail
  go_region_held3 (fun w' => w'.cell? ⟨w.heap.size, 0, none⟩ = some (.string sa) ∧ w'.cell? ⟨w.heap.size, 1, none⟩ = some (.int .u8 ta) ∧ w'.cell? ⟨w.heap.size, 2, none⟩ = some (.bool ua) ∧ w'.cell? ⟨w.heap.size, 3, none⟩ = some (.int .u8 pa) ∧ w'.cell? ⟨w.heap.size, 4, none⟩ = some (.int .i64 la) ∧
     w'.cell? ⟨w.heap.size + 1, 0, none⟩ = some (.string sb) ∧ w'.cell? ⟨w.heap.size + 1, 1, none⟩ = some (.int .u8 tb) ∧ w'.cell? ⟨w.heap.size + 1, 2, none⟩ = some (.bool ub) ∧ w'.cell? ⟨w.heap.size + 1, 3, none⟩ = some (.int .u8 pb) ∧ w'.cell? ⟨w.heap.size + 1, 4, none⟩ = some (.int .i64 lb)) (simp [go_sem, World.cell?_alloc_past])
    (first | (go_at_call 17; refine (exact_any _ _ _ _ _ _).mono ?_; rintro e w' ⟨rfl, rfl⟩))
  all_goals go_wp2_with (first | (go_at_call 18; refine (scale_any _ _ _ (by omega) (by omega) (by omega) (by omega) _).mono ?_; rintro e w' ⟨rfl, rfl⟩) | (go_at_call 17; refine (exact_any _ _ _ _ _ _).mono ?_; rintro e w' ⟨rfl, rfl⟩))
  all_goals go_region_held3 (fun w' => w'.cell? ⟨w.heap.size, 0, none⟩ = some (.string sa) ∧ w'.cell? ⟨w.heap.size, 1, none⟩ = some (.int .u8 ta) ∧ w'.cell? ⟨w.heap.size, 2, none⟩ = some (.bool ua) ∧ w'.cell? ⟨w.heap.size, 3, none⟩ = some (.int .u8 pa) ∧ w'.cell? ⟨w.heap.size, 4, none⟩ = some (.int .i64 la) ∧
     w'.cell? ⟨w.heap.size + 1, 0, none⟩ = some (.string sb) ∧ w'.cell? ⟨w.heap.size + 1, 1, none⟩ = some (.int .u8 tb) ∧ w'.cell? ⟨w.heap.size + 1, 2, none⟩ = some (.bool ub) ∧ w'.cell? ⟨w.heap.size + 1, 3, none⟩ = some (.int .u8 pb) ∧ w'.cell? ⟨w.heap.size + 1, 4, none⟩ = some (.int .i64 lb)) (simp [go_sem, World.cell?_alloc_past])
    (first | (go_at_call 17; refine (exact_any _ _ _ _ _ _).mono ?_; rintro e w' ⟨rfl, rfl⟩))
  all_goals go_wp2
  all_goals go_ret2
  all_goals (refine ⟨ret_int2 (by omega) rfl, ?_⟩; repeat (first | exact Below.refl _ _ | (refine below_drewN ?_ _) | refine Below.drew ?_ | (refine Below.alloc ?_ (by simp; try omega) _)))

set_option maxHeartbeats 1000000 in
theorem digits_mod (op : Int) (hop : op = 6) (sa : ByteArray) (ta : Int) (ua : Bool) (pa la : Int) (sb : ByteArray) (tb : Int) (ub : Bool) (pb lb : Int) (h1 : 0 ≤ pa) (h2 : pa ≤ 255) (h3 : 0 ≤ pb) (h4 : pb ≤ 255)
    (g1 : -536870912 ≤ la) (g2 : la ≤ 536870912) (g3 : -536870912 ≤ lb) (g4 : lb ≤ 536870912) (w : World) :
    Calls Try.prog 16 #[.int .u8 op, .agg #[.string sa, .int .u8 ta, .bool ua, .int .u8 pa, .int .i64 la], .agg #[.string sb, .int .u8 tb, .bool ub, .int .u8 pb, .int .i64 lb]] w fun e w' =>
      e = .returned (.tuple #[.int .i64 (ddD op (exD ta ua la) pa (exD tb ub lb) pb), .int .i64 (scD op pa pb)]) ∧ Below w.heap.size w w' := by
  obtain ⟨b1, b2⟩ := exD_bd ta ua la g1 g2
  obtain ⟨b3, b4⟩ := exD_bd tb ub lb g3 g4
  obtain ⟨b5, b6⟩ := scD_bd op pa pb h1 h2 h3 h4
  have e3 : (op == 3) = false := by simp; omega
  have e4 : (op == 4) = false := by simp; omega
  have e5 : (op == 5) = false := by simp; omega
  have e6 : (op == 6) = true := by simp; omega
  have X : ddD op (exD ta ua la) pa (exD tb ub lb) pb = min (max (exD ta ua la - pa) (exD tb ub lb - pb) + scD op pa pb) 65 := by simp [ddD, hop]
  rw [X]; clear X hop g1 g2 g3 g4
  go_enter Try.func16, Try.ntmps16
  go_wp2_with fail
  go_quiet (fail)
  go_wp2_with fail
  go_region_held3 (fun w' => w'.cell? ⟨w.heap.size, 0, none⟩ = some (.string sa) ∧ w'.cell? ⟨w.heap.size, 1, none⟩ = some (.int .u8 ta) ∧ w'.cell? ⟨w.heap.size, 2, none⟩ = some (.bool ua) ∧ w'.cell? ⟨w.heap.size, 3, none⟩ = some (.int .u8 pa) ∧ w'.cell? ⟨w.heap.size, 4, none⟩ = some (.int .i64 la) ∧
     w'.cell? ⟨w.heap.size + 1, 0, none⟩ = some (.string sb) ∧ w'.cell? ⟨w.heap.size + 1, 1, none⟩ = some (.int .u8 tb) ∧ w'.cell? ⟨w.heap.size + 1, 2, none⟩ = some (.bool ub) ∧ w'.cell? ⟨w.heap.size + 1, 3, none⟩ = some (.int .u8 pb) ∧ w'.cell? ⟨w.heap.size + 1, 4, none⟩ = some (.int .i64 lb)) (simp [go_sem, World.cell?_alloc_past])
    (first | (go_at_call 17; refine (exact_any _ _ _ _ _ _).mono ?_; rintro e w' ⟨rfl, rfl⟩))
  all_goals go_wp2_with (first | (go_at_call 18; refine (scale_any _ _ _ (by omega) (by omega) (by omega) (by omega) _).mono ?_; rintro e w' ⟨rfl, rfl⟩) | (go_at_call 17; refine (exact_any _ _ _ _ _ _).mono ?_; rintro e w' ⟨rfl, rfl⟩))
  all_goals go_ret2
  all_goals (refine ⟨ret_int2 (by omega) rfl, ?_⟩; repeat (first | exact Below.refl _ _ | (refine below_drewN ?_ _) | refine Below.drew ?_ | (refine Below.alloc ?_ (by simp; try omega) _)))

set_option maxHeartbeats 1000000 in
theorem digits_els (op : Int) (hop : op ≠ 3 ∧ op ≠ 4 ∧ op ≠ 5 ∧ op ≠ 6) (sa : ByteArray) (ta : Int) (ua : Bool) (pa la : Int) (sb : ByteArray) (tb : Int) (ub : Bool) (pb lb : Int) (h1 : 0 ≤ pa) (h2 : pa ≤ 255) (h3 : 0 ≤ pb) (h4 : pb ≤ 255)
    (g1 : -536870912 ≤ la) (g2 : la ≤ 536870912) (g3 : -536870912 ≤ lb) (g4 : lb ≤ 536870912) (w : World) :
    Calls Try.prog 16 #[.int .u8 op, .agg #[.string sa, .int .u8 ta, .bool ua, .int .u8 pa, .int .i64 la], .agg #[.string sb, .int .u8 tb, .bool ub, .int .u8 pb, .int .i64 lb]] w fun e w' =>
      e = .returned (.tuple #[.int .i64 (ddD op (exD ta ua la) pa (exD tb ub lb) pb), .int .i64 (scD op pa pb)]) ∧ Below w.heap.size w w' := by
  obtain ⟨b1, b2⟩ := exD_bd ta ua la g1 g2
  obtain ⟨b3, b4⟩ := exD_bd tb ub lb g3 g4
  obtain ⟨b5, b6⟩ := scD_bd op pa pb h1 h2 h3 h4
  have e3 : (op == 3) = false := by simp; omega
  have e4 : (op == 4) = false := by simp; omega
  have e5 : (op == 5) = false := by simp; omega
  have e6 : (op == 6) = false := by simp; omega
  have X : ddD op (exD ta ua la) pa (exD tb ub lb) pb = min (exD ta ua la) 65 := by simp [ddD, hop]
  rw [X]; clear X hop g1 g2 g3 g4
  go_enter Try.func16, Try.ntmps16
  go_wp2_with fail
  go_quiet (fail)
  go_wp2_with fail
  go_region_held3 (fun w' => w'.cell? ⟨w.heap.size, 0, none⟩ = some (.string sa) ∧ w'.cell? ⟨w.heap.size, 1, none⟩ = some (.int .u8 ta) ∧ w'.cell? ⟨w.heap.size, 2, none⟩ = some (.bool ua) ∧ w'.cell? ⟨w.heap.size, 3, none⟩ = some (.int .u8 pa) ∧ w'.cell? ⟨w.heap.size, 4, none⟩ = some (.int .i64 la) ∧
     w'.cell? ⟨w.heap.size + 1, 0, none⟩ = some (.string sb) ∧ w'.cell? ⟨w.heap.size + 1, 1, none⟩ = some (.int .u8 tb) ∧ w'.cell? ⟨w.heap.size + 1, 2, none⟩ = some (.bool ub) ∧ w'.cell? ⟨w.heap.size + 1, 3, none⟩ = some (.int .u8 pb) ∧ w'.cell? ⟨w.heap.size + 1, 4, none⟩ = some (.int .i64 lb)) (simp [go_sem, World.cell?_alloc_past])
    (first | (go_at_call 17; refine (exact_any _ _ _ _ _ _).mono ?_; rintro e w' ⟨rfl, rfl⟩))
  all_goals go_wp2_with (first | (go_at_call 18; refine (scale_any _ _ _ (by omega) (by omega) (by omega) (by omega) _).mono ?_; rintro e w' ⟨rfl, rfl⟩) | (go_at_call 17; refine (exact_any _ _ _ _ _ _).mono ?_; rintro e w' ⟨rfl, rfl⟩))
  all_goals go_ret2
  all_goals (refine ⟨ret_int2 (by omega) rfl, ?_⟩; repeat (first | exact Below.refl _ _ | (refine below_drewN ?_ _) | refine Below.drew ?_ | (refine Below.alloc ?_ (by simp; try omega) _)))

theorem digits_any (op : Int) (sa : ByteArray) (ta : Int) (ua : Bool) (pa la : Int) (sb : ByteArray) (tb : Int) (ub : Bool) (pb lb : Int) (h1 : 0 ≤ pa) (h2 : pa ≤ 255) (h3 : 0 ≤ pb) (h4 : pb ≤ 255)
    (g1 : -536870912 ≤ la) (g2 : la ≤ 536870912) (g3 : -536870912 ≤ lb) (g4 : lb ≤ 536870912) (w : World) :
    Calls Try.prog 16 #[.int .u8 op, .agg #[.string sa, .int .u8 ta, .bool ua, .int .u8 pa, .int .i64 la], .agg #[.string sb, .int .u8 tb, .bool ub, .int .u8 pb, .int .i64 lb]] w fun e w' =>
      e = .returned (.tuple #[.int .i64 (ddD op (exD ta ua la) pa (exD tb ub lb) pb), .int .i64 (scD op pa pb)]) ∧ Below w.heap.size w w' := by
  by_cases c3 : op = 3
  · exact digits_add op c3 sa ta ua pa la sb tb ub pb lb h1 h2 h3 h4 g1 g2 g3 g4 w
  by_cases c4 : op = 4
  · exact digits_sub op c4 sa ta ua pa la sb tb ub pb lb h1 h2 h3 h4 g1 g2 g3 g4 w
  by_cases c5 : op = 5
  · exact digits_mul op c5 sa ta ua pa la sb tb ub pb lb h1 h2 h3 h4 g1 g2 g3 g4 w
  by_cases c6 : op = 6
  · exact digits_mod op c6 sa ta ua pa la sb tb ub pb lb h1 h2 h3 h4 g1 g2 g3 g4 w
  exact digits_els op ⟨c3, c4, c5, c6⟩ sa ta ua pa la sb tb ub pb lb h1 h2 h3 h4 g1 g2 g3 g4 w

set_option maxHeartbeats 400000 in
theorem zz_any (op : Int) (sa : ByteArray) (ta : Int) (ua : Bool) (pa la : Int) (sb : ByteArray) (tb : Int) (ub : Bool) (pb lb : Int) (h1 : 0 ≤ pa) (h2 : pa ≤ 255) (h3 : 0 ≤ pb) (h4 : pb ≤ 255)
    (g1 : -536870912 ≤ la) (g2 : la ≤ 536870912) (g3 : -536870912 ≤ lb) (g4 : lb ≤ 536870912) (w : World) :
    Calls Try.prog 13 #[.int .u8 op, .agg #[.string sa, .int .u8 ta, .bool ua, .int .u8 pa, .int .i64 la], .agg #[.string sb, .int .u8 tb, .bool ub, .int .u8 pb, .int .i64 lb]] w fun e w' =>
      e = .returned (.tuple #[.int .i64 (ddD op (exD ta ua la) pa (exD tb ub lb) pb), .int .i64 (scD op pa pb)]) ∧ Below w.heap.size w w' := by
  go_enter Try.func13, Try.ntmps13
  go_wp2_with (go_at_call 16; refine (digits_any _ _ _ _ _ _ _ _ _ _ _ h1 h2 h3 h4 g1 g2 g3 g4 _).mono ?_; rintro e w' ⟨rfl, hb⟩)
  go_ret2
  refine ⟨rfl, Below.trans ?_ (hb.mono (by simp; omega))⟩
  repeat (first | exact Below.refl _ _ | (refine below_drewN ?_ _) | refine Below.drew ?_ | (refine Below.alloc ?_ (by simp; try omega) _))

set_option maxHeartbeats 400000 in
theorem col_any (t : Int) (u : Bool) (p l : Int) (w : World) :
    Calls Try.prog 10 #[.int .u8 t, .bool u, .int .u8 p, .int .i64 l] w fun e w' => e = .returned (.agg #[.string ⟨#[]⟩, .int .u8 t, .bool u, .int .u8 p, .int .i64 l]) ∧ w' = w.alloc (.cells #[.string ⟨#[]⟩, .int .u8 t, .bool u, .int .u8 p, .int .i64 l] 25) := by
  go_enter Try.func10, Try.ntmps10
  go_wp2
  exact bodyPost_ret (v := .agg #[.string ⟨#[]⟩, .int .u8 t, .bool u, .int .u8 p, .int .i64 l]) (by simp [results, Try.results10, go_sem]) rfl ⟨rfl, rfl⟩

theorem len_yes (l : Int) (h1 : -536870912 ≤ l) (h2 : l ≤ 536870912) (w : World) : Calls Try.prog 12 #[.int .i64 l] w fun e w' => e = .returned (.bool true) ∧ w' = w := by
  go_enter Try.func12, Try.ntmps12
  go_wp2
  go_ret
  exact ⟨rfl, rfl⟩
theorem len_no (l : Int) (h : l < -536870912 ∨ 536870912 < l) (w : World) : Calls Try.prog 12 #[.int .i64 l] w fun e w' => e = .returned (.bool false) ∧ w' = w := by
  by_cases h1 : -536870912 ≤ l
  · have h2 : ¬ l ≤ 536870912 := by omega
    clear h
    go_enter Try.func12, Try.ntmps12
    go_wp2
    go_ret
    exact ⟨rfl, rfl⟩
  · clear h
    go_enter Try.func12, Try.ntmps12
    go_wp2
    go_ret
    exact ⟨rfl, rfl⟩
end Go.Proofs.Qxb6600781a
