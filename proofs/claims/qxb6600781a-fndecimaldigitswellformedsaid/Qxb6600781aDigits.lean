/-
  The contracts that both laws on decimalDigits use: exactDigits, decimalScale, decimalDigits, ZZDecimalDigits, zzCol.
-/
import Derived.Test.Qxb6600781aRows
import Derived.WalkKit
import Derived.ProofKit
import Derived.OpenShut
import Derived.WalkSpells
import Derived.WalkLawsBesides
import Derived.Below
import Derived.Deep.QuietTactic
import Derived.BigQuiet
import Derived.Deep.RegionHeld3
import Derived.Outline
namespace Go.Proofs.Qxb6600781a
open Go.RowKit

/-! ### The plain functions -/
def exD (t : Int) (u : Bool) (l : Int) : Int := if t = 4 then l else if t = 1 then 10 else if u = true then 20 else 19
def scD (op pa pb : Int) : Int := if op = 5 then min (pa + pb) 30 else max pa pb
def ddD (op ea pa eb pb : Int) : Int :=
  min (if op = 3 ∨ op = 4 then max (ea - pa) (eb - pb) + 1 + scD op pa pb
    else if op = 5 then ea + eb
    else if op = 6 then max (ea - pa) (eb - pb) + scD op pa pb
    else ea) 65

theorem exD_bd (t : Int) (u : Bool) (l : Int) (h1 : -536870912 ≤ l) (h2 : l ≤ 536870912) : -536870912 ≤ exD t u l ∧ exD t u l ≤ 536870912 := by
  unfold exD; split
  · omega
  · split
    · omega
    · split <;> omega
theorem scD_bd (op pa pb : Int) (h1 : 0 ≤ pa) (h2 : pa ≤ 255) (h3 : 0 ≤ pb) (h4 : pb ≤ 255) : 0 ≤ scD op pa pb ∧ scD op pa pb ≤ 255 := by
  unfold scD; split <;> omega

theorem bcell {W w1 : World} (hb : Below W.heap.size W w1) : (∀ b o, b < W.heap.size → w1.cell? ⟨b, o, none⟩ = W.cell? ⟨b, o, none⟩) ∧ (∀ b o, b < W.heap.size → w1.frozen? ⟨b, o, none⟩ = W.frozen? ⟨b, o, none⟩) :=
  ⟨fun b o h => hb.cell (p := ⟨b, o, none⟩) h, fun b o h => hb.frozen (p := ⟨b, o, none⟩) h⟩
theorem ret_int {k : IntKind} {a b : Int} (h : a = b) : Ending.returned (.int k a) = .returned (.int k b) := by rw [h]

/-- A column as a value. -/
def col (s : ByteArray) (t : Int) (u : Bool) (p l : Int) : Array Value := #[.string s, .int .u8 t, .bool u, .int .u8 p, .int .i64 l]

set_option maxHeartbeats 400000 in
theorem exact_any (s : ByteArray) (t : Int) (u : Bool) (p l : Int) (w : World) :
    Calls Try.prog 17 #[.agg #[.string s, .int .u8 t, .bool u, .int .u8 p, .int .i64 l]] w fun e w' => e = .returned (.int .i64 (exD t u l)) ∧ w' = w.alloc (.cells #[.string s, .int .u8 t, .bool u, .int .u8 p, .int .i64 l] 25) := by
  by_cases h4 : t = 4
  · have e4 : (t == 4) = true := by simp [h4]
    have X : exD t u l = l := by simp [exD, h4]
    rw [X]; clear X h4
    go_enter Try.func17, Try.ntmps17
    go_wp2
    go_ret
    exact ⟨rfl, rfl⟩
  · have e4 : (t == 4) = false := by simp [h4]
    by_cases h1 : t = 1
    · have e1 : (t == 1) = true := by simp [h1]
      have X : exD t u l = 10 := by simp [exD, h1]
      rw [X]; clear X h4 h1
      go_enter Try.func17, Try.ntmps17
      go_wp2
      go_ret
      exact ⟨rfl, rfl⟩
    · have e1 : (t == 1) = false := by simp [h1]
      cases u
      · have X : exD t false l = 19 := by simp [exD, h1, h4]
        rw [X]; clear X h4 h1
        go_enter Try.func17, Try.ntmps17
        go_wp2
        go_ret
        exact ⟨rfl, rfl⟩
      · have X : exD t true l = 20 := by simp [exD, h1, h4]
        rw [X]; clear X h4 h1
        go_enter Try.func17, Try.ntmps17
        go_wp2
        go_ret
        exact ⟨rfl, rfl⟩

set_option maxHeartbeats 400000 in
theorem scale_any (op pa pb : Int) (h1 : 0 ≤ pa) (h2 : pa ≤ 255) (h3 : 0 ≤ pb) (h4 : pb ≤ 255) (w : World) :
    Calls Try.prog 18 #[.int .u8 op, .int .i64 pa, .int .i64 pb] w fun e w' => e = .returned (.int .i64 (scD op pa pb)) ∧ w' = w := by
  by_cases h5 : op = 5
  · have e5 : (op == 5) = true := by simp [h5]
    have X : scD op pa pb = min (pa + pb) 30 := by simp [scD, h5]
    rw [X]; clear X h5
    go_enter Try.func18, Try.ntmps18
    go_wp2
    all_goals (go_ret; exact ⟨ret_int (by omega), rfl⟩)
  · have e5 : (op == 5) = false := by simp [h5]
    have X : scD op pa pb = max pa pb := by simp [scD, h5]
    rw [X]; clear X h5
    go_enter Try.func18, Try.ntmps18
    go_wp2
    all_goals (go_ret; exact ⟨ret_int (by omega), rfl⟩)
end Go.Proofs.Qxb6600781a
