/-
  Shared by both laws of the seat: what a walk is told of a slice of int64 ('Sl'), and the contracts of the small functions.
-/
import Derived.Test.Qxb6601373aRows
import Derived.Test.Qxb6601373aPlain
import Derived.WalkKit
import Derived.ProofKit
import Derived.OpenShut
import Derived.WalkSpells
import Derived.WalkLawsBesides
import Derived.Below
import Derived.Deep.QuietTactic
import Derived.BigQuiet
import Derived.Deep.RegionHeld3
import Derived.Outline
namespace Go.Proofs.Qxb6601373a
open Go.RowKit
set_option linter.unusedVariables false

theorem hid {p : Prop} (h : p) : Hid p := h

/-- The slice value at 'a' of 'len' elements reads as the list 'zs'. -/
structure Sl (w : World) (a : Option Addr) (len : Nat) (zs : List Int) : Prop where
  length : zs.length = len
  cells : 0 < len → ∃ b off, a = some ⟨b, off, none⟩ ∧ b < w.heap.size ∧ ∀ i, i < len → w.cell? ⟨b, off + i, none⟩ = some (.int .i64 (zs.getD i 0))
  fits : ∀ i, I64 (zs.getD i 0)

theorem Sl.below {w w' : World} {a : Option Addr} {len : Nat} {zs : List Int} (h : Sl w a len zs) (hb : Below w.heap.size w w') : Sl w' a len zs := by
  refine ⟨h.length, fun h0 => ?_, h.fits⟩
  obtain ⟨b, off, ha, hlt, hc⟩ := h.cells h0
  exact ⟨b, off, ha, Nat.lt_of_lt_of_le hlt hb.size, fun i hi => (hb.cell (p := ⟨b, off + i, none⟩) hlt).trans (hc i hi)⟩

theorem bcell {W w1 : World} (hb : Below W.heap.size W w1) : (∀ b o, b < W.heap.size → w1.cell? ⟨b, o, none⟩ = W.cell? ⟨b, o, none⟩) ∧ (∀ b o, b < W.heap.size → w1.frozen? ⟨b, o, none⟩ = W.frozen? ⟨b, o, none⟩) :=
  ⟨fun b o h => hb.cell (p := ⟨b, o, none⟩) h, fun b o h => hb.frozen (p := ⟨b, o, none⟩) h⟩
theorem ret_int {k : IntKind} {a b : Int} (h : a = b) : Ending.returned (.int k a) = .returned (.int k b) := by rw [h]
theorem ret_bool {a b : Bool} (h : a = b) : Ending.returned (.bool a) = .returned (.bool b) := by rw [h]

/-- A bool is returned, and if it is true, P holds. (A plain 'def', so that the walk's simp leaves it whole.) -/
def BoolIf (P : Prop) (e : Ending) : Prop := ∃ b, e = .returned (.bool b) ∧ (b = true → P)
theorem BoolIf.no (P : Prop) : BoolIf P (.returned (.bool false)) := ⟨false, rfl, fun h => by cases h⟩
theorem BoolIf.yes {P : Prop} (h : P) : BoolIf P (.returned (.bool true)) := ⟨true, rfl, fun _ => h⟩
/-- An int64 is returned of which P holds. -/
def IntOf (P : Int → Prop) (e : Ending) : Prop := ∃ q, e = .returned (.int .i64 q) ∧ P q

/-- A bool is returned, and it is true just if P holds. -/
def BoolIff (P : Prop) (e : Ending) : Prop := ∃ b, e = .returned (.bool b) ∧ (b = true ↔ P)
theorem BoolIff.no {P : Prop} (h : ¬ P) : BoolIff P (.returned (.bool false)) := ⟨false, rfl, by simp [h]⟩
theorem BoolIff.yes {P : Prop} (h : P) : BoolIff P (.returned (.bool true)) := ⟨true, rfl, by simp [h]⟩

/-! ### ceilDiv (41) -/
def Ceil (a b q : Int) : Prop := I64 q ∧ ∀ s : Int, s ≤ q ↔ (s - 1) * b < a
def ceilV (a b : Int) : Int := if 0 < a.tmod b then a.tdiv b + 1 else a.tdiv b
theorem ceilV_ok (a b : Int) (ha : I64 a) (hb : 1 ≤ b) : Ceil a b (ceilV a b) := by
  obtain ⟨⟨t1, t2⟩, t3⟩ := tdiv_bd a b ha hb
  unfold ceilV
  split
  · rename_i hm
    have := t3 hm
    exact ⟨⟨by omega, by omega⟩, ceil_up a b hb hm⟩
  · rename_i hm
    exact ⟨⟨t1, t2⟩, ceil_down a b hb hm⟩
set_option maxHeartbeats 400000 in
theorem ceil_any (a b : Int) (ha : I64 a) (hb : 1 ≤ b) (hb2 : b ≤ 9223372036854775807) (w : World) :
    Calls Try.prog 41 #[.int .i64 a, .int .i64 b] w fun e w' => e = .returned (.int .i64 (ceilV a b)) ∧ w' = w := by
  obtain ⟨⟨t1, t2⟩, t3⟩ := tdiv_bd a b ha hb
  obtain ⟨h1, h2⟩ := ha
  by_cases hm : 0 < a.tmod b
  · have t4 := t3 hm
    have HC := hid (show a.tdiv b + 1 = ceilV a b by simp [ceilV, hm])
    clear t3
    go_enter Try.func41, Try.ntmps41
    go_wp2
    go_ret
    exact ⟨ret_int HC.out, rfl⟩
  · have HC := hid (show a.tdiv b = ceilV a b by simp [ceilV, hm])
    clear t3
    go_enter Try.func41, Try.ntmps41
    go_wp2
    go_ret
    exact ⟨ret_int HC.out, rfl⟩

/-! ### rowsOf (29) -/
def RowsEq (l wd rows : Int) : Prop := l = wd * rows
set_option maxHeartbeats 400000 in
theorem rowsOf_any (l wd rows : Int) (h0 : 0 ≤ l) (h1 : l ≤ 131072) (h2 : 0 ≤ wd) (h3 : wd ≤ 9223372036854775807) (h4 : 0 ≤ rows) (h5 : rows ≤ 131072) (w : World) :
    Calls Try.prog 29 #[.int .i64 l, .int .i64 wd, .int .i64 rows] w fun e w' => BoolIf (RowsEq l wd rows) e ∧ w = w' := by
  by_cases hw : wd = 0
  · have e0 : (wd == 0) = true := by simp [hw]
    have HC : Hid (l == 0 → RowsEq l wd rows) := fun h => by unfold RowsEq; rw [hw]; simp at h; omega
    clear hw
    go_enter Try.func29, Try.ntmps29
    go_wp2
    go_ret
    exact ⟨⟨_, rfl, HC.out⟩, rfl⟩
  · have e0 : (wd == 0) = false := by simp [hw]
    by_cases hm : l % wd = 0
    · have HC : Hid (l / wd == rows → RowsEq l wd rows) := fun h => rows_eq l wd rows hm (by simpa using h)
      go_enter Try.func29, Try.ntmps29
      go_wp2
      go_ret
      exact ⟨⟨_, rfl, HC.out⟩, rfl⟩
    · have e1 : (l % wd == 0) = false := by simp [hm]
      go_enter Try.func29, Try.ntmps29
      go_wp2
      go_ret
      exact ⟨BoolIf.no _, rfl⟩

/-! ### allNonNeg (30) -/
set_option maxHeartbeats 400000 in
theorem allNonNeg_any (a : Option Addr) (len cap : Nat) (zs : List Int) (w : World) (hl : len ≤ 131072) (hs : Sl w a len zs) :
    Calls Try.prog 30 #[.slice a len cap] w fun e w' => BoolIf (NonNeg zs len) e ∧ w = w' := by
  by_cases h0 : len = 0
  · subst h0
    clear hs
    go_enter Try.func30, Try.ntmps30
    go_wp2
    refine wp_loop_rounds 1 ?_
    rw [rounds_succ]
    go_wp2
    go_ret
    exact ⟨BoolIf.yes (NonNeg.zero zs), rfl⟩
  · obtain ⟨b, off, rfl, hlt, hc⟩ := hs.cells (by omega)
    clear hs
    go_enter Try.func30, Try.ntmps30
    go_wp2
    go_loop [7] (fun i => ∃ k : Nat, k ≤ len ∧ i = .int .i64 k ∧ NonNeg zs k) (fun i => len - (intOf i).toNat)
    case atStart => exact ⟨0, Nat.zero_le _, rfl, NonNeg.zero zs⟩
    case round =>
      obtain ⟨k, hk, rfl, hall⟩ := hrel
      by_cases hlt' : k < len
      · have hck := hc k hlt'
        clear hc
        by_cases hz : zs[k]?.getD 0 < 0
        · go_wp2
          go_ret
          exact ⟨BoolIf.no _, rfl⟩
        · have hall' := hall.step (by omega)
          go_wp2
          go_round
          case rel => exact ⟨k + 1, by omega, by go_num, hall'⟩
          case measure => simp [intOf]; omega
      · have : k = len := by omega
        subst this
        have HA : Hid _ := hall
        clear hc hall
        go_wp2
        go_ret
        exact ⟨BoolIf.yes HA.out, rfl⟩

/-! ### exceeds (32) -/
def Exc (a s b : Int) : Prop := s * b < a
theorem exc_no (a s b : Int) (ha : I64 a) (hb : 1 ≤ b) (h : 9223372036854775807 / b < s) : ¬ Exc a s b := by
  unfold Exc
  obtain ⟨_, h2⟩ := ha
  have e := Int.mul_ediv_add_emod 9223372036854775807 b
  have l := Int.emod_lt_of_pos 9223372036854775807 (show 0 < b by omega)
  have := Int.mul_le_mul_of_nonneg_right (show 9223372036854775807 / b + 1 ≤ s by omega) (show 0 ≤ b by omega)
  rw [Int.add_mul, Int.mul_comm (9223372036854775807 / b)] at this
  omega
theorem exc_bd (s b : Int) (hs : 0 ≤ s) (hb : 1 ≤ b) (h : ¬ 9223372036854775807 / b < s) : 0 ≤ s * b ∧ s * b ≤ 9223372036854775807 := by
  have e := Int.mul_ediv_add_emod 9223372036854775807 b
  have l := Int.emod_nonneg 9223372036854775807 (show b ≠ 0 by omega)
  have := Int.mul_le_mul_of_nonneg_right (show s ≤ 9223372036854775807 / b by omega) (show 0 ≤ b by omega)
  rw [Int.mul_comm (9223372036854775807 / b)] at this
  exact ⟨Int.mul_nonneg hs (by omega), by omega⟩
set_option maxHeartbeats 400000 in
theorem exceeds_any (a s b : Int) (ha : I64 a) (hs : 0 ≤ s) (hs2 : s ≤ 9223372036854775807) (hb : 1 ≤ b) (hb2 : b ≤ 9223372036854775807) (w : World) :
    Calls Try.prog 32 #[.int .i64 a, .int .i64 s, .int .i64 b] w fun e w' => BoolIff (Exc a s b) e ∧ w = w' := by
  by_cases h : 9223372036854775807 / b < s
  · have HN : Hid _ := exc_no a s b ha hb h
    obtain ⟨h1, h2⟩ := ha
    go_enter Try.func32, Try.ntmps32
    go_wp2
    go_ret
    exact ⟨BoolIff.no HN.out, rfl⟩
  · obtain ⟨m1, m2⟩ := exc_bd s b hs hb h
    obtain ⟨h1, h2⟩ := ha
    go_enter Try.func32, Try.ntmps32
    go_wp2
    go_ret
    exact ⟨⟨_, rfl, by simp [Exc]⟩, rfl⟩
end Go.Proofs.Qxb6601373a
