/-
  Plain facts on integers and lists; no Go in sight.
-/
import Derived.Below
namespace Go.Proofs.Qxb6601373a

/-- An int64. -/
def I64 (z : Int) : Prop := -9223372036854775808 ≤ z ∧ z ≤ 9223372036854775807

theorem tm_eq (a b : Int) : b * a.tdiv b + a.tmod b = a := Int.mul_tdiv_add_tmod a b
theorem tm_lt (a b : Int) (hb : 1 ≤ b) : a.tmod b < b := Int.tmod_lt_of_pos a (by omega)
theorem tm_gt (a b : Int) (hb : 1 ≤ b) : -b < a.tmod b := Int.lt_tmod_of_pos a (by omega)

theorem ceil_up (a b : Int) (hb : 1 ≤ b) (h : 0 < a.tmod b) (s : Int) : s ≤ a.tdiv b + 1 ↔ (s - 1) * b < a := by
  have e := tm_eq a b
  have l := tm_lt a b hb
  rw [Int.mul_comm] at e
  constructor
  · intro hs
    have := Int.mul_le_mul_of_nonneg_right (show s - 1 ≤ a.tdiv b by omega) (show 0 ≤ b by omega)
    omega
  · intro hs
    apply Classical.byContradiction
    intro hn
    have := Int.mul_le_mul_of_nonneg_right (show a.tdiv b + 1 ≤ s - 1 by omega) (show 0 ≤ b by omega)
    rw [Int.add_mul] at this
    omega
theorem ceil_down (a b : Int) (hb : 1 ≤ b) (h : ¬ 0 < a.tmod b) (s : Int) : s ≤ a.tdiv b ↔ (s - 1) * b < a := by
  have e := tm_eq a b
  have l := tm_gt a b hb
  rw [Int.mul_comm] at e
  constructor
  · intro hs
    have := Int.mul_le_mul_of_nonneg_right (show s - 1 ≤ a.tdiv b - 1 by omega) (show 0 ≤ b by omega)
    rw [Int.sub_mul (a.tdiv b)] at this
    omega
  · intro hs
    apply Classical.byContradiction
    intro hn
    have := Int.mul_le_mul_of_nonneg_right (show a.tdiv b ≤ s - 1 by omega) (show 0 ≤ b by omega)
    omega
theorem tdiv_bd (a b : Int) (ha : I64 a) (hb : 1 ≤ b) : I64 (a.tdiv b) ∧ (0 < a.tmod b → a.tdiv b + 1 ≤ 9223372036854775807) := by
  obtain ⟨h1, h2⟩ := ha
  have e := tm_eq a b
  have l := tm_lt a b hb
  have g := tm_gt a b hb
  have hn := Int.natAbs_tdiv_le_natAbs a b
  have up : a.tdiv b ≤ 9223372036854775807 := by
    apply Classical.byContradiction
    intro hc
    have := Int.mul_le_mul_of_nonneg_left (show 1 ≤ a.tdiv b by omega) (show 0 ≤ b by omega)
    omega
  refine ⟨⟨by omega, up⟩, fun h => ?_⟩
  have hb2 : 2 ≤ b := by omega
  apply Classical.byContradiction
  intro hc
  have := Int.mul_le_mul_of_nonneg_right hb2 (show 0 ≤ a.tdiv b by omega)
  omega

theorem rows_eq (l wd rows : Int) (h : l % wd = 0) (h' : l / wd = rows) : l = wd * rows := by
  have := Int.mul_ediv_add_emod l wd
  rw [h, h'] at this
  omega

def NonNeg (zs : List Int) (len : Nat) : Prop := ∀ i, i < len → 0 ≤ zs.getD i 0
theorem NonNeg.zero (zs : List Int) : NonNeg zs 0 := fun _ h => by omega
theorem NonNeg.step {zs : List Int} {k : Nat} (h : NonNeg zs k) (hk : 0 ≤ zs[k]?.getD 0) : NonNeg zs (k + 1) := by
  intro i hi
  by_cases e : i = k
  · subst e; simpa using hk
  · exact h i (by omega)

/-- Each row from 'from' on is, place by place, no less than the one before. -/
def Rising (zs : List Int) (wd frm rows : Nat) : Prop := ∀ k, frm ≤ k → k + 1 < rows → ∀ p, p < wd → zs.getD (k * wd + p) 0 ≤ zs.getD ((k + 1) * wd + p) 0
def RisingTo (zs : List Int) (wd frm rows m : Nat) : Prop := ∀ k, frm ≤ k → k < m → k + 1 < rows → ∀ p, p < wd → zs.getD (k * wd + p) 0 ≤ zs.getD ((k + 1) * wd + p) 0
def RowTo (zs : List Int) (wd k m : Nat) : Prop := ∀ p, p < m → zs.getD (k * wd + p) 0 ≤ zs.getD ((k + 1) * wd + p) 0
theorem RisingTo.zero (zs : List Int) (wd frm rows : Nat) : RisingTo zs wd frm rows frm := fun _ h1 h2 => by omega
theorem RisingTo.step {zs : List Int} {wd frm rows k : Nat} (h : RisingTo zs wd frm rows k) (h' : RowTo zs wd k wd) : RisingTo zs wd frm rows (k + 1) := by
  intro j h1 h2 h3 p hp
  by_cases e : j = k
  · subst e; exact h' p hp
  · exact h j h1 (by omega) h3 p hp
theorem RisingTo.done {zs : List Int} {wd frm rows k : Nat} (h : RisingTo zs wd frm rows k) (hk : ¬ k + 1 < rows) : Rising zs wd frm rows := fun j h1 h2 => h j h1 (by omega) h2
theorem RowTo.zero (zs : List Int) (wd k : Nat) : RowTo zs wd k 0 := fun _ h => by omega
theorem RowTo.step {zs : List Int} {wd k p i1 i2 : Nat} (h : RowTo zs wd k p) (h1 : k * wd + p = i1) (h2 : (k + 1) * wd + p = i2) (h' : ¬ zs[i2]?.getD 0 < zs[i1]?.getD 0) : RowTo zs wd k (p + 1) := by
  intro q hq
  by_cases e : q = p
  · subst e; subst h1 h2; simp; omega
  · exact h q (by omega)
theorem row_lt (wd rows k p len : Nat) (h : len = wd * rows) (hk : k < rows) (hp : p < wd) : k * wd + p < len := by
  have h1 := Nat.mul_le_mul_right wd (show k + 1 ≤ rows by omega)
  rw [Nat.add_mul, Nat.mul_comm rows] at h1
  omega

/-- The place i of the sum of row k says that n machines have s free. -/
def Says (S : Nat) (base : Int) (sum : List Int) (k n : Nat) (s : Int) (i : Nat) : Prop := (s - 1) * ((i : Int) - (n : Int) + 1) < sum.getD (k * S + i - 1) 0 - base
def SomeTo (S : Nat) (base : Int) (sum : List Int) (k n : Nat) (s : Int) (m : Nat) : Prop := ∃ i, n ≤ i ∧ i < m ∧ Says S base sum k n s i
/-- n machines are known to have s processors free each from instant k on. -/
def FitAt (M S : Nat) (base : Int) (level sum : List Int) (k n : Nat) (s : Int) : Prop := s ≤ level.getD (k * M + n - 1) 0 ∨ SomeTo S base sum k n s (S + 1)
theorem SomeTo.zero (S : Nat) (base : Int) (sum : List Int) (k n : Nat) (s : Int) : ¬ SomeTo S base sum k n s n := fun ⟨_, h1, h2, _⟩ => by omega
theorem SomeTo.step_iff (S : Nat) (base : Int) (sum : List Int) (k n : Nat) (s : Int) (j : Nat) (hn : n ≤ j) : SomeTo S base sum k n s (j + 1) ↔ SomeTo S base sum k n s j ∨ Says S base sum k n s j := by
  constructor
  · rintro ⟨i, h1, h2, h3⟩
    by_cases e : i = j
    · subst e; exact .inr h3
    · exact .inl ⟨i, h1, by omega, h3⟩
  · rintro (⟨i, h1, h2, h3⟩ | h)
    · exact ⟨i, h1, by omega, h3⟩
    · exact ⟨j, hn, by omega, h⟩
theorem SomeTo.mono {S : Nat} {base : Int} {sum : List Int} {k n : Nat} {s : Int} {j m : Nat} (h : SomeTo S base sum k n s j) (hj : j ≤ m) : SomeTo S base sum k n s m := by
  obtain ⟨i, h1, h2, h3⟩ := h
  exact ⟨i, h1, by omega, h3⟩
end Go.Proofs.Qxb6601373a
