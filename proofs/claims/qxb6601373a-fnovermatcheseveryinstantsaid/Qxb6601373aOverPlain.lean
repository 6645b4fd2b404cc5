/-
  Plain notions for the law on 'over'; no Go in sight.
-/
import Derived.Test.Qxb6601373aPlain
namespace Go.Proofs.Qxb6601373a
set_option linter.unusedVariables false

/-- Each entry is less than the next. -/
def StrictR (z : List Int) (n : Nat) : Prop := ∀ i, i + 1 < n → z.getD i 0 < z.getD (i + 1) 0
theorem StrictR.zero (z : List Int) : StrictR z 1 := fun i h => by omega
theorem StrictR.zero' (z : List Int) : StrictR z 0 := fun i h => by omega
theorem StrictR.step {z : List Int} {k : Nat} (h : StrictR z (k + 1)) (hk : z[k]?.getD 0 < z[k + 1]?.getD 0) : StrictR z (k + 1 + 1) := by
  intro i hi
  by_cases e : i = k
  · subst e; simpa using hk
  · exact h i (by omega)
theorem StrictR.lt {z : List Int} {n : Nat} (h : StrictR z n) {i j : Nat} (hij : i < j) (hj : j < n) : z.getD i 0 < z.getD j 0 := by
  have : ∀ d, i + 1 + d < n → z.getD i 0 < z.getD (i + 1 + d) 0 := by
    intro d
    induction d with
    | zero => intro hd; exact h i hd
    | succ d ih => intro hd; exact Int.lt_trans (ih (by omega)) (h (i + 1 + d) hd)
  have := this (j - i - 1) (by omega)
  rwa [show i + 1 + (j - i - 1) = j by omega] at this
theorem StrictR.le {z : List Int} {n : Nat} (h : StrictR z n) {i j : Nat} (hij : i ≤ j) (hj : j < n) : z.getD i 0 ≤ z.getD j 0 := by
  by_cases e : i = j
  · subst e; exact Int.le_refl _
  · exact Int.le_of_lt (h.lt (by omega) hj)

/-- r is the last index whose entry is at most t; -1 if none. -/
def IsLast (z : List Int) (n : Nat) (t r : Int) : Prop := -1 ≤ r ∧ r < n ∧ ∀ i : Nat, i < n → (z.getD i 0 ≤ t ↔ (i : Int) ≤ r)
theorem IsLast.unique {z : List Int} {n : Nat} {t a b : Int} (ha : IsLast z n t a) (hb : IsLast z n t b) : a = b := by
  obtain ⟨a1, a2, a3⟩ := ha
  obtain ⟨b1, b2, b3⟩ := hb
  rcases Int.lt_trichotomy a b with h | h | h
  · have := (a3 b.toNat (by omega)).1 ((b3 b.toNat (by omega)).2 (by omega)); omega
  · exact h
  · have := (b3 a.toNat (by omega)).1 ((a3 a.toNat (by omega)).2 (by omega)); omega
/-- The search's state. -/
def Bin (z : List Int) (n : Nat) (t : Int) (lo hi : Nat) : Prop := lo ≤ hi ∧ hi ≤ n ∧ (∀ i, i < lo → z.getD i 0 ≤ t) ∧ (∀ i, hi ≤ i → i < n → t < z.getD i 0)
theorem Bin.zero (z : List Int) (n : Nat) (t : Int) : Bin z n t 0 n := ⟨Nat.zero_le _, Nat.le_refl _, fun _ h => by omega, fun _ h1 h2 => by omega⟩
theorem Bin.up {z : List Int} {n : Nat} {t : Int} {lo hi m : Nat} (h : Bin z n t lo hi) (hs : StrictR z n) (h1 : lo ≤ m) (h2 : m < hi) (hm : z[m]?.getD 0 ≤ t) : Bin z n t (m + 1) hi := by
  obtain ⟨a1, a2, a3, a4⟩ := h
  refine ⟨by omega, a2, fun i hi' => ?_, a4⟩
  have := hs.le (show i ≤ m by omega) (by omega)
  have e : z.getD m 0 = z[m]?.getD 0 := by simp
  omega
theorem Bin.down {z : List Int} {n : Nat} {t : Int} {lo hi m : Nat} (h : Bin z n t lo hi) (hs : StrictR z n) (h1 : lo ≤ m) (h2 : m < hi) (hm : ¬ z[m]?.getD 0 ≤ t) : Bin z n t lo m := by
  obtain ⟨a1, a2, a3, a4⟩ := h
  refine ⟨by omega, by omega, a3, fun i hi' hn => ?_⟩
  have := hs.le hi' hn
  have e : z.getD m 0 = z[m]?.getD 0 := by simp
  omega
theorem Bin.done {z : List Int} {n : Nat} {t : Int} {lo : Nat} (h : Bin z n t lo lo) : IsLast z n t ((lo : Int) - 1) := by
  obtain ⟨a1, a2, a3, a4⟩ := h
  refine ⟨by omega, by omega, fun i hi => ?_⟩
  by_cases hl : i < lo
  · have := a3 i hl; omega
  · have := a4 i (by omega) hi; omega

/-- Row ka of a is, place by place, no less than row kb of b. -/
def GeRow (za : List Int) (ka : Nat) (zb : List Int) (kb wd : Nat) : Prop := ∀ p, p < wd → zb.getD (kb * wd + p) 0 ≤ za.getD (ka * wd + p) 0
def GeRowTo (za : List Int) (ka : Nat) (zb : List Int) (kb wd m : Nat) : Prop := ∀ p, p < m → zb.getD (kb * wd + p) 0 ≤ za.getD (ka * wd + p) 0
theorem GeRowTo.zero (za : List Int) (ka : Nat) (zb : List Int) (kb wd : Nat) : GeRowTo za ka zb kb wd 0 := fun _ h => by omega
theorem GeRowTo.step {za : List Int} {ka : Nat} {zb : List Int} {kb wd p i1 i2 : Nat} (h : GeRowTo za ka zb kb wd p) (h1 : ka * wd + p = i1) (h2 : kb * wd + p = i2) (h' : ¬ za[i1]?.getD 0 < zb[i2]?.getD 0) : GeRowTo za ka zb kb wd (p + 1) := by
  intro q hq
  by_cases e : q = p
  · subst e; subst h1 h2; simp; omega
  · exact h q (by omega)
theorem GeRow.not {za : List Int} {ka : Nat} {zb : List Int} {kb wd p i1 i2 : Nat} (hp : p < wd) (h1 : ka * wd + p = i1) (h2 : kb * wd + p = i2) (h' : za[i1]?.getD 0 < zb[i2]?.getD 0) : ¬ GeRow za ka zb kb wd := by
  intro h
  have := h p hp
  subst h1 h2
  simp at this
  omega

/-- fl covers kept at instant t. -/
def CovAt (first : Nat) (A : List Int) (m : Nat) (K : List Int) (r : Nat) (cov : Nat → Nat → Prop) (t : Int) : Prop := ∀ j : Nat, IsLast K r t j → ∃ k : Nat, IsLast A m t k ∧ first ≤ k ∧ cov k j
theorem CovAt.none {first : Nat} {A : List Int} {m : Nat} {K : List Int} {r : Nat} {cov : Nat → Nat → Prop} {t a : Int} (h : IsLast K r t a) (ha : a < 0) : CovAt first A m K r cov t := fun j hj => by have := hj.unique h; omega
theorem CovAt.low {first : Nat} {A : List Int} {m : Nat} {K : List Int} {r : Nat} {cov : Nat → Nat → Prop} {t b : Int} {j : Nat} (h : IsLast K r t j) (h' : IsLast A m t b) (hb : b < first) : ¬ CovAt first A m K r cov t := fun hc => by
  obtain ⟨k, h1, h2, _⟩ := hc j h
  have := h1.unique h'
  omega
theorem CovAt.iff {first : Nat} {A : List Int} {m : Nat} {K : List Int} {r : Nat} {cov : Nat → Nat → Prop} {t : Int} {j k : Nat} (h : IsLast K r t j) (h' : IsLast A m t k) (hb : first ≤ k) : CovAt first A m K r cov t ↔ cov k j := by
  constructor
  · intro hc
    obtain ⟨k', h1, h2, h3⟩ := hc j h
    have e := h1.unique h'
    have : k' = k := by omega
    subst this
    exact h3
  · intro hc j' hj'
    have e := hj'.unique h
    have : j' = j := by omega
    subst this
    exact ⟨k, h', hb, hc⟩

/-- The instants that count: kept's, and fl's from kept's first on. -/
def Inst (A : List Int) (m : Nat) (K : List Int) (r : Nat) (t : Int) : Prop := (∃ j, j < r ∧ t = K.getD j 0) ∨ (∃ x, x < m ∧ K.getD 0 0 ≤ A.getD x 0 ∧ t = A.getD x 0)
/-- Every instant that counts is covered. -/
def AllCov (A : List Int) (m : Nat) (K : List Int) (r : Nat) (P : Int → Prop) : Prop := ∀ t, Inst A m K r t → P t
end Go.Proofs.Qxb6601373a
