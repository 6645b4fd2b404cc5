/-
  The plain law behind 'over': its three loops visit every instant that counts. No Go in sight.
-/
import Derived.Test.Qxb6601373aOverPlain
namespace Go.Proofs.Qxb6601373a
set_option linter.unusedVariables false

/-- Every instant that counts and lies before t is covered. -/
def Before (A : List Int) (m : Nat) (K : List Int) (r : Nat) (P : Int → Prop) (t : Int) : Prop := ∀ s, Inst A m K r s → s < t → P s

/-- The state in the midst of row j: 'q - 1' is the index k of the program; t the instant looked at. -/
structure Inn (first m r : Nat) (A K : List Int) (P : Int → Prop) (j q : Nat) (t : Int) : Prop where
  jr : j < r
  lastK : IsLast K r t j
  bef : Before A m K r P t
  inst : Inst A m K r t
  q1 : first ≤ q
  q2 : q ≤ m ∨ q = first
  q3 : first < q → A.getD (q - 1) 0 ≤ t

/-- The state at the head of row j. -/
structure Out (first m r : Nat) (A K : List Int) (P : Int → Prop) (j q : Nat) : Prop where
  jr : j ≤ r
  mid : j < r → Before A m K r P (K.getD j 0) ∧ (first < q → A.getD (q - 1) 0 ≤ K.getD j 0)
  fin : j = r → AllCov A m K r P
  q1 : first ≤ q
  q2 : q ≤ m ∨ q = first

variable {first m r : Nat} {A K : List Int} {P : Int → Prop} {j q : Nat} {t : Int}

theorem Inst.ge (hK : StrictR K r) (h : Inst A m K r t) (hr : 0 < r) : K.getD 0 0 ≤ t := by
  rcases h with ⟨i, hi, rfl⟩ | ⟨x, hx, hle, rfl⟩
  · exact hK.le (Nat.zero_le _) hi
  · exact hle

theorem Out.start (hK : StrictR K r) (hr : 0 < r) : Out first m r A K P 0 first :=
  ⟨Nat.zero_le _, fun _ => ⟨fun s hs hlt => by have := hs.ge hK hr; omega, fun h => by omega⟩, fun h => by omega, Nat.le_refl _, .inr rfl⟩

theorem Out.enter (hK : StrictR K r) (h : Out first m r A K P j q) (hj : j < r) : Inn first m r A K P j q (K.getD j 0) := by
  obtain ⟨h1, h2⟩ := h.mid hj
  refine ⟨hj, ⟨by omega, by omega, fun i hi => ?_⟩, h1, .inl ⟨j, hj, rfl⟩, h.q1, h.q2, h2⟩
  constructor
  · intro hle
    apply Classical.byContradiction
    intro hn
    have := hK.lt (show j < i by omega) hi
    omega
  · intro hle
    exact hK.le (by omega) hj

theorem Inn.adv (h : Inn first m r A K P j q t) (hq : q < m) (hle : A[q]?.getD 0 ≤ t) : Inn first m r A K P j (q + 1) t :=
  ⟨h.jr, h.lastK, h.bef, h.inst, by have := h.q1; omega, .inl (by omega), fun _ => by simpa using hle⟩

/-- The while loop has ended. -/
def Ended (m : Nat) (A : List Int) (q : Nat) (t : Int) : Prop := q < m → t < A[q]?.getD 0
theorem ended_get (h : Ended m A q t) (hq : q < m) : t < A.getD q 0 := by simpa using h hq

theorem Inn.lastA (hA : StrictR A m) (h : Inn first m r A K P j q t) (he : Ended m A q t) (hf : first < q) : IsLast A m t ((q - 1 : Nat) : Int) := by
  have h2 := h.q2
  refine ⟨by omega, by omega, fun i hi => ?_⟩
  constructor
  · intro hle
    apply Classical.byContradiction
    intro hn
    have h1 := ended_get he (by omega)
    have := hA.le (show q ≤ i by omega) hi
    omega
  · intro hle
    have := hA.le (show i ≤ q - 1 by omega) (by omega)
    have := h.q3 hf
    omega

theorem Inn.low {cov : Nat → Nat → Prop} (hA : StrictR A m) (h : Inn first m r A K (CovAt first A m K r cov) j q t) (he : Ended m A q t) (hf : ¬ first < q) : ¬ AllCov A m K r (CovAt first A m K r cov) := by
  intro hc
  obtain ⟨k, h1, h2, _⟩ := hc t h.inst j h.lastK
  obtain ⟨_, k2, k3⟩ := h1
  have e : q = first := by have := h.q1; omega
  subst e
  have := (k3 k (by omega)).2 (by omega)
  have h4 := ended_get he (by omega)
  have := hA.le h2 (by omega)
  omega

theorem Inn.iff {cov : Nat → Nat → Prop} (hA : StrictR A m) (h : Inn first m r A K (CovAt first A m K r cov) j q t) (he : Ended m A q t) (hf : first < q) : CovAt first A m K r cov t ↔ cov (q - 1) j :=
  CovAt.iff h.lastK (h.lastA hA he hf) (by omega)

theorem Inn.no (h : Inn first m r A K P j q t) (hn : ¬ P t) : ¬ AllCov A m K r P := fun hc => hn (hc t h.inst)

/-- What lies behind t. -/
theorem Inn.behind (hA : StrictR A m) (hK : StrictR K r) (h : Inn first m r A K P j q t) (he : Ended m A q t) (hf : first < q) {s : Int} (hs : Inst A m K r s) (hlt : t < s) :
    (∃ i, j < i ∧ i < r ∧ s = K.getD i 0) ∨ (∃ x, q ≤ x ∧ x < m ∧ s = A.getD x 0) := by
  rcases hs with ⟨i, hi, rfl⟩ | ⟨x, hx, hle, rfl⟩
  · refine .inl ⟨i, ?_, hi, rfl⟩
    apply Classical.byContradiction
    intro hn
    have := (h.lastK.2.2 i hi).2 (by omega)
    omega
  · refine .inr ⟨x, ?_, hx, rfl⟩
    apply Classical.byContradiction
    intro hn
    have := ((h.lastA hA he hf).2.2 x hx).2 (by omega)
    omega

theorem Inn.next (hA : StrictR A m) (hK : StrictR K r) (h : Inn first m r A K P j q t) (he : Ended m A q t) (hf : first < q) (hP : P t) (hb : q = m ∨ (j + 1 < r ∧ K[j + 1]?.getD 0 ≤ A[q]?.getD 0)) :
    Out first m r A K P (j + 1) q := by
  have hjr := h.jr
  have key : ∀ s, Inst A m K r s → (∀ i, j < i → i < r → s ≠ K.getD i 0) → (j + 1 < r → s < K.getD (j + 1) 0) → P s := by
    intro s hs hnK hlt
    rcases Int.lt_trichotomy s t with h1 | h1 | h1
    · exact h.bef s hs h1
    · subst h1; exact hP
    · rcases h.behind hA hK he hf hs h1 with ⟨i, i1, i2, rfl⟩ | ⟨x, x1, x2, rfl⟩
      · exact absurd rfl (hnK i i1 i2)
      · rcases hb with rfl | ⟨hb1, hb2⟩
        · omega
        · have h2 := hlt hb1
          have := hA.le x1 x2
          simp only [← List.getD_eq_getElem?_getD] at hb2
          omega
  refine ⟨by omega, fun hj => ⟨fun s hs hlt => key s hs (fun i i1 i2 e => ?_) (fun _ => hlt), fun _ => ?_⟩, fun hj s hs => key s hs (fun i i1 i2 e => by omega) (fun h => by omega), h.q1, h.q2⟩
  · have := hK.le (show j + 1 ≤ i by omega) i2
    omega
  · have := h.q3 hf
    apply Classical.byContradiction
    intro hn
    have := (h.lastK.2.2 (j + 1) hj).1 (by omega)
    omega

theorem Inn.go (hA : StrictR A m) (hK : StrictR K r) (h : Inn first m r A K P j q t) (he : Ended m A q t) (hf : first < q) (hP : P t) (hq : q < m) (hb : j + 1 < r → A[q]?.getD 0 < K[j + 1]?.getD 0) :
    Inn first m r A K P j q (A[q]?.getD 0) := by
  have hjr := h.jr
  have e : A[q]?.getD 0 = A.getD q 0 := by simp
  have h0 := ended_get he hq
  rw [e] at hb ⊢
  have hb' : j + 1 < r → A.getD q 0 < K.getD (j + 1) 0 := by simpa using hb
  refine ⟨hjr, ⟨by omega, by omega, fun i hi => ?_⟩, fun s hs hlt => ?_, .inr ⟨q, hq, ?_, rfl⟩, h.q1, h.q2, fun _ => ?_⟩
  · constructor
    · intro hle
      apply Classical.byContradiction
      intro hn
      have := hK.le (show j + 1 ≤ i by omega) hi
      have := hb' (by omega)
      omega
    · intro hle
      have := (h.lastK.2.2 i hi).2 hle
      omega
  · rcases Int.lt_trichotomy s t with h1 | h1 | h1
    · exact h.bef s hs h1
    · subst h1; exact hP
    · rcases h.behind hA hK he hf hs h1 with ⟨i, i1, i2, rfl⟩ | ⟨x, x1, x2, rfl⟩
      · have := hK.le (show j + 1 ≤ i by omega) i2
        have := hb' (by omega)
        omega
      · have := hA.le x1 x2
        omega
  · have := h.inst.ge hK (by omega)
    omega
  · have := h.q3 hf
    omega

/-- How many of the instants lie behind t: the measure of the middle loop. -/
def more (A : List Int) (t : Int) : Nat := (A.filter fun x => decide (t < x)).length
theorem more_lt {A : List Int} {t t' : Int} (h : t < t') (hm : t' ∈ A) : more A t' < more A t := by
  unfold more
  induction A with
  | nil => cases hm
  | cons a A ih =>
    have mono : ∀ l : List Int, (l.filter fun x => decide (t' < x)).length ≤ (l.filter fun x => decide (t < x)).length := by
      intro l
      induction l with
      | nil => simp
      | cons b l ihl =>
        by_cases h1 : t' < b
        · have h2 : t < b := by omega
          simpa [List.filter_cons, h1, h2] using ihl
        · by_cases h2 : t < b
          · simp [h1, h2]; omega
          · simpa [List.filter_cons, h1, h2] using ihl
    rcases List.mem_cons.1 hm with e | hm'
    · subst e
      have h1 : ¬ t' < t' := by omega
      have := mono A
      simp [h]; omega
    · have := ih hm'
      by_cases h1 : t' < a
      · have h2 : t < a := by omega
        simpa [List.filter_cons, h1, h2] using this
      · by_cases h2 : t < a
        · simp [h1, h2]; omega
        · simpa [List.filter_cons, h1, h2] using this
theorem get_mem {A : List Int} {q m : Nat} (hl : A.length = m) (hq : q < m) : A[q]?.getD 0 ∈ A := by
  subst hl
  simp [hq]
end Go.Proofs.Qxb6601373a
