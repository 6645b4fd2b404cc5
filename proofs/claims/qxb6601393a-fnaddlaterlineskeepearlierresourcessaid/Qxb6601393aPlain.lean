/-
  The plain law: one line more extends what was filed. No Go in sight.
-/
import Derived.Below
namespace Go.Proofs.Qxb6601393a
set_option linter.unusedVariables false

/-- What a Sample holds: its resources (Accept value, tags), and its paths (path, the resources' places). -/
abbrev St := List (ByteArray × List Int) × List (ByteArray × List Nat)

def idxOf (ps : List (ByteArray × List Nat)) (p : ByteArray) : List Nat := ((ps.find? fun x => decide (x.1 = p)).map (·.2)).getD []
def hitOf (rs : List (ByteArray × List Int)) (l : List Nat) (a : ByteArray) : Option Nat := l.find? fun i => decide (rs[i]?.map (·.1) = some a)
def putP (ps : List (ByteArray × List Nat)) (p : ByteArray) (l : List Nat) : List (ByteArray × List Nat) := if ps.any (fun x => decide (x.1 = p)) then ps.map (fun x => if x.1 = p then (p, l) else x) else ps ++ [(p, l)]
def addA (st : St) (p a : ByteArray) (t : Int) : St :=
  match hitOf st.1 (idxOf st.2 p) a with
  | some i => (st.1.modify i (fun x => (x.1, x.2 ++ [t])), st.2)
  | none => (st.1 ++ [(a, [t])], putP st.2 p (idxOf st.2 p ++ [st.1.length]))

/-- What was filed stays. -/
structure Ext (s s' : St) : Prop where
  len : s.1.length ≤ s'.1.length
  res : ∀ (i : Nat) (x : ByteArray × List Int), s.1[i]? = some x → ∃ y : ByteArray × List Int, s'.1[i]? = some y ∧ y.1 = x.1 ∧ x.2 <+: y.2
  pth : ∀ p, idxOf s.2 p <+: idxOf s'.2 p
  cnt : s.2.length ≤ s'.2.length

theorem Ext.refl (s : St) : Ext s s := ⟨Nat.le_refl _, fun i x h => ⟨x, h, rfl, List.prefix_refl _⟩, fun _ => List.prefix_refl _, Nat.le_refl _⟩
theorem Ext.trans {a b c : St} (h : Ext a b) (k : Ext b c) : Ext a c := by
  refine ⟨Nat.le_trans h.len k.len, fun i x hx => ?_, fun p => (h.pth p).trans (k.pth p), Nat.le_trans h.cnt k.cnt⟩
  obtain ⟨y, h1, h2, h3⟩ := h.res i x hx
  obtain ⟨z, k1, k2, k3⟩ := k.res i y h1
  exact ⟨z, k1, k2.trans h2, h3.trans k3⟩

theorem find_map (p : ByteArray) (l : List Nat) (q : ByteArray) : ∀ ps : List (ByteArray × List Nat), idxOf (ps.map (fun x => if x.1 = p then (p, l) else x)) q = if q = p then (if ps.any (fun x => decide (x.1 = p)) then l else []) else idxOf ps q
  | [] => by simp [idxOf]
  | x :: ps => by
    have ih := find_map p l q ps
    unfold idxOf at ih ⊢
    by_cases hx : x.1 = p
    · by_cases hq : q = p
      · subst hq
        simp [hx]
      · have : ¬ p = q := fun e => hq e.symm
        have h2 : ¬ x.1 = q := by rw [hx]; exact this
        simp [hx, this] at ih ⊢
        simpa [hq] using ih
    · by_cases hxq : x.1 = q
      · have hq : ¬ q = p := by rw [← hxq]; exact hx
        simp [hxq, hq]
      · have e : (decide (x.1 = p) || ps.any fun x => decide (x.1 = p)) = ps.any fun x => decide (x.1 = p) := by simp [hx]
        have e2 : (x :: ps).find? (fun x => decide (x.1 = q)) = ps.find? (fun x => decide (x.1 = q)) := by simp [hxq]
        simp only [List.any_cons, e, e2]
        rw [← ih]
        simp [hx, hxq]
theorem idxOf_put (ps : List (ByteArray × List Nat)) (p : ByteArray) (l : List Nat) (q : ByteArray) : idxOf (putP ps p l) q = if q = p then l else idxOf ps q := by
  unfold putP
  by_cases h : ps.any (fun x => decide (x.1 = p)) = true
  · rw [if_pos h, find_map, h]
    simp
  · rw [if_neg h]
    unfold idxOf
    rw [List.find?_append]
    by_cases hq : q = p
    · subst hq
      have : ps.find? (fun x => decide (x.1 = q)) = none := by
        rw [List.find?_eq_none]
        intro x hx hd
        exact h (List.any_eq_true.2 ⟨x, hx, hd⟩)
      simp [this]
    · have : ¬ p = q := fun e => hq e.symm
      simp [this, hq]
theorem length_put (ps : List (ByteArray × List Nat)) (p : ByteArray) (l : List Nat) : ps.length ≤ (putP ps p l).length := by
  unfold putP
  split <;> simp

theorem addA_ext (s : St) (p a : ByteArray) (t : Int) : Ext s (addA s p a t) ∧ (addA s p a t).1.length ≤ s.1.length + 1 := by
  unfold addA
  split
  · rename_i i hi
    refine ⟨⟨by simp, fun j x hx => ?_, fun _ => List.prefix_refl _, Nat.le_refl _⟩, by simp⟩
    rw [List.getElem?_modify]
    by_cases e : i = j
    · subst e
      exact ⟨(x.1, x.2 ++ [t]), by simp [hx], rfl, List.prefix_append _ _⟩
    · exact ⟨x, by simp [e, hx], rfl, List.prefix_refl _⟩
  · refine ⟨⟨by simp, fun j x hx => ⟨x, ?_, rfl, List.prefix_refl _⟩, fun q => ?_, length_put _ _ _⟩, by simp⟩
    · rw [List.getElem?_append_left (List.getElem?_eq_some_iff.1 hx).1]; exact hx
    · show idxOf s.2 q <+: idxOf (putP s.2 p (idxOf s.2 p ++ [s.1.length])) q
      rw [idxOf_put]
      split
      · rename_i e; subst e; exact List.prefix_append _ _
      · exact List.prefix_refl _

/-- The state behind the first k lines of a script. -/
def runA (f : Nat → ByteArray × ByteArray) : Nat → St
  | 0 => ([], [])
  | k + 1 => addA (runA f k) (f k).1 (f k).2 k
theorem runA_ext (f : Nat → ByteArray × ByteArray) (k d : Nat) : Ext (runA f k) (runA f (k + d)) ∧ (runA f (k + d)).1.length ≤ (runA f k).1.length + d := by
  induction d with
  | zero => exact ⟨Ext.refl _, Nat.le_refl _⟩
  | succ d ih =>
    have := addA_ext (runA f (k + d)) (f (k + d)).1 (f (k + d)).2 ((k + d : Nat) : Int)
    exact ⟨ih.1.trans this.1, by have h2 := this.2; have h1 := ih.2; have e : runA f (k + (d + 1)) = addA (runA f (k + d)) (f (k + d)).1 (f (k + d)).2 ((k + d : Nat) : Int) := rfl; rw [e]; omega⟩
end Go.Proofs.Qxb6601393a
