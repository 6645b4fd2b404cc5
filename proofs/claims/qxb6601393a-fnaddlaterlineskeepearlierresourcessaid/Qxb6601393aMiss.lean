/-
  (*Sample).add (16): the miss.
-/
import Derived.Test.Qxb6601393aAdd
import Derived.Deep.AppendLies
import Derived.Deep.DrawnRows
namespace Go.Proofs.Qxb6601393a
open Go.RowKit Go.ChangeMaps Go.MapKept
set_option linter.unusedVariables false
attribute [local go_sem ↓] Go.wp_at_zero Go.wp_at_succ

theorem row_form2 {w : World} {base : Nat} {e : TypeId} {v : Value} {n : Nat} {xs : List Value} (h : w.ownsRow base e 1 v n xs) : ∃ a c, v = .slice a n c ∧ (0 < n → ∃ g, a = some ⟨g, 0, none⟩ ∧ ∀ j, j < n → ∀ u, xs[j]? = some u → w.cell? ⟨g, j, none⟩ = some u) := by
  rcases row_form h with ⟨rfl, rfl⟩ | ⟨g, cap, rfl, hc⟩
  · exact ⟨none, 0, rfl, fun h => by omega⟩
  · exact ⟨_, cap, rfl, fun _ => ⟨g, rfl, hc⟩⟩

/-- What byPath holds at a path: the entry's place, the slice and the list; and what a store there makes. -/
structure PathAt (ps : List PD) (path : ByteArray) (k : Nat) (v0 : Value) (idx0 : List Nat) : Prop where
  look : ∀ (es : Array MapEntry) (clock : Nat), Ents es clock (ents ps) → ∀ (b : Nat) (w : World), w.heap[b]? = some (.map es clock) → (Instr.lookup 37 (.map (some b)) (.string path) false).run Try.prog w = .ok v0 w
  upd : ∀ (es : Array MapEntry) (clock : Nat), Ents es clock (ents ps) → ps.length < maxLen → ∃ (E : Value → Array MapEntry) (C : Nat) (Pn : Value → Nat → List PD), (∀ (b : Nat) (w : World) (v : Value), w.heap[b]? = some (.map es clock) → (Instr.mapUpdate 37 (.map (some b)) (.string path) v).run Try.prog w = .ok () (setBlock w b (.map (E v) C))) ∧
    ∀ v i, (Pn v i)[k]? = some ⟨path, v, idx0 ++ [i]⟩ ∧ (∀ j, j ≠ k → (Pn v i)[j]? = ps[j]?) ∧ Ents (E v) C (ents (Pn v i)) ∧ Apart (ents (Pn v i)) ∧ (Pn v i).length ≤ ps.length + 1 ∧ absP (Pn v i) = putP (absP ps) path (idx0 ++ [i])
  own : ∀ (w : World) (base : Nat) (ρ : Nat → Nat × Nat) (N : Nat) (rs : List RD), (∀ k p, ps[k]? = some p → PthOk w base ρ N rs k p) → w.ownsRow base 46 1 v0 idx0.length (idx0.map fun i => ptr (blkOf rs i)) ∧ (∀ g, v0.ownBlock = some g → ρ g = (6, k)) ∧ (∀ i ∈ idx0, i < rs.length) ∧ idx0.length ≤ N
  idx : idxOf (absP ps) path = idx0

theorem ents_get (ps : List PD) (k : Nat) : (ents ps)[k]? = (ps[k]?).map fun p => (p.path, p.pv) := by simp [ents]

theorem pathAt_none {ps : List PD} {path : ByteArray} (hs : path.size ≤ maxLen) (hap : Apart (ents ps)) (hn : ∀ p ∈ ps, p.path ≠ path) : PathAt ps path ps.length (.slice none 0 0) [] := by
  have hn' : ∀ x ∈ ents ps, x.1 ≠ path := by
    intro x hx
    simp [ents] at hx
    obtain ⟨p, hp, rfl⟩ := hx
    exact hn p hp
  refine ⟨fun es clock he b w hb => look_none he hs hn' w hb, fun es clock he hl => ⟨fun v => es.push ⟨.string path, v, clock⟩, clock + 1, fun v i => ps ++ [⟨path, v, [i]⟩], fun b w v hb => upd_none he hs hn' (by simpa [ents] using hl) w v hb, fun v i => ⟨by simp, fun j hj => ?_, ?_, ?_, by simp, ?_⟩⟩, fun w base ρ N rs _ => ⟨⟨rfl, .inl ⟨rfl, rfl⟩⟩, fun g hg => (by simp [Value.ownBlock] at hg), fun i hi => (by cases hi), Nat.zero_le _⟩, ?_⟩
  · by_cases h : j < ps.length
    · rw [List.getElem?_append_left h]
    · rw [List.getElem?_append_right (by omega), List.getElem?_eq_none (show ps.length ≤ j by omega), List.getElem?_eq_none (by simp; omega)]
  · have := he.push hs hn' v
    simpa [ents] using this
  · intro x y p q hx hy e
    have key : ∀ z u, (ents (ps ++ [⟨path, v, [i]⟩]))[z]? = some u → (z < ps.length ∧ (ents ps)[z]? = some u) ∨ (z = ps.length ∧ u.1 = path) := by
      intro z u hz
      rw [ents_get] at hz
      by_cases h : z < ps.length
      · rw [List.getElem?_append_left h] at hz
        exact .inl ⟨h, by rw [ents_get]; exact hz⟩
      · rw [List.getElem?_append_right (by omega)] at hz
        have hz0 : z = ps.length := by
          apply Classical.byContradiction
          intro hne
          rw [List.getElem?_eq_none (by simp; omega)] at hz
          simp at hz
        subst hz0
        simp at hz
        exact .inr ⟨rfl, by rw [← hz]⟩
    rcases key x p hx with ⟨h1, h2⟩ | ⟨h1, h2⟩
    · rcases key y q hy with ⟨h3, h4⟩ | ⟨h3, h4⟩
      · exact hap x y p q h2 h4 e
      · exact absurd (e.trans h4) (hn' p (List.mem_of_getElem? h2))
    · rcases key y q hy with ⟨h3, h4⟩ | ⟨h3, h4⟩
      · exact absurd (e.symm.trans h2) (hn' q (List.mem_of_getElem? h4))
      · omega
  · have : (absP ps).any (fun x => decide (x.1 = path)) = false := by
      rw [List.any_eq_false]
      intro x hx
      simp [absP] at hx
      obtain ⟨p, hp, rfl⟩ := hx
      simpa using hn p hp
    simp [putP, this]
    simp [absP]
  · have : (absP ps).find? (fun x => decide (x.1 = path)) = none := by
      rw [List.find?_eq_none]
      intro x hx
      simp [absP] at hx
      obtain ⟨p, hp, rfl⟩ := hx
      simpa using hn p hp
    simp [idxOf, this]

theorem apart_ps {ps : List PD} (hap : Apart (ents ps)) {i j : Nat} {p q : PD} (hi : ps[i]? = some p) (hj : ps[j]? = some q) (e : p.path = q.path) : i = j :=
  hap i j (p.path, p.pv) (q.path, q.pv) (by rw [ents_get, hi]; rfl) (by rw [ents_get, hj]; rfl) e

theorem pathAt_some {ps : List PD} {path : ByteArray} (hs : path.size ≤ maxLen) (hap : Apart (ents ps)) {k : Nat} {p : PD} (hk : ps[k]? = some p) (hp : p.path = path) : PathAt ps path k p.pv p.idx := by
  obtain ⟨hkl, hget⟩ := List.getElem?_eq_some_iff.1 hk
  have hek : (ents ps)[k]? = some (path, p.pv) := by rw [ents_get, hk, ← hp]; rfl
  have hent : ∀ (v : Value) (l : List Nat), ents (ps.set k ⟨path, v, l⟩) = (ents ps).set k (path, v) := fun v l => by simp [ents, List.map_set]
  refine ⟨fun es clock he b w hb => look_some he hs hek hap w hb, fun es clock he hl => ⟨fun v => es.modify k (fun e => { e with key := .string path, val := v }), clock, fun v i => ps.set k ⟨path, v, p.idx ++ [i]⟩, fun b w v hb => upd_some he hs hek hap w v hb, fun v i => ⟨by simp [hkl], fun j hj => ?_, ?_, ?_, by simp, ?_⟩⟩, fun w base ρ N rs h => ⟨(h k p hk).row, (h k p hk).rP, (h k p hk).lt, (h k p hk).n⟩, ?_⟩
  · rw [List.getElem?_set]
    simp [Ne.symm hj]
  · rw [hent]
    exact he.modify hs hek v
  · rw [hent]
    intro x y a b hx hy e
    have key : ∀ (z : Nat) (u : ByteArray × Value), ((ents ps).set k (path, v))[z]? = some u → ∃ u' : ByteArray × Value, (ents ps)[z]? = some u' ∧ u'.1 = u.1 := by
      intro z u hz
      rw [List.getElem?_set] at hz
      by_cases h : k = z
      · subst h
        have : k < (ents ps).length := by simpa [ents] using hkl
        simp [this] at hz
        exact ⟨_, hek, by rw [← hz]⟩
      · rw [if_neg h] at hz
        exact ⟨u, hz, rfl⟩
    obtain ⟨a', h1, h2⟩ := key x a hx
    obtain ⟨b', h3, h4⟩ := key y b hy
    exact hap x y a' b' h1 h3 (h2.trans (e.trans h4.symm))
  · have hany : (absP ps).any (fun x => decide (x.1 = path)) = true := by
      rw [List.any_eq_true]
      exact ⟨(p.path, p.idx), by simp [absP]; exact ⟨p, List.mem_of_getElem? hk, rfl, rfl⟩, by simp [hp]⟩
    unfold putP
    rw [if_pos hany]
    apply List.ext_getElem?
    intro j
    simp only [absP, List.map_set, List.getElem?_set, List.getElem?_map, List.length_map]
    by_cases h : k = j
    · subst h
      simp [hkl, hget, hp]
    · rw [if_neg h]
      cases hj : ps[j]? with
      | none => simp
      | some q =>
        have hne : q.path ≠ path := fun e => h (apart_ps hap hk hj (hp.trans e.symm))
        simp [hne]
  · unfold idxOf
    cases hf : (absP ps).find? (fun x => decide (x.1 = path)) with
    | none =>
      rw [List.find?_eq_none] at hf
      exact absurd (by simp [hp]) (hf (p.path, p.idx) (by simp [absP]; exact ⟨p, List.mem_of_getElem? hk, rfl, rfl⟩))
    | some x =>
      have h1 := List.find?_some hf
      have h2 := List.mem_of_find?_eq_some hf
      simp [absP] at h2
      obtain ⟨q, hq, rfl⟩ := h2
      obtain ⟨j, hj⟩ := List.getElem?_of_mem hq
      simp at h1
      have := apart_ps hap hk hj (hp.trans h1.symm)
      subst this
      rw [hk] at hj
      cases hj
      rfl

theorem pathAt (ps : List PD) (path : ByteArray) (hs : path.size ≤ maxLen) (hap : Apart (ents ps)) : (∃ k p, ps[k]? = some p ∧ p.path = path ∧ PathAt ps path k p.pv p.idx) ∨ PathAt ps path ps.length (.slice none 0 0) [] := by
  by_cases h : ∃ p ∈ ps, p.path = path
  · obtain ⟨p, hp, he⟩ := h
    obtain ⟨k, hk⟩ := List.getElem?_of_mem hp
    exact .inl ⟨k, p, hk, he, pathAt_some hs hap hk he⟩
  · exact .inr (pathAt_none hs hap fun p hp e => h ⟨p, hp, e⟩)
end Go.Proofs.Qxb6601393a
