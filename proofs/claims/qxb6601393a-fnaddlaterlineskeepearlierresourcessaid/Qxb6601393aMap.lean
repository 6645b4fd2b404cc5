/-
  The map 'byPath' of a Sample: string keys, whatever elements; its entries told in their order by a list.
-/
import Derived.Test.Qxb6601393aRows
import Derived.WalkKit
import Derived.ProofKit
import Derived.Maps.Own
namespace Go.Proofs.Qxb6601393a
open Go.RowKit Go.ChangeMaps Go.MapKept
set_option linter.unusedVariables false

theorem law9 : Maps.Keyed Try.prog 9 := Maps.string_keyed Try.underlying9
theorem key9 {s : ByteArray} (h : s.size ≤ maxLen) : ∃ l, keyOf Try.prog 9 (.string s) = some l := ⟨_, WideMaps.keyOf_string_mk Try.underlying9 h⟩

/-- No key twice. -/
def Apart (g : List (ByteArray × Value)) : Prop := ∀ (i j : Nat) (p q : ByteArray × Value), g[i]? = some p → g[j]? = some q → p.1 = q.1 → i = j
/-- The entries of a map's block, in their order, are g. -/
structure Ents (es : Array MapEntry) (clock : Nat) (g : List (ByteArray × Value)) : Prop where
  st : Stamped es clock
  eq : es.toList.map (fun e => (e.key, e.val)) = g.map (fun p => (Value.string p.1, p.2))
  sz : ∀ p ∈ g, p.1.size ≤ maxLen

theorem Ents.get {es : Array MapEntry} {clock : Nat} {g : List (ByteArray × Value)} (h : Ents es clock g) (j : Nat) : (es.toList[j]?).map (fun e => (e.key, e.val)) = (g[j]?).map (fun p => (Value.string p.1, p.2)) := by
  have := congrArg (fun l => l[j]?) h.eq
  simpa using this
theorem Ents.keys {es : Array MapEntry} {clock : Nat} {g : List (ByteArray × Value)} (h : Ents es clock g) : ∀ e ∈ es.toList, ∃ l, keyOf Try.prog 9 e.key = some l := by
  intro e he
  obtain ⟨j, hj⟩ := List.getElem?_of_mem he
  have := h.get j
  rw [hj] at this
  cases hg : g[j]? with
  | none => rw [hg] at this; simp at this
  | some p =>
    rw [hg] at this
    simp at this
    rw [this.1]
    exact key9 (h.sz p (List.mem_of_getElem? hg))
theorem Ents.size {es : Array MapEntry} {clock : Nat} {g : List (ByteArray × Value)} (h : Ents es clock g) : es.size = g.length := by
  have := congrArg List.length h.eq
  simpa using this
theorem Ents.nil : Ents #[] 0 [] := ⟨stamped_empty 0, rfl, fun _ h => by cases h⟩

theorem zero38 (w : World) : (zeroValue 38).run Try.prog w = .ok (.slice none 0 0) w := by kernel_rfl

section
variable {es : Array MapEntry} {clock : Nat} {g : List (ByteArray × Value)} {w : World} {b : Nat} {s : ByteArray}

theorem find_none (h : Ents es clock g) (hs : s.size ≤ maxLen) (hn : ∀ p ∈ g, p.1 ≠ s) (w : World) : (Instr.findKey 9 (.string s) es.toList).run Try.prog w = .ok none w := by
  obtain ⟨l, hl⟩ := key9 hs
  rcases law9.find w hl es.toList h.keys with ⟨h1, _⟩ | ⟨j, e, h1, h2, h3⟩
  · exact h1
  · exfalso
    have := h.get j
    rw [h2] at this
    cases hg : g[j]? with
    | none => rw [hg] at this; simp at this
    | some p =>
      rw [hg] at this
      simp at this
      rw [h3] at this
      simp at this
      exact hn p (List.mem_of_getElem? hg) this.1.symm

theorem find_some (h : Ents es clock g) (hs : s.size ≤ maxLen) {k : Nat} {v : Value} (hk : g[k]? = some (s, v)) (hd : Apart g) (w : World) :
    (Instr.findKey 9 (.string s) es.toList).run Try.prog w = .ok (some (k, v)) w ∧ ∃ e, es.toList[k]? = some e ∧ e.key = .string s := by
  obtain ⟨l, hl⟩ := key9 hs
  have hgk := h.get k
  rw [hk] at hgk
  rcases law9.find w hl es.toList h.keys with ⟨h1, h2⟩ | ⟨j, e, h1, h2, h3⟩
  · exfalso
    cases he : es.toList[k]? with
    | none => rw [he] at hgk; simp at hgk
    | some e =>
      rw [he] at hgk
      simp at hgk
      exact h2 e (List.mem_of_getElem? he) hgk.1
  · have hj := h.get j
    rw [h2] at hj
    cases hg : g[j]? with
    | none => rw [hg] at hj; simp at hj
    | some p =>
      rw [hg] at hj
      simp at hj
      have e1 : p.1 = s := by
        have := hj.1
        rw [h3] at this
        simpa using this.symm
      have e2 : j = k := hd j k p (s, v) hg hk e1
      subst e2
      rw [hk] at hg
      cases hg
      rw [h1, hj.2]
      exact ⟨rfl, e, h2, h3⟩

theorem look_none (h : Ents es clock g) (hs : s.size ≤ maxLen) (hn : ∀ p ∈ g, p.1 ≠ s) (w : World) (hb : w.heap[b]? = some (.map es clock)) :
    (Instr.lookup 37 (.map (some b)) (.string s) false).run Try.prog w = .ok (.slice none 0 0) w := by
  obtain ⟨l, hl⟩ := key9 hs
  simp [Instr.lookup, run_underlying Try.underlying37, MapKept.run_getObj_map hb, law9.check w _ hl, find_none h hs hn w, zero38 w, Result.andThen]
theorem look_some (h : Ents es clock g) (hs : s.size ≤ maxLen) {k : Nat} {v : Value} (hk : g[k]? = some (s, v)) (hd : Apart g) (w : World) (hb : w.heap[b]? = some (.map es clock)) :
    (Instr.lookup 37 (.map (some b)) (.string s) false).run Try.prog w = .ok v w := by
  obtain ⟨l, hl⟩ := key9 hs
  simp [Instr.lookup, run_underlying Try.underlying37, MapKept.run_getObj_map hb, law9.check w _ hl, (find_some h hs hk hd w).1, Result.andThen]

theorem upd_none (h : Ents es clock g) (hs : s.size ≤ maxLen) (hn : ∀ p ∈ g, p.1 ≠ s) (hlen : g.length < maxLen) (w : World) (v : Value) (hb : w.heap[b]? = some (.map es clock)) :
    (Instr.mapUpdate 37 (.map (some b)) (.string s) v).run Try.prog w = .ok () (setBlock w b (.map (es.push ⟨.string s, v, clock⟩) (clock + 1))) := by
  obtain ⟨l, hl⟩ := key9 hs
  simp [Instr.mapUpdate, run_underlying Try.underlying37, MapKept.run_getObj_map hb, law9.check w false hl, find_none h hs hn w, MapKept.run_setObj_map _ hb, Result.andThen, setBlock]
theorem upd_some (h : Ents es clock g) (hs : s.size ≤ maxLen) {k : Nat} {v0 : Value} (hk : g[k]? = some (s, v0)) (hd : Apart g) (w : World) (v : Value) (hb : w.heap[b]? = some (.map es clock)) :
    (Instr.mapUpdate 37 (.map (some b)) (.string s) v).run Try.prog w = .ok () (setBlock w b (.map (es.modify k (fun e => { e with key := .string s, val := v })) clock)) := by
  obtain ⟨l, hl⟩ := key9 hs
  obtain ⟨h1, e, h2, h3⟩ := find_some h hs hk hd w
  have hj : es[k]? = some e := by simpa using h2
  simp [Instr.mapUpdate, run_underlying Try.underlying37, MapKept.run_getObj_map hb, law9.check w false hl, h1, hj, h3, law9.stays w hl, MapKept.run_setObj_map _ hb, Result.andThen, setBlock]

theorem Ents.push (h : Ents es clock g) (hs : s.size ≤ maxLen) (hn : ∀ p ∈ g, p.1 ≠ s) (v : Value) : Ents (es.push ⟨.string s, v, clock⟩) (clock + 1) (g ++ [(s, v)]) := by
  refine ⟨stamped_push h.st ?_, by simp [h.eq], ?_⟩
  · intro e he hk
    obtain ⟨j, hj⟩ := List.getElem?_of_mem he
    have := h.get j
    rw [hj] at this
    cases hg : g[j]? with
    | none => rw [hg] at this; simp at this
    | some p =>
      rw [hg] at this
      simp at this
      have e1 := this.1
      rw [hk] at e1
      simp at e1
      exact hn p (List.mem_of_getElem? hg) e1.symm
  · intro p hp
    rcases List.mem_append.1 hp with hp | hp
    · exact h.sz p hp
    · simp at hp
      subst hp
      exact hs
theorem Ents.modify (h : Ents es clock g) (hs : s.size ≤ maxLen) {k : Nat} {v0 : Value} (hk : g[k]? = some (s, v0)) (v : Value) : Ents (es.modify k (fun e => { e with key := .string s, val := v })) clock (g.set k (s, v)) := by
  have hgk := h.get k
  rw [hk] at hgk
  cases he : es.toList[k]? with
  | none => rw [he] at hgk; simp at hgk
  | some e =>
    rw [he] at hgk
    simp at hgk
    refine ⟨stamped_modify h.st _ _ (fun _ _ => rfl) (fun e' _ he' => ?_), ?_, ?_⟩
    · have : es[k]? = some e := by simpa using he
      rw [this] at he'
      cases he'
      exact hgk.1.symm
    · rw [Array.toList_modify, modify_eq_set _ _ _ _ he, List.map_set, h.eq, List.map_set]
    · intro p hp
      rcases List.mem_or_eq_of_mem_set hp with hp | rfl
      · exact h.sz p hp
      · exact hs
end
end Go.Proofs.Qxb6601393a
