/-
  (*Sample).add (16) whole; ZZAdd (9); ZZNewSample (8).
-/
import Derived.Test.Qxb6601393aMissWalk
import Derived.Carry
namespace Go.Proofs.Qxb6601393a
open Go.RowKit Go.ChangeMaps Go.MapKept
set_option linter.unusedVariables false

theorem absR_get (rs : List RD) (i : Nat) : (absR rs)[i]? = (rs[i]?).map fun r => (r.acc, r.recs.map (·.2)) := by simp [absR]

theorem hit_none {rs : List RD} {l : List Nat} {a : ByteArray} (h : hitOf (absR rs) l a = none) : ∀ (q x : Nat), l[q]? = some x → ∀ y : RD, rs[x]? = some y → y.acc ≠ a := by
  intro q x hq y hy e
  unfold hitOf at h
  rw [List.find?_eq_none] at h
  exact h x (List.mem_of_getElem? hq) (by simp [absR_get, hy, e])
theorem hit_some {rs : List RD} {l : List Nat} {a : ByteArray} {i : Nat} (h : hitOf (absR rs) l a = some i) : ∃ (j : Nat) (r : RD), l[j]? = some i ∧ rs[i]? = some r ∧ r.acc = a ∧ ∀ (q : Nat), q < j → ∀ (x : Nat), l[q]? = some x → ∀ y : RD, rs[x]? = some y → y.acc ≠ a := by
  unfold hitOf at h
  obtain ⟨h1, xs, bs, rfl, h2⟩ := List.find?_eq_some_iff_append.1 h
  simp [absR_get] at h1
  obtain ⟨r, hr, ha⟩ := h1
  refine ⟨xs.length, r, by simp, hr, ha, fun q hq x hx y hy e => ?_⟩
  rw [List.getElem?_append_left hq] at hx
  have := h2 x (List.mem_of_getElem? hx)
  simp [absR_get, hy, e] at this

theorem add_any (w : World) (base B N : Nat) (rs : List RD) (ps : List PD) (mB : Nat) (rv : Value) (ρ : Nat → Nat × Nat) (h : Rep w base B N rs ps mB rv ρ) (R : Nat) (tag : Int) (hR : RecAt w ρ R tag) (hbase : base ≤ w.heap.size) (hN : N ≤ 4096)
    (path acc : ByteArray) (hpath : path.size ≤ maxLen) :
    Calls Try.prog 16 #[.pointer (some ⟨B, 0, none⟩), .string path, .string acc, .pointer (some ⟨R, 0, none⟩)] w fun e w' => AddEnds w base B (N + 1) (addA (absR rs, absP ps) path acc tag) e w' := by
  rcases pathAt ps path hpath h.apart with ⟨k, p, hk, hp, hat⟩ | hat
  · unfold addA
    rw [hat.idx]
    cases hh : hitOf (absR rs) p.idx acc with
    | none =>
      have := add_miss w base B N rs ps mB rv ρ h R tag hR hbase hN path acc hpath k p.pv p.idx hat (hit_none hh)
      simpa [absR] using this
    | some i =>
      obtain ⟨j, r, hj, hr, ha, hb⟩ := hit_some hh
      have := add_hit w base B N rs ps mB rv ρ h R tag hR hbase hN path acc hpath k p hk hp j i hj r hr ha hb
      have e : (absR rs).modify i (fun x => (x.1, x.2 ++ [tag])) = (absR rs).set i (r.acc, r.recs.map (·.2) ++ [tag]) := by
        apply List.ext_getElem?
        intro m
        rw [List.getElem?_modify, List.getElem?_set]
        by_cases em : i = m
        · subst em
          obtain ⟨hl, hget⟩ := List.getElem?_eq_some_iff.1 hr
          simp [absR, hl, hget]
        · simp [em]
      simp only [e]
      exact this
  · unfold addA
    rw [hat.idx]
    have hh : hitOf (absR rs) [] acc = none := rfl
    have := add_miss w base B N rs ps mB rv ρ h R tag hR hbase hN path acc hpath ps.length _ [] hat (hit_none hh)
    rw [hh]
    simpa [absR] using this

set_option maxHeartbeats 1000000 in
theorem zzadd_any (w : World) (base B N : Nat) (st : St) (h : Smp w base B N st) (hbase : base ≤ w.heap.size) (hN : N ≤ 4096) (path acc : ByteArray) (hpath : path.size ≤ maxLen) (tag : Int) :
    Calls Try.prog 9 #[.pointer (some ⟨B, 0, none⟩), .string path, .string acc, .int .i64 tag] w fun e w' => AddEnds w base B (N + 1) (addA st path acc tag) e w' := by
  obtain ⟨rs, ps, mB, rv, ρ, hrep, e1, e2⟩ := h
  have est : st = (absR rs, absP ps) := by rw [e1, e2]
  rw [est]
  have HREP := hid hrep
  clear hrep e1 e2 est
  go_enter Try.func9, Try.ntmps9
  go_wp2_with fail
  refine (add_any _ base B N rs ps mB rv (fun k => if k < w.heap.size then ρ k else (5, 0)) (HREP.out.keep (by simp) (fun g hg => alloc_old _ _ _ hg) (fun g hg => if_pos hg)) w.heap.size tag ⟨by simp, cell_of_block (alloc_new _ _) (by simp), if_neg (Nat.lt_irrefl _)⟩ (by simp; omega) hN path acc hpath).mono ?_
  rintro e w1 ⟨rfl, hs, hb⟩
  have HS := hid hs
  have HB := hid hb
  clear hs hb
  go_wp2
  go_end0
  exact ⟨rfl, HS.out, ((Below.refl base w).alloc hbase _).trans HB.out⟩

/-! ### ZZNewSample (8) -/
def NewEnds (w : World) (e : Ending) (w' : World) : Prop := ∃ B, e = .returned (.pointer (some ⟨B, 0, none⟩)) ∧ Smp w' w.heap.size B 0 ([], []) ∧ Below w.heap.size w w' ∧ w.heap.size ≤ w'.heap.size
set_option maxHeartbeats 1000000 in
theorem new_any (w : World) : Calls Try.prog 8 #[] w fun e w' => NewEnds w e w' := by
  have hmm := @run_makeMap Try.prog
  go_enter Try.func8, Try.ntmps8
  go_wp2
  go_ret
  refine ⟨w.heap.size + 1, rfl, ⟨[], [], w.heap.size, .slice none 0 0, fun k => if k = w.heap.size then (1, 0) else (0, 0), ?_, rfl, rfl⟩, ?_, ?_⟩
  · refine ⟨by omega, Nat.le_refl _, ?_, by simp, by simp, ⟨rfl, .inl ⟨rfl, rfl⟩⟩, fun g hg => by simp [Value.ownBlock] at hg, fun i r hi => by simp at hi, ⟨#[], 0, ?_, Ents.nil⟩, fun k p hp => by simp at hp, fun i j p q hi => by simp [ents] at hi, Nat.le_refl _, Nat.le_refl _⟩
    · have := alloc_new (w.alloc (.map #[] 0)) (.cells #[.slice none 0 0, .map (some w.heap.size)] 40)
      rwa [size_alloc] at this
    · rw [alloc_old _ _ _ (by rw [size_alloc]; omega)]
      exact alloc_new _ _
  · exact ((Below.refl _ _).alloc (Nat.le_refl _) _).alloc (by simp) _
  · simp
    omega
end Go.Proofs.Qxb6601393a
