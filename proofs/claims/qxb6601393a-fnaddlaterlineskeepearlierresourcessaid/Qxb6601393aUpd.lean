/-
  The three ways in which 'add' turns a Sample.
-/
import Derived.Test.Qxb6601393aRep
namespace Go.Proofs.Qxb6601393a
open Go.RowKit Go.ChangeMaps Go.MapKept
set_option linter.unusedVariables false

theorem alloc_old (w : World) (o : Obj) (g : Nat) (h : g < w.heap.size) : (w.alloc o).heap[g]? = w.heap[g]? := Below.heap_alloc w o g h
theorem alloc_new (w : World) (o : Obj) : (w.alloc o).heap[w.heap.size]? = some o := (MapKept.heap_alloc w o).1
theorem size_alloc (w : World) (o : Obj) : (w.alloc o).heap.size = w.heap.size + 1 := World.size_alloc w o

theorem blkOf_set {rs : List RD} {i : Nat} {r r' : RD} (hi : rs[i]? = some r) (he : r'.blk = r.blk) (j : Nat) : blkOf (rs.set i r') j = blkOf rs j := by
  unfold blkOf
  rw [List.getElem?_set]
  by_cases e : i = j
  · subst e
    obtain ⟨this, hget⟩ := List.getElem?_eq_some_iff.1 hi
    simp [this, he, hget]
  · simp [e]
theorem blkOf_append (rs : List RD) (r : RD) (j : Nat) (h : j < rs.length) : blkOf (rs ++ [r]) j = blkOf rs j := by
  unfold blkOf
  rw [List.getElem?_append_left h]

/-- A recording that lies ready. -/
structure RecAt (w : World) (ρ : Nat → Nat × Nat) (R : Nat) (tag : Int) : Prop where
  lt : R < w.heap.size
  cell : w.cell? ⟨R, 0, none⟩ = some (.int .i64 tag)
  role : ρ R = (5, 0)

/-! ### hit: the states of resource i grow -/
theorem rep_hit {w w3 : World} {base B N : Nat} {rs : List RD} {ps : List PD} {mB : Nat} {rv : Value} {ρ : Nat → Nat × Nat} (h : Rep w base B N rs ps mB rv ρ) {i : Nat} {r : RD} (hi : rs[i]? = some r) {R : Nat} {tag : Int} (hR : RecAt w ρ R tag)
    {o : Obj} {g cap : Nat} (hown : w3.ownsRow base 42 1 (.slice (some ⟨g, 0, none⟩) (r.recs.length + 1) cap) (r.recs.length + 1) ((r.recs.map fun q => ptr q.1) ++ [ptr R]))
    (hgrow : (w.alloc o).grownBy w3 r.sv.ownBlock) (hat : r.sv.ownBlock = some g ∨ g = w.heap.size + 1) (hbase : base ≤ w.heap.size) :
    (∃ ρ', Rep (w3.setCell ⟨r.blk, 2, none⟩ (.slice (some ⟨g, 0, none⟩) (r.recs.length + 1) cap)) base B (N + 1) (rs.set i ⟨r.blk, r.acc, .slice (some ⟨g, 0, none⟩) (r.recs.length + 1) cap, r.recs ++ [(R, tag)]⟩) ps mB rv ρ') ∧
      Below base w (w3.setCell ⟨r.blk, 2, none⟩ (.slice (some ⟨g, 0, none⟩) (r.recs.length + 1) cap)) := by
  have hr := h.res i r hi
  obtain ⟨hil, hget⟩ := List.getElem?_eq_some_iff.1 hi
  have hblt := lt_of_block hr.blk
  have hs3 : w.heap.size + 1 ≤ w3.heap.size := by have := hgrow.size; rwa [size_alloc] at this
  have hss : (w3.setCell ⟨r.blk, 2, none⟩ (.slice (some ⟨g, 0, none⟩) (r.recs.length + 1) cap)).heap.size = w3.heap.size := by simp [World.setCell]
  -- what lies between w and w3
  have b3 : ∀ k, k < w.heap.size → ρ k ≠ (4, i) → w3.heap[k]? = w.heap[k]? := by
    intro k hk hne
    rw [hgrow.block k (by rw [size_alloc]; omega) (fun e => hne (hr.rS k e.symm)), alloc_old _ _ _ hk]
  have bblk : w3.heap[r.blk]? = some (.cells #[.int .i64 i, .string r.acc, r.sv] 49) := by rw [b3 _ hblt (by rw [hr.role]; simp)]; exact hr.blk
  have b4 : ∀ k, k ≠ r.blk → (w3.setCell ⟨r.blk, 2, none⟩ (.slice (some ⟨g, 0, none⟩) (r.recs.length + 1) cap)).heap[k]? = w3.heap[k]? := fun k hk => Below.heap_setCell _ _ _ _ hk
  let ρ' : Nat → Nat × Nat := fun k => if k < w.heap.size then ρ k else (4, i)
  have hρ : ∀ k, k < w.heap.size → ρ' k = ρ k := fun k hk => if_pos hk
  have hk : Kept w (w3.setCell ⟨r.blk, 2, none⟩ (.slice (some ⟨g, 0, none⟩) (r.recs.length + 1) cap)) ρ ρ' (4, i) (3, i) :=
    ⟨by rw [hss]; omega, fun k hk h1 h2 => (b4 k (fun e => h2 (by rw [e]; exact hr.role))).trans (b3 k hk h1), hρ⟩
  obtain ⟨es, clock, m1, m2⟩ := h.es
  have hgne : g ≠ r.blk := by
    rcases hat with e | e
    · intro e'
      have := hr.rS g e
      rw [e', hr.role] at this
      simp at this
    · omega
  refine ⟨⟨ρ', h.hB, h.hM, ?_, ?_, ?_, ?_, fun k hg => ?_, fun j r' hj => ?_, ⟨es, clock, ?_, m2⟩, fun k p hp => ?_, h.apart, by simpa using Nat.le_succ_of_le h.nR, Nat.le_succ_of_le h.nP⟩, ?_⟩
  · rw [hk.blk _ (lt_of_block h.smp) (by rw [h.rB]; simp) (by rw [h.rB]; simp)]; exact h.smp
  · rw [hρ _ (lt_of_block h.smp)]; exact h.rB
  · rw [hρ _ (lt_of_block m1)]; exact h.rM
  · have e : ((rs.set i ⟨r.blk, r.acc, .slice (some ⟨g, 0, none⟩) (r.recs.length + 1) cap, r.recs ++ [(R, tag)]⟩).map fun r => ptr r.blk) = rs.map fun r => ptr r.blk := by
      rw [List.map_set]
      apply List.ext_getElem?
      intro j
      rw [List.getElem?_set]
      by_cases e : i = j
      · subst e
        simp [hil, hget]
      · simp [e]
    rw [e, List.length_set]
    exact row_keep h.rrow fun k hg => hk.blk k (h.rrow.lt k hg).2 (by rw [h.rR k hg]; simp) (by rw [h.rR k hg]; simp)
  · rw [hρ _ (h.rrow.lt k hg).2]; exact h.rR k hg
  · rw [List.getElem?_set] at hj
    by_cases e : i = j
    · subst e
      simp [hil] at hj
      subst hj
      refine ⟨hr.hb, ?_, ?_, ?_, fun k hg => ?_, fun q hq => ?_, ?_⟩
      · rw [setCell_heap _ _ _ _ _ _ bblk]; simp
      · rw [hρ _ hblt]; exact hr.role
      · have := row_keep (w' := w3.setCell ⟨r.blk, 2, none⟩ (.slice (some ⟨g, 0, none⟩) (r.recs.length + 1) cap)) hown fun k hg => b4 k (by simp [Value.ownBlock] at hg; omega)
        simpa using this
      · simp [Value.ownBlock] at hg
        subst hg
        by_cases hl : g < w.heap.size
        · rw [hρ _ hl]
          rcases hat with e | e
          · exact hr.rS g e
          · omega
        · exact if_neg hl
      · rcases List.mem_append.1 hq with hq | hq
        · obtain ⟨q1, q2, q3⟩ := hr.recs q hq
          refine ⟨by rw [hss]; omega, ?_, by rw [hρ _ q1]; exact q3⟩
          rw [World.cell?_of_block (w := w) (hk.blk _ q1 (by rw [q3]; simp) (by rw [q3]; simp))]
          exact q2
        · simp at hq
          subst hq
          refine ⟨by rw [hss]; have := hR.lt; omega, ?_, by rw [hρ _ hR.lt]; exact hR.role⟩
          rw [World.cell?_of_block (w := w) (hk.blk _ hR.lt (by rw [hR.role]; simp) (by rw [hR.role]; simp))]
          exact hR.cell
      · simp
        exact hr.n
    · rw [if_neg e] at hj
      exact (h.res j r' hj).keep hk (by simp) (by simpa using fun e' => e e'.symm) (by simpa using fun e' => e e'.symm) (by simp) (by simp) (by simp) (Nat.le_succ _)
  · rw [hk.blk _ (lt_of_block m1) (by rw [h.rM]; simp) (by rw [h.rM]; simp)]; exact m1
  · exact (h.pth k p hp).keep hk (by simp) (by simp) (fun j _ => blkOf_set (r' := ⟨r.blk, r.acc, .slice (some ⟨g, 0, none⟩) (r.recs.length + 1) cap, r.recs ++ [(R, tag)]⟩) hi rfl j) (by simp) (Nat.le_succ _)
  · refine Below.setCell (((Below.refl base w).alloc hbase o).grown hgrow (by rw [size_alloc]; omega) (fun k hk => ?_)) hr.hb _
    exact (hr.row.lt k hk).1

/-! ### miss, first half: a new resource -/
theorem rep_miss1 {w w3 : World} {base B N : Nat} {rs : List RD} {ps : List PD} {mB : Nat} {rv : Value} {ρ : Nat → Nat × Nat} (h : Rep w base B N rs ps mB rv ρ) {R : Nat} {tag : Int} (hR : RecAt w ρ R tag) (acc : ByteArray) {o : Obj} {g cap : Nat}
    (hown : w3.ownsRow base 46 1 (.slice (some ⟨g, 0, none⟩) (rs.length + 1) cap) (rs.length + 1) ((rs.map fun r => ptr r.blk) ++ [ptr (w.heap.size + 1)]))
    (hgrow : (((w.alloc (.cells #[ptr R] 42)).alloc (.cells #[.int .i64 rs.length, .string acc, .slice (some ⟨w.heap.size, 0, none⟩) 1 1] 49)).alloc o).grownBy w3 rv.ownBlock) (hat : rv.ownBlock = some g ∨ g = w.heap.size + 3) (hbase : base ≤ w.heap.size) :
    (∃ ρ', Rep (w3.setCell ⟨B, 0, none⟩ (.slice (some ⟨g, 0, none⟩) (rs.length + 1) cap)) base B (N + 1) (rs ++ [⟨w.heap.size + 1, acc, .slice (some ⟨w.heap.size, 0, none⟩) 1 1, [(R, tag)]⟩]) ps mB (.slice (some ⟨g, 0, none⟩) (rs.length + 1) cap) ρ') ∧
      Below base w (w3.setCell ⟨B, 0, none⟩ (.slice (some ⟨g, 0, none⟩) (rs.length + 1) cap)) := by
  have hBlt := lt_of_block h.smp
  obtain ⟨es, clock, m1, m2⟩ := h.es
  have hs3 : w.heap.size + 3 ≤ w3.heap.size := by have := hgrow.size; rwa [size_alloc, size_alloc, size_alloc] at this
  have hss : (w3.setCell ⟨B, 0, none⟩ (.slice (some ⟨g, 0, none⟩) (rs.length + 1) cap)).heap.size = w3.heap.size := by simp [World.setCell]
  have hrv : ∀ k, rv.ownBlock = some k → k < w.heap.size := fun k hk => (h.rrow.lt k hk).2
  have b3 : ∀ k, k < w.heap.size → ρ k ≠ (2, 0) → w3.heap[k]? = w.heap[k]? := by
    intro k hk hne
    rw [hgrow.block k (by rw [size_alloc, size_alloc, size_alloc]; omega) (fun e => hne (h.rR k e.symm)), alloc_old _ _ _ (by rw [size_alloc, size_alloc]; omega), alloc_old _ _ _ (by rw [size_alloc]; omega), alloc_old _ _ _ hk]
  have n0 : w3.heap[w.heap.size]? = some (.cells #[ptr R] 42) := by
    rw [hgrow.block _ (by rw [size_alloc, size_alloc, size_alloc]; omega) (fun e => by have := hrv _ e.symm; omega), alloc_old _ _ _ (by rw [size_alloc, size_alloc]; omega), alloc_old _ _ _ (by rw [size_alloc]; omega)]
    exact alloc_new _ _
  have n1 : w3.heap[w.heap.size + 1]? = some (.cells #[.int .i64 rs.length, .string acc, .slice (some ⟨w.heap.size, 0, none⟩) 1 1] 49) := by
    rw [hgrow.block _ (by rw [size_alloc, size_alloc, size_alloc]; omega) (fun e => by have := hrv _ e.symm; omega), alloc_old _ _ _ (by rw [size_alloc, size_alloc]; omega)]
    have := alloc_new (w.alloc (.cells #[ptr R] 42)) (.cells #[.int .i64 rs.length, .string acc, .slice (some ⟨w.heap.size, 0, none⟩) 1 1] 49)
    rwa [size_alloc] at this
  have b4 : ∀ k, k ≠ B → (w3.setCell ⟨B, 0, none⟩ (.slice (some ⟨g, 0, none⟩) (rs.length + 1) cap)).heap[k]? = w3.heap[k]? := fun k hk => Below.heap_setCell _ _ _ _ hk
  have bB : w3.heap[B]? = some (.cells #[rv, .map (some mB)] 40) := by rw [b3 _ hBlt (by rw [h.rB]; simp)]; exact h.smp
  let ρ' : Nat → Nat × Nat := fun k => if k < w.heap.size then ρ k else if k = w.heap.size then (4, rs.length) else if k = w.heap.size + 1 then (3, rs.length) else (2, 0)
  have hρ : ∀ k, k < w.heap.size → ρ' k = ρ k := fun k hk => if_pos hk
  have hρ0 : ρ' w.heap.size = (4, rs.length) := by simp [ρ']
  have hρ1 : ρ' (w.heap.size + 1) = (3, rs.length) := by
    have a1 : ¬ w.heap.size + 1 < w.heap.size := by omega
    simp [ρ', a1]
  have hρ2 : ∀ k, w.heap.size + 1 < k → ρ' k = (2, 0) := fun k hk => by
    have a1 : ¬ k < w.heap.size := by omega
    have a2 : k ≠ w.heap.size := by omega
    have a3 : k ≠ w.heap.size + 1 := by omega
    simp [ρ', a1, a2, a3]
  have hk : Kept w (w3.setCell ⟨B, 0, none⟩ (.slice (some ⟨g, 0, none⟩) (rs.length + 1) cap)) ρ ρ' (2, 0) (0, 0) :=
    ⟨by rw [hss]; omega, fun k hk h1 h2 => (b4 k (fun e => h2 (by rw [e]; exact h.rB))).trans (b3 k hk h1), hρ⟩
  have hgne : g ≠ B := by
    rcases hat with e | e
    · intro e'
      have := h.rR g e
      rw [e', h.rB] at this
      simp at this
    · omega
  refine ⟨⟨ρ', h.hB, h.hM, ?_, ?_, ?_, ?_, fun k hg => ?_, fun j r' hj => ?_, ⟨es, clock, ?_, m2⟩, fun k p hp => ?_, h.apart, by simpa using h.nR, Nat.le_succ_of_le h.nP⟩, ?_⟩
  · rw [setCell_heap _ _ _ _ _ _ bB]; simp
  · rw [hρ _ hBlt]; exact h.rB
  · rw [hρ _ (lt_of_block m1)]; exact h.rM
  · have := row_keep (w' := w3.setCell ⟨B, 0, none⟩ (.slice (some ⟨g, 0, none⟩) (rs.length + 1) cap)) hown fun k hg => b4 k (by simp [Value.ownBlock] at hg; omega)
    simpa using this
  · simp [Value.ownBlock] at hg
    subst hg
    rcases hat with e | e
    · rw [hρ _ (hrv g e)]; exact h.rR g e
    · exact hρ2 g (by omega)
  · by_cases hjl : j < rs.length
    · rw [List.getElem?_append_left hjl] at hj
      exact (h.res j r' hj).keep hk (by simp) (by simp) (by simp) (by simp) (by simp) (by simp) (Nat.le_succ _)
    · rw [List.getElem?_append_right (by omega)] at hj
      have hj0 : j = rs.length := by
        have := (List.getElem?_eq_some_iff.1 hj).1
        simp at this
        omega
      subst hj0
      simp at hj
      subst hj
      refine ⟨show base ≤ w.heap.size + 1 by omega, ?_, hρ1, ?_, fun k hg => ?_, fun q hq => ?_, by simp⟩
      · show (w3.setCell ⟨B, 0, none⟩ (.slice (some ⟨g, 0, none⟩) (rs.length + 1) cap)).heap[w.heap.size + 1]? = _
        rw [b4 _ (by omega)]; exact n1
      · refine ⟨by simp, .inr ⟨w.heap.size, 1, #[ptr R], by simp, hbase, ?_, by simp, by simp [maxLen], by simp, by simp⟩⟩
        rw [b4 _ (by omega)]; exact n0
      · simp [Value.ownBlock] at hg
        subst hg
        exact hρ0
      · simp at hq
        subst hq
        refine ⟨by rw [hss]; have := hR.lt; omega, ?_, by rw [hρ _ hR.lt]; exact hR.role⟩
        rw [World.cell?_of_block (w := w) (hk.blk _ hR.lt (by rw [hR.role]; simp) (by rw [hR.role]; simp))]
        exact hR.cell
  · rw [hk.blk _ (lt_of_block m1) (by rw [h.rM]; simp) (by rw [h.rM]; simp)]; exact m1
  · exact (h.pth k p hp).keep hk (by simp) (by simp) (fun j hj => blkOf_append rs _ j hj) (by simp) (Nat.le_succ _)
  · refine Below.setCell (((((Below.refl base w).alloc hbase _).alloc (by rw [size_alloc]; omega) _).alloc (by rw [size_alloc, size_alloc]; omega) o).grown hgrow (by rw [size_alloc, size_alloc, size_alloc]; omega) (fun k hk => ?_)) h.hB _
    exact (h.rrow.lt k hk).1

/-! ### miss, second half: the path's list grows -/
theorem rep_miss2 {w w3 : World} {base B N : Nat} {rs : List RD} {ps ps' : List PD} {mB : Nat} {rv : Value} {ρ : Nat → Nat × Nat} (h : Rep w base B N rs ps mB rv ρ) {k i : Nat} (hi : i < rs.length) {v0 : Value} {idx0 : List Nat} {path : ByteArray}
    (hv0 : w.ownsRow base 46 1 v0 idx0.length (idx0.map fun i => ptr (blkOf rs i))) (hr0 : ∀ g, v0.ownBlock = some g → ρ g = (6, k)) (hlt0 : ∀ i ∈ idx0, i < rs.length) (hn0 : idx0.length + 1 ≤ N)
    {o : Obj} {g cap : Nat} (hown : w3.ownsRow base 46 1 (.slice (some ⟨g, 0, none⟩) (idx0.length + 1) cap) (idx0.length + 1) ((idx0.map fun i => ptr (blkOf rs i)) ++ [ptr (blkOf rs i)]))
    (hgrow : (w.alloc o).grownBy w3 v0.ownBlock) (hat : v0.ownBlock = some g ∨ g = w.heap.size + 1) (hbase : base ≤ w.heap.size)
    (hk0 : ps'[k]? = some ⟨path, .slice (some ⟨g, 0, none⟩) (idx0.length + 1) cap, idx0 ++ [i]⟩) (hk1 : ∀ j, j ≠ k → ps'[j]? = ps[j]?) {es' : Array MapEntry} {clock' : Nat} (hes : Ents es' clock' (ents ps')) (hap : Apart (ents ps')) (hnp : ps'.length ≤ N) :
    (∃ ρ', Rep (setBlock w3 mB (.map es' clock')) base B N rs ps' mB rv ρ') ∧ Below base w (setBlock w3 mB (.map es' clock')) := by
  obtain ⟨es, clock, m1, m2⟩ := h.es
  have hmlt := lt_of_block m1
  have hs3 : w.heap.size + 1 ≤ w3.heap.size := by have := hgrow.size; rwa [size_alloc] at this
  have hss : (setBlock w3 mB (.map es' clock')).heap.size = w3.heap.size := by simp [setBlock]
  have b3 : ∀ j, j < w.heap.size → ρ j ≠ (6, k) → w3.heap[j]? = w.heap[j]? := by
    intro j hj hne
    rw [hgrow.block j (by rw [size_alloc]; omega) (fun e => hne (hr0 j e.symm)), alloc_old _ _ _ hj]
  have b4 : ∀ j, j ≠ mB → (setBlock w3 mB (.map es' clock')).heap[j]? = w3.heap[j]? := fun j hj => by
    simp [setBlock, Ne.symm hj]
  let ρ' : Nat → Nat × Nat := fun j => if j < w.heap.size then ρ j else (6, k)
  have hρ : ∀ j, j < w.heap.size → ρ' j = ρ j := fun j hj => if_pos hj
  have hk : Kept w (setBlock w3 mB (.map es' clock')) ρ ρ' (6, k) (1, 0) :=
    ⟨by rw [hss]; omega, fun j hj h1 h2 => (b4 j (fun e => h2 (by rw [e]; exact h.rM))).trans (b3 j hj h1), hρ⟩
  have hgne : g ≠ mB := by
    rcases hat with e | e
    · intro e'
      have := hr0 g e
      rw [e', h.rM] at this
      simp at this
    · omega
  refine ⟨⟨ρ', h.hB, h.hM, ?_, ?_, ?_, ?_, fun j hg => ?_, fun j r' hj => ?_, ⟨es', clock', ?_, hes⟩, fun j p hp => ?_, hap, h.nR, hnp⟩, ?_⟩
  · rw [hk.blk _ (lt_of_block h.smp) (by rw [h.rB]; simp) (by rw [h.rB]; simp)]; exact h.smp
  · rw [hρ _ (lt_of_block h.smp)]; exact h.rB
  · rw [hρ _ hmlt]; exact h.rM
  · exact row_keep h.rrow fun j hg => hk.blk j (h.rrow.lt j hg).2 (by rw [h.rR j hg]; simp) (by rw [h.rR j hg]; simp)
  · rw [hρ _ (h.rrow.lt j hg).2]; exact h.rR j hg
  · exact (h.res j r' hj).keep hk (by simp) (by simp) (by simp) (by simp) (by simp) (by simp) (Nat.le_refl _)
  · have : mB < w3.heap.size := by omega
    simp [setBlock, this]
  · by_cases e : j = k
    · subst e
      rw [hk0] at hp
      cases hp
      refine ⟨?_, fun q hq => ?_, fun x hx => ?_, by simpa using hn0⟩
      · have := row_keep (w' := setBlock w3 mB (.map es' clock')) hown fun q hq => b4 q (by simp [Value.ownBlock] at hq; omega)
        simpa using this
      · simp [Value.ownBlock] at hq
        subst hq
        by_cases hl : g < w.heap.size
        · rw [hρ _ hl]
          rcases hat with e | e
          · exact hr0 g e
          · omega
        · exact if_neg hl
      · rcases List.mem_append.1 hx with hx | hx
        · exact hlt0 x hx
        · simp at hx; omega
    · rw [hk1 j e] at hp
      exact (h.pth j p hp).keep hk (by simpa using e) (by simp) (fun _ _ => rfl) (Nat.le_refl _) (Nat.le_refl _)
  · have b := ((Below.refl base w).alloc hbase o).grown hgrow (by rw [size_alloc]; omega) (fun q hq => (hv0.lt q hq).1)
    refine b.trans ⟨rfl, rfl, rfl, by rw [hss]; omega, fun q hq => b4 q (by have := h.hM; omega)⟩
end Go.Proofs.Qxb6601393a
