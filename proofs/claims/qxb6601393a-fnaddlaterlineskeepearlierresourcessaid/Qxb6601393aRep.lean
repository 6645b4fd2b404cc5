/-
  How a Sample lies in memory: 'Rep'. Every block bears a role, so that a store into a block of one role keeps all that is told of the others.
-/
import Derived.Test.Qxb6601393aMap
import Derived.Deep.AppendLies
import Derived.Below
import Derived.WalkSmall
namespace Go.Proofs.Qxb6601393a
open Go.RowKit Go.ChangeMaps Go.MapKept
set_option linter.unusedVariables false

def ptr (g : Nat) : Value := .pointer (some ⟨g, 0, none⟩)
/-- A resource: its block, its Accept value, its states' slice, its recordings (block, tag). -/
structure RD where
  blk : Nat
  acc : ByteArray
  sv : Value
  recs : List (Nat × Int)
/-- An entry of byPath: the path, the slice, the resources' places. -/
structure PD where
  path : ByteArray
  pv : Value
  idx : List Nat
def blkOf (rs : List RD) (i : Nat) : Nat := (rs[i]?.map RD.blk).getD 0

structure ResOk (w : World) (base : Nat) (ρ : Nat → Nat × Nat) (N i : Nat) (r : RD) : Prop where
  hb : base ≤ r.blk
  blk : w.heap[r.blk]? = some (.cells #[.int .i64 i, .string r.acc, r.sv] 49)
  role : ρ r.blk = (3, i)
  row : w.ownsRow base 42 1 r.sv r.recs.length (r.recs.map fun q => ptr q.1)
  rS : ∀ g, r.sv.ownBlock = some g → ρ g = (4, i)
  recs : ∀ q ∈ r.recs, q.1 < w.heap.size ∧ w.cell? ⟨q.1, 0, none⟩ = some (.int .i64 q.2) ∧ ρ q.1 = (5, 0)
  n : r.recs.length ≤ N

structure PthOk (w : World) (base : Nat) (ρ : Nat → Nat × Nat) (N : Nat) (rs : List RD) (k : Nat) (p : PD) : Prop where
  row : w.ownsRow base 46 1 p.pv p.idx.length (p.idx.map fun i => ptr (blkOf rs i))
  rP : ∀ g, p.pv.ownBlock = some g → ρ g = (6, k)
  lt : ∀ i ∈ p.idx, i < rs.length
  n : p.idx.length ≤ N

def ents (ps : List PD) : List (ByteArray × Value) := ps.map fun p => (p.path, p.pv)

structure Rep (w : World) (base B N : Nat) (rs : List RD) (ps : List PD) (mB : Nat) (rv : Value) (ρ : Nat → Nat × Nat) : Prop where
  hB : base ≤ B
  hM : base ≤ mB
  smp : w.heap[B]? = some (.cells #[rv, .map (some mB)] 40)
  rB : ρ B = (0, 0)
  rM : ρ mB = (1, 0)
  rrow : w.ownsRow base 46 1 rv rs.length (rs.map fun r => ptr r.blk)
  rR : ∀ g, rv.ownBlock = some g → ρ g = (2, 0)
  res : ∀ i r, rs[i]? = some r → ResOk w base ρ N i r
  es : ∃ es clock, w.heap[mB]? = some (.map es clock) ∧ Ents es clock (ents ps)
  pth : ∀ k p, ps[k]? = some p → PthOk w base ρ N rs k p
  apart : Apart (ents ps)
  nR : rs.length ≤ N
  nP : ps.length ≤ N

/-! ### frames -/
theorem lt_of_block {w : World} {g : Nat} {o : Obj} (h : w.heap[g]? = some o) : g < w.heap.size := (Array.getElem?_eq_some_iff.1 h).1

theorem row_keep {w w' : World} {base : Nat} {e : TypeId} {size : Nat} {v : Value} {n : Nat} {xs : List Value} (h : w.ownsRow base e size v n xs) (hk : ∀ g, v.ownBlock = some g → w'.heap[g]? = w.heap[g]?) : w'.ownsRow base e size v n xs := by
  refine ⟨h.1, ?_⟩
  rcases h.2 with hn | ⟨g, cap, cur, rfl, hb, hgg, rest⟩
  · exact .inl hn
  · refine .inr ⟨g, cap, cur, rfl, hb, ?_, rest⟩
    rw [hk g rfl]
    exact hgg

/-- All blocks but those of two roles are as they were. -/
structure Kept (w w' : World) (ρ ρ' : Nat → Nat × Nat) (c1 c2 : Nat × Nat) : Prop where
  size : w.heap.size ≤ w'.heap.size
  blk : ∀ g, g < w.heap.size → ρ g ≠ c1 → ρ g ≠ c2 → w'.heap[g]? = w.heap[g]?
  role : ∀ g, g < w.heap.size → ρ' g = ρ g

section
variable {w w' : World} {base N N' : Nat} {ρ ρ' : Nat → Nat × Nat} {c1 c2 : Nat × Nat}

theorem ResOk.keep {i : Nat} {r : RD} (h : ResOk w base ρ N i r) (hk : Kept w w' ρ ρ' c1 c2) (a1 : (3, i) ≠ c1) (a2 : (3, i) ≠ c2) (a3 : (4, i) ≠ c1) (a4 : (4, i) ≠ c2) (a5 : (5, 0) ≠ c1) (a6 : (5, 0) ≠ c2) (hN : N ≤ N') : ResOk w' base ρ' N' i r := by
  have hlt := lt_of_block h.blk
  refine ⟨h.hb, ?_, ?_, row_keep h.row fun g hg => ?_, fun g hg => ?_, fun q hq => ?_, Nat.le_trans h.n hN⟩
  · rw [hk.blk _ hlt (by rw [h.role]; exact a1) (by rw [h.role]; exact a2)]; exact h.blk
  · rw [hk.role _ hlt]; exact h.role
  · exact hk.blk g (h.row.lt g hg).2 (by rw [h.rS g hg]; exact a3) (by rw [h.rS g hg]; exact a4)
  · rw [hk.role _ (h.row.lt g hg).2]; exact h.rS g hg
  · obtain ⟨q1, q2, q3⟩ := h.recs q hq
    refine ⟨Nat.lt_of_lt_of_le q1 hk.size, ?_, by rw [hk.role _ q1]; exact q3⟩
    rw [World.cell?_of_block (w := w) (hk.blk _ q1 (by rw [q3]; exact a5) (by rw [q3]; exact a6))]
    exact q2

theorem PthOk.keep {rs rs' : List RD} {k : Nat} {p : PD} (h : PthOk w base ρ N rs k p) (hk : Kept w w' ρ ρ' c1 c2) (a1 : (6, k) ≠ c1) (a2 : (6, k) ≠ c2) (hrs : ∀ i, i < rs.length → blkOf rs' i = blkOf rs i) (hl : rs.length ≤ rs'.length) (hN : N ≤ N') : PthOk w' base ρ' N' rs' k p := by
  refine ⟨?_, fun g hg => ?_, fun i hi => Nat.lt_of_lt_of_le (h.lt i hi) hl, Nat.le_trans h.n hN⟩
  · have e : (p.idx.map fun i => ptr (blkOf rs' i)) = p.idx.map fun i => ptr (blkOf rs i) := List.map_congr_left fun i hi => by rw [hrs i (h.lt i hi)]
    rw [e]
    exact row_keep h.row fun g hg => hk.blk g (h.row.lt g hg).2 (by rw [h.rP g hg]; exact a1) (by rw [h.rP g hg]; exact a2)
  · rw [hk.role _ (h.row.lt g hg).2]; exact h.rP g hg
end

/-- A new block, whatever its role. -/
theorem Rep.keep {w w' : World} {base B N : Nat} {rs : List RD} {ps : List PD} {mB : Nat} {rv : Value} {ρ ρ' : Nat → Nat × Nat} (h : Rep w base B N rs ps mB rv ρ) (hs : w.heap.size ≤ w'.heap.size) (hb : ∀ g, g < w.heap.size → w'.heap[g]? = w.heap[g]?) (hr : ∀ g, g < w.heap.size → ρ' g = ρ g) : Rep w' base B N rs ps mB rv ρ' := by
  have hk : Kept w w' ρ ρ' (9, 0) (9, 0) := ⟨hs, fun g hg _ _ => hb g hg, hr⟩
  obtain ⟨es, clock, h1, h2⟩ := h.es
  refine ⟨h.hB, h.hM, ?_, ?_, ?_, row_keep h.rrow fun g hg => hb g (h.rrow.lt g hg).2, fun g hg => ?_, fun i r hi => (h.res i r hi).keep hk (by simp) (by simp) (by simp) (by simp) (by simp) (by simp) (Nat.le_refl _), ⟨es, clock, ?_, h2⟩, fun k p hp => (h.pth k p hp).keep hk (by simp) (by simp) (fun _ _ => rfl) (Nat.le_refl _) (Nat.le_refl _), h.apart, h.nR, h.nP⟩
  · rw [hb _ (lt_of_block h.smp)]; exact h.smp
  · rw [hr _ (lt_of_block h.smp)]; exact h.rB
  · rw [hr _ (lt_of_block h1)]; exact h.rM
  · rw [hr _ (h.rrow.lt g hg).2]; exact h.rR g hg
  · rw [hb _ (lt_of_block h1)]; exact h1

theorem setCell_heap (w : World) (b o : Nat) (v : Value) (c : Array Value) (t : TypeId) (h : w.heap[b]? = some (.cells c t)) : (w.setCell ⟨b, o, none⟩ v).heap[b]? = some (.cells (c.setIfInBounds o v) t) := by
  simp [World.setCell, Array.getElem?_modify, h]
end Go.Proofs.Qxb6601393a
