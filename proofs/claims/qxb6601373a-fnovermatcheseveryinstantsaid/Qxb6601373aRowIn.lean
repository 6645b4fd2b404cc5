/-
  From the shell's word for a slice that came in ('IsRow') to 'Sl'.
-/
import Derived.Test.Qxb6601373aBase
namespace Go.Proofs.Qxb6601373a
open Go.RowKit

/-- WHAT THE WALK IS TOLD OF A SLICE OF INTEGERS THAT CAME IN: it is nil; or it leads to a row of 'cap' cells, the numbers 'zs' (the first 'len' are its elements, the rest its spare room), each fitting its kind. -/
def IsRow (k : IntKind) (w : World) (a : Option Addr) (len cap : Nat) (zs : List Int) : Prop :=
  (a = none ∧ len = 0 ∧ cap = 0 ∧ zs = []) ∨
  ∃ x, a = some x ∧ len ≤ cap ∧ cap ≤ maxLen ∧ zs.length = cap ∧ (∀ i, i < zs.length → w.cell? (x.add i) = some (.int k (zs.getD i 0))) ∧ ∀ n ∈ zs, (Lit.int k n).wf = true

theorem lt_of_cell {w : World} {a : Addr} {v : Value} (h : w.cell? a = some v) : a.block < w.heap.size := by
  apply Classical.byContradiction
  intro hn
  have : w.heap[a.block]? = none := by simp; omega
  simp [World.cell?, this] at h

theorem IsRow.sl {w : World} {a : Option Addr} {len cap : Nat} {zs : List Int} (h : IsRow .i64 w a len cap zs) : Sl w a len (zs.take len) ∧ len ≤ maxLen ∧ (a = none → len = 0 ∧ cap = 0) := by
  rcases h with ⟨rfl, rfl, rfl, rfl⟩ | ⟨x, rfl, h1, h2, h3, h4, h5⟩
  · exact ⟨⟨rfl, fun h => by omega, fun i => by simp [I64]⟩, Nat.zero_le _, fun _ => ⟨rfl, rfl⟩⟩
  · refine ⟨⟨by simp; omega, fun h0 => ?_, fun i => ?_⟩, by omega, fun h => by cases h⟩
    · obtain ⟨b, off, rfl, hc⟩ := ints_at h4 (by omega)
      refine ⟨b, off, rfl, lt_of_cell (hc 0 (by omega)), fun i hi => ?_⟩
      rw [hc i (by omega)]
      simp [List.getD, hi]
    · have := range_i64 h5 i
      unfold I64
      by_cases hi : i < len
      · simpa [List.getD, List.getElem?_take, hi] using this
      · simp [List.getD, List.getElem?_take, hi]
end Go.Proofs.Qxb6601373a
