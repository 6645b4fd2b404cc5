/-
  Small facts for the law's walk.
-/
import Derived.Test.Qxb6601393aSeen
import Derived.Test.Qxb6601393aCopy
namespace Go.Proofs.Qxb6601393a
open Go.RowKit Go.ChangeMaps Go.MapKept
set_option linter.unusedVariables false

theorem nextB {B : Nat} {w w1 w2 : World} (h : Below B w w1) (hB : B ≤ w1.heap.size) (k : Below w1.heap.size w1 w2) : Below B w w2 := h.trans (k.mono hB)
def Ends (w : World) (e : Ending) (w' : World) : Prop := e = .returned (.bool true) ∧ Below w.heap.size w w'

theorem Smp.len {w : World} {base B N : Nat} {st : St} (h : Smp w base B N st) : st.1.length ≤ N ∧ st.2.length ≤ N := by
  obtain ⟨rs, ps, mB, rv, ρ, hrep, e1, e2⟩ := h
  rw [← e1, ← e2]
  have h1 := hrep.nR
  have h2 := hrep.nP
  exact ⟨by simpa [absR] using h1, by simpa [absP] using h2⟩
theorem Smp.bnd {w : World} {base B N : Nat} {st : St} (h : Smp w base B N st) {i : Nat} {x : ByteArray × List Int} (hx : st.1[i]? = some x) : x.2.length ≤ N := by
  obtain ⟨rs, ps, mB, rv, ρ, hrep, e1, e2⟩ := h
  rw [← e1, absR_get] at hx
  obtain ⟨r, hr, rfl⟩ := Option.map_eq_some_iff.1 hx
  simpa using (hrep.res i r hr).n
theorem Smp.idxn {w : World} {base B N : Nat} {st : St} (h : Smp w base B N st) (p : ByteArray) : (idxOf st.2 p).length ≤ N := by
  obtain ⟨rs, ps, mB, rv, ρ, hrep, e1, e2⟩ := h
  rw [← e2]
  unfold idxOf
  cases hf : (absP ps).find? (fun x => decide (x.1 = p)) with
  | none => simp
  | some y =>
    have hy := List.mem_of_find?_eq_some hf
    unfold absP at hy
    obtain ⟨q, hq, rfl⟩ := List.mem_map.1 hy
    obtain ⟨k, hk, hk'⟩ := List.mem_iff_getElem.1 hq
    have := (hrep.pth k q (by rw [List.getElem?_eq_getElem hk, hk'])).n
    simpa using this
theorem pre_getD {l m : List Int} (h : l <+: m) {j : Nat} (hj : j < l.length) : m.getD j 0 = l.getD j 0 := by
  obtain ⟨t, rfl⟩ := h
  simp [List.getD, List.getElem?_append_left hj]
theorem pre_ints {l m : List Nat} (h : l <+: m) : intsOf l <+: intsOf m := by
  obtain ⟨t, rfl⟩ := h
  exact ⟨intsOf t, by simp [intsOf]⟩
theorem ext_at (f : Nat → ByteArray × ByteArray) {ct len : Nat} (h : ct ≤ len) : Ext (runA f ct) (runA f len) ∧ (runA f len).1.length ≤ (runA f ct).1.length + (len - ct) := by
  have := runA_ext f ct (len - ct)
  have e : ct + (len - ct) = len := by omega
  rwa [e] at this
/-- A line's cells, in any later world. -/
theorem Stp.at {w w' : World} {a : Option Addr} {len : Nat} {f : Nat → ByteArray × ByteArray} (h : Stp w a len f) (hb : Below w.heap.size w w') {k : Nat} (hk : k < len) :
    ∃ b off, a = some ⟨b, off, none⟩ ∧ b < w.heap.size ∧ w'.cell? ⟨b, off + k * 2, none⟩ = some (.string (f k).1) ∧ w'.cell? ⟨b, off + k * 2 + 1, none⟩ = some (.string (f k).2) := by
  obtain ⟨b, off, ha, hlt, hc⟩ := h.cells (by omega)
  exact ⟨b, off, ha, hlt, (hb.cell (p := ⟨b, off + k * 2, none⟩) hlt).trans (hc k hk).1, (hb.cell (p := ⟨b, off + k * 2 + 1, none⟩) hlt).trans (hc k hk).2⟩
theorem Sl.at {w w' : World} {a : Option Addr} {len : Nat} {zs : List Int} (h : Sl w a len zs) (hb : Below w.heap.size w w') {k : Nat} (hk : k < len) :
    ∃ b off, a = some ⟨b, off, none⟩ ∧ w'.cell? ⟨b, off + k, none⟩ = some (.int .i64 (zs.getD k 0)) := by
  obtain ⟨b, off, ha, hlt, hc⟩ := (h.below hb).cells (by omega)
  exact ⟨b, off, ha, hc k hk⟩
end Go.Proofs.Qxb6601393a
