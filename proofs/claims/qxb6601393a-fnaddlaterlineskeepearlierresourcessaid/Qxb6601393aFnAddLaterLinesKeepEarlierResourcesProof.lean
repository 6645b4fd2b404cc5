/-
  Rows.FnAddLaterLinesKeepEarlierResourcesSaid, proved: the walk in Qxb6601393aLaw, lifted.
-/
import Derived.Test.Qxb6601393aLaw
import Derived.WalkKit
import Derived.ProofKit
import Derived.OpenShut
import Derived.ShutString
import Derived.ChangeOld
import Derived.Below
import Derived.Deep.SlicePairs
namespace Go.Proofs.Qxb6601393a.fnAddLaterLinesKeepEarlierResources
open Go.ChangeShapes Go.WideShapes Go.ChangeAt Go.RowKit
open Go.ChangeMaps (open_string shut_string)
set_option linter.unusedVariables false

theorem own : ownKnob Try.prog.godebug = none := by kernel_rfl
theorem laidOut : laidOutB Try.prog = true := by kernel_rfl
theorem cells25 : Try.prog.cellsOf 25 = 2 := by kernel_rfl
theorem cells9 : Try.prog.cellsOf 9 = 1 := by kernel_rfl

theorem lt_of_cell {w : World} {a : Addr} {v : Value} (h : w.cell? a = some v) : a.block < w.heap.size := by
  apply Classical.byContradiction
  intro hn
  have : w.heap[a.block]? = none := by simp; omega
  simp [World.cell?, this] at h

/-- The slice of lines that came in, as the walk wants it. -/
theorem stp_in {H : Type} {enc : TypeId × Value → H} {W : World} {fuel : Nat} {a : Option Addr} {len cap : Nat} {x : DataW H × List MemPlace}
    (h : DataW.trod enc Try.prog W 0 (fun _ => true) true fuel 22 [.slice a len cap] = some x) : ∃ f, Stp W a len f ∧ len ≤ maxLen ∧ (a = none → len = 0) := by
  rcases Go.Deep.open_slice_pairs Try.underlying22 Try.underlying25 cells25 rfl rfl cells9 cells9 h with ⟨hcs, _⟩ | ⟨y, l, c, m, n, V0, V1, D0, D1, P0, P1, hcs, _, hl, hm, hmm, _, hall⟩
  · simp at hcs
    obtain ⟨rfl, rfl, rfl⟩ := hcs
    exact ⟨fun _ => (⟨#[]⟩, ⟨#[]⟩), ⟨fun i hi => by omega, fun h0 => by omega⟩, Nat.zero_le _, fun _ => rfl⟩
  · simp at hcs
    obtain ⟨rfl, rfl, rfl⟩ := hcs
    have hlm : len ≤ m := by rw [hmm]; simpa using hl
    have each : ∀ i, i < len → ∃ q : ByteArray × ByteArray, V0 i = .string q.1 ∧ V1 i = .string q.2 ∧ q.1.size ≤ maxLen ∧ q.2.size ≤ maxLen := by
      intro i hi
      obtain ⟨_, _, t0, t1⟩ := hall i (by omega)
      obtain ⟨s0, e0, _, z0⟩ := DataW.trod_string Try.underlying9 t0
      obtain ⟨s1, e1, _, z1⟩ := DataW.trod_string Try.underlying9 t1
      simp at e0 e1
      exact ⟨(s0, s1), e0, e1, z0, z1⟩
    let f : Nat → ByteArray × ByteArray := fun i => if h : i < len then Classical.choose (each i h) else (⟨#[]⟩, ⟨#[]⟩)
    have hf : ∀ i, i < len → V0 i = .string (f i).1 ∧ V1 i = .string (f i).2 ∧ (f i).1.size ≤ maxLen ∧ (f i).2.size ≤ maxLen := by
      intro i hi
      have e : f i = Classical.choose (each i hi) := by simp [f, hi]
      rw [e]
      exact Classical.choose_spec (each i hi)
    refine ⟨f, ⟨fun i hi => ⟨(hf i hi).2.2.1, (hf i hi).2.2.2⟩, fun h0 => ?_⟩, by omega, fun e => by cases e⟩
    obtain ⟨b, off, spot⟩ := y
    have hc0 := (hall 0 (by omega)).1
    have hspot : spot = none := by simpa [Addr.add] using World.cell?_spot hc0
    subst hspot
    refine ⟨b, off, rfl, ?_, fun i hi => ?_⟩
    · have := lt_of_cell hc0
      simpa [Addr.add] using this
    · obtain ⟨k0, k1, _, _⟩ := hall i (by omega)
      rw [Go.WideShapes.add_plain, (hf i hi).1] at k0
      rw [Go.WideShapes.add_plain, (hf i hi).2.1] at k1
      exact ⟨k0, by rw [Nat.add_assoc]; exact k1⟩

set_option maxRecDepth 100000 in
theorem lifted (os : Os) (started : os.Started) (H : Type) (enc : TypeId × Value → H) :
    ReturnsInHanded {} Try.checked os 4 .any (Rows.fnAddLaterLinesKeepEarlierResourcesSpec.pre6 enc Try.prog Try.f4 Rows.fnAddLaterLinesKeepEarlierResourcesRow.domain false) (Rows.fnAddLaterLinesKeepEarlierResourcesSpec.post enc Try.prog Try.f4 false true false false) := by
  refine returnsInHanded_of_change (C := Try.checked) own started (by kernel_rfl) Try.func4
    (ChangeSpec.witness6 (enc := enc) (C := Try.checked) false ⟨#[], #[.slice none 0 0, .int .i64 0], []⟩ 8 (by kernel_rfl) (by kernel_rfl) (by kernel_rfl) (by kernel_rfl)) ?_
  intro W base args ds gs before hval0 hW hcnd _
  have hval : ∀ (j : Nat) t v, Try.f4.params[j]? = some t → args[j]? = some v → Value.okWide Try.prog W .any base t v := hval0
  have hW' := hW
  obtain ⟨p, q, hA0, hV, rfl, hfz, hnd⟩ := hW
  have hA : DataW.TrodAll enc Try.prog W 0 (fun _ => true) true Try.f4.params.toList args.toList ds p := hA0
  rw [Try.params4] at hA hval
  obtain ⟨v0, vs0, d0, ds0, p0, q0, hargs, rfl, rfl, h0, r0⟩ := trodAll_cons hA
  obtain ⟨v1, vs1, d1, ds1, p1, q1, rfl, rfl, rfl, h1, r1⟩ := trodAll_cons r0
  obtain ⟨rfl, rfl, rfl⟩ := trodAll_nil r1
  obtain rfl : args = #[v0, v1] := by cases args; simp_all
  obtain ⟨rfl, rfl⟩ := trodVars_none hV
  obtain ⟨a0, len0, cap0, rfl⟩ := okWide_slice Try.underlying22 (hval 0 22 v0 rfl rfl)
  have k0 := h0
  have lt0 : ∀ x ∈ p0, x.block < W.heap.size := by obtain ⟨m, hm⟩ := k0; exact DataW.trod_lt m _ _ _ hm
  obtain ⟨f, hs, hl, hn⟩ : ∃ f, Stp W a0 len0 f ∧ len0 ≤ maxLen ∧ (a0 = none → len0 = 0) := by
    obtain ⟨fuel, hf⟩ := h0
    exact stp_in hf
  obtain ⟨a1, rfl, rfl, rfl, w1⟩ := open_int Try.underlying3 (hval 1 3 v1 rfl rfl) h1
  clear hA0 hval0
  refine (law_any W a0 len0 cap0 f a1 hs hl hn).mono fun e W' ⟨he, bel⟩ => ?_
  subst he
  exact ⟨_, rfl, _, _, _, [], _, [], hW', trodAll_mk1 (shut_bool Try.underlying4 _), (trodAll_cons_mk (Below.trod laidOut (by kernel_rfl) (of_decide_eq_true (by kernel_rfl)) k0 bel lt0) (trodAll_cons_mk (shut_int Try.underlying3 w1) trodAll_mk0)), rfl, bel.frame _, fun h => by cases h⟩

theorem over : Rows.fnAddLaterLinesKeepEarlierResourcesRow.holds Try.pinned (OpenSpec.ofChange Rows.fnAddLaterLinesKeepEarlierResourcesSpec) :=
  OpenClaim.holds_of_wide 4 Try.f4 rfl rfl rfl rfl rfl rfl rfl ⟨rfl, rfl, rfl, rfl, rfl⟩ rfl rfl rfl rfl rfl (by kernel_rfl) Try.func4 (by kernel_rfl)
    (of_decide_eq_true (by kernel_rfl)) (by unfold Func.isWrapper; first | (rw [if_pos (by decide +kernel)]; kernel_rfl) | (rw [if_neg (by decide +kernel)]; exact ⟨rfl, rfl⟩))
    (fun os started H enc _ => lifted os started H enc)

/-- ████ THE STATEMENT ████ -/
theorem proved : Rows.FnAddLaterLinesKeepEarlierResourcesSaid := over
#print axioms proved
end Go.Proofs.Qxb6601393a.fnAddLaterLinesKeepEarlierResources
