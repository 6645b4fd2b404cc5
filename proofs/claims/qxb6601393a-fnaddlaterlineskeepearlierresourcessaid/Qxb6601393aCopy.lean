/-
  addCopySteps (6).
-/
import Derived.Test.Qxb6601393aSteps
import Derived.Lib.SliceRun
import Derived.Laws.MakeOwn
namespace Go.Proofs.Qxb6601393a
open Go.RowKit Go.ChangeMaps Go.MapKept
set_option linter.unusedVariables false

def E0 : ByteArray := ⟨#[]⟩
theorem info25 : (Try.prog.info? 25).map (fun i => (i.zero, i.size, i.bytes)) = some (some (.agg #[.string E0, .string E0]), 2, 32) := by kernel_rfl
def gcl (f : Nat → ByteArray × ByteArray) (k : Nat) (j : Nat) : Value := if j < k * 2 then (if j % 2 = 0 then .string (f (j / 2)).1 else .string (f (j / 2)).2) else .string E0
theorem gcl_made (w : World) (f : Nat → ByteArray × ByteArray) (n : Nat) : (w.alloc (.cells (madeCells #[.string E0, .string E0] (n * 2)) 25)).rowIs w.heap.size 25 (n * 2) (gcl f 0) := by
  refine ⟨_, alloc_new _ _, size_madeCells _ _, fun i hi => ?_⟩
  have : i % 2 = 0 ∨ i % 2 = 1 := by omega
  rcases this with h | h <;> simp [madeCells, hi, gcl, h]
theorem gcl_step {w : World} {b n k : Nat} {f : Nat → ByteArray × ByteArray} (h : w.rowIs b 25 n (gcl f k)) : ((w.setCell ⟨b, k * 2, none⟩ (.string (f k).1)).setCell ⟨b, k * 2 + 1, none⟩ (.string (f k).2)).rowIs b 25 n (gcl f (k + 1)) := by
  refine ((h.set _ _).set _ _).congr fun j _ => ?_
  unfold gcl
  by_cases h1 : j = k * 2 + 1
  · have e1 : j % 2 = 1 := by omega
    have e2 : j / 2 = k := by omega
    have e3 : j < (k + 1) * 2 := by omega
    rw [if_pos h1, if_pos e3, e1, e2, if_neg (by decide)]
  · by_cases h2 : j = k * 2
    · have e1 : j % 2 = 0 := by omega
      have e2 : j / 2 = k := by omega
      have e3 : j < (k + 1) * 2 := by omega
      rw [if_neg h1, if_pos h2, if_pos e3, e1, e2, if_pos rfl]
    · rw [if_neg h1, if_neg h2]
      by_cases h3 : j < k * 2
      · have h4 : j < (k + 1) * 2 := by omega
        simp only [h3, h4, if_true]
      · have h4 : ¬ j < (k + 1) * 2 := by omega
        simp only [h3, h4, if_false]
theorem stp_of_row {w : World} {b len : Nat} {f : Nat → ByteArray × ByteArray} (h : w.rowIs b 25 (len * 2) (gcl f len)) (hz : ∀ i, i < len → (f i).1.size ≤ maxLen ∧ (f i).2.size ≤ maxLen) : Stp w (some ⟨b, 0, none⟩) len f := by
  refine ⟨hz, fun _ => ⟨b, 0, rfl, h.lt, fun i hi => ⟨?_, ?_⟩⟩⟩
  · rw [Nat.zero_add]
    refine (h.cell (by omega)).trans ?_
    have e1 : i * 2 % 2 = 0 := by omega
    have e2 : i * 2 / 2 = i := by omega
    rw [gcl, if_pos (by omega), if_pos e1, e2]
  · rw [Nat.zero_add]
    refine (h.cell (by omega)).trans ?_
    have e1 : ¬ (i * 2 + 1) % 2 = 0 := by omega
    have e2 : (i * 2 + 1) / 2 = i := by omega
    rw [gcl, if_pos (by omega), if_neg e1, e2]

theorem run_make25 (len : Nat) (hl : len ≤ 4096) (w : World) : (Instr.makeSlice 22 (.int .i64 len) (.int .i64 len)).run Try.prog w = .ok (.slice (some ⟨w.heap.size, 0, none⟩) len len) (w.alloc (.cells (madeCells #[.string E0, .string E0] (len * 2)) 25)) := by
  obtain ⟨i, hi, hz, hs, hb⟩ := info_parts info25
  have := run_make (P := Try.prog) w 22 25 i (.agg #[.string E0, .string E0]) Try.underlying22 hi hz .i64 .i64 len len (by omega) (by omega) (by rw [hb]; omega) (by omega)
  rw [hs] at this
  simpa [Value.cells] using this

/-- The lines, copied. -/
def CopyEnds (w : World) (len : Nat) (f : Nat → ByteArray × ByteArray) (e : Ending) (w' : World) : Prop := ∃ a c, e = .returned (.slice a len c) ∧ Stp w' a len f ∧ Below w.heap.size w w'

set_option maxRecDepth 100000 in
set_option maxHeartbeats 2000000 in
theorem copy_any (w : World) (a : Option Addr) (len cap : Nat) (f : Nat → ByteArray × ByteArray) (h : Stp w a len f) (hlen : len ≤ 4096) (hn0 : a = none → len = 0) :
    Calls Try.prog 6 #[.slice a len cap] w fun e w' => CopyEnds w len f e w' := by
  have hn := fun (w : World) (a : Option Addr) (n c n' c' : Nat) => Lib.run_eql_slice_nil (P := Try.prog) w 22 25 a n c n' c' Try.underlying22
  have H := hid h
  cases a with
  | none =>
    obtain rfl := hn0 rfl
    clear h hn0
    go_enter Try.func6, Try.ntmps6
    go_wp2
    go_ret
    exact ⟨none, 0, rfl, ⟨H.out.sz, fun h => by omega⟩, Below.refl _ _⟩
  | some x =>
    have hmk := run_make25 len hlen
    clear h hn0
    go_enter Try.func6, Try.ntmps6
    go_wp2
    clear hmk hn
    go_loopw [4] (fun i wr => ∃ k : Nat, k ≤ len ∧ i = .int .i64 k ∧ wr.rowIs w.heap.size 25 (len * 2) (gcl f k) ∧ Below w.heap.size w wr) (fun i _ => len - (intOf i).toNat)
    case atStart => exact ⟨0, Nat.zero_le _, rfl, gcl_made w f len, (Below.refl _ _).alloc (Nat.le_refl _) _⟩
    case round =>
      obtain ⟨k, hk, rfl, hrow, hbel⟩ := hrel
      have HR := hid hrow
      have HB := hid hbel
      by_cases hlt : k < len
      · obtain ⟨b, off, hx, hb, hc⟩ := H.out.cells (by omega)
        simp only [Option.some.injEq] at hx
        subst hx
        have c1 := (hbel.cell (p := ⟨b, off + k * 2, none⟩) hb).trans (hc k hlt).1
        have c2 := (hbel.cell (p := ⟨b, off + k * 2 + 1, none⟩) hb).trans (hc k hlt).2
        have d1 := hrow.cell (i := k * 2) (by omega)
        have d2 := hrow.cell (i := k * 2 + 1) (by omega)
        have f1 := hrow.frozen (k * 2)
        have f2 := hrow.frozen (k * 2 + 1)
        have HG := hid (gcl_step HR.out)
        generalize hq : f k = q at c1 c2 HG
        obtain ⟨p, t⟩ := q
        simp only at c1 c2 HG
        have d3 := fun v => (hrow.set (k * 2) v).cell (i := k * 2 + 1) (by omega)
        have f3 := fun v => (hrow.set (k * 2) v).frozen (k * 2 + 1)
        clear hc hrow hbel hq
        go_wp2
        go_roundw
        case rel => exact ⟨k + 1, by omega, by go_num, HG.out, (HB.out.setCell (Nat.le_refl _) _).setCell (Nat.le_refl _) _⟩
        case measure => simp [intOf]; omega
      · have e : k = len := by omega
        subst e
        clear hrow hbel
        go_wp2
        go_ret
        exact ⟨_, _, rfl, stp_of_row HR.out H.out.sz, HB.out⟩
end Go.Proofs.Qxb6601393a
