/-
  cloneI64 (16): a fresh copy.
-/
import Derived.Test.Qxb6601373aBase
import Derived.Deep.OwnRows
namespace Go.Proofs.Qxb6601373a
open Go.RowKit
set_option linter.unusedVariables false

def fcl (zs : List Int) (k : Nat) (j : Nat) : Value := if j < k then .int .i64 (zs.getD j 0) else .int .i64 0
theorem fcl_zero (zs : List Int) : (fun _ => Value.int .i64 0) = fcl zs 0 := by funext j; simp [fcl]
theorem fcl_step (zs : List Int) (k : Nat) : ∀ j, (if j = k then Value.int .i64 (zs.getD k 0) else fcl zs k j) = fcl zs (k + 1) j := by
  intro j
  unfold fcl
  by_cases h : j = k
  · subst h; simp
  · by_cases h' : j < k
    · have : j < k + 1 := by omega
      simp [h, h', this]
    · have : ¬ j < k + 1 := by omega
      simp [h, h', this]
theorem row_step {w : World} {b len k : Nat} {zs : List Int} {v : Int} (h : w.rowIs b 2 len (fcl zs k)) (hv : v = zs.getD k 0) : (w.setCell ⟨b, k, none⟩ (.int .i64 v)).rowIs b 2 len (fcl zs (k + 1)) := by
  subst hv
  exact (h.set k _).congr fun j _ => fcl_step zs k j
theorem sl_of_row {w : World} {b len : Nat} {zs : List Int} (h : w.rowIs b 2 len (fcl zs len)) (hl : zs.length = len) (hf : ∀ i, I64 (zs.getD i 0)) : Sl w (some ⟨b, 0, none⟩) len zs := by
  refine ⟨hl, fun _ => ⟨b, 0, rfl, h.lt, fun i hi => ?_⟩, hf⟩
  rw [Nat.zero_add]
  refine (h.cell hi).trans ?_
  simp [fcl, hi]

theorem info2 : (Try.prog.info? 2).map (fun i => (i.zero, i.size, i.bytes)) = some (some (.int .i64 0), 1, 8) := by kernel_rfl

/-- A slice value is returned whose elements, in the world behind, are zs; nothing old has turned. -/
def SliceOf (zs : List Int) (len : Nat) (w : World) (e : Ending) (w' : World) : Prop := ∃ a cap, e = .returned (.slice a len cap) ∧ Sl w' a len zs ∧ Below w.heap.size w w'

set_option maxHeartbeats 400000 in
theorem clone_nil (w : World) : Calls Try.prog 16 #[.slice none 0 0] w fun e w' => SliceOf [] 0 w e w' := by
  have hn := fun (w : World) (a : Option Addr) (n c n' c' : Nat) => Lib.run_eql_slice_nil (P := Try.prog) w 32 2 a n c n' c' Try.underlying32
  go_enter Try.func16, Try.ntmps16
  go_wp2
  go_ret
  exact ⟨none, 0, rfl, ⟨rfl, fun h => by omega, fun i => by simp [I64]⟩, Below.refl _ _⟩

set_option maxHeartbeats 1000000 in
theorem clone_some (x : Addr) (len cap : Nat) (zs : List Int) (w : World) (hl : len ≤ 131072) (hs : Sl w (some x) len zs) :
    Calls Try.prog 16 #[.slice (some x) len cap] w fun e w' => SliceOf zs len w e w' := by
  have hn := fun (w : World) (a : Option Addr) (n c n' c' : Nat) => Lib.run_eql_slice_nil (P := Try.prog) w 32 2 a n c n' c' Try.underlying32
  have hmk := fun (w : World) => run_make_row' (P := Try.prog) 32 2 (.int .i64 0) 8 Try.underlying32 info2 rfl .i64 .i64 len (by omega) (by omega) w
  go_enter Try.func16, Try.ntmps16
  go_wp2
  clear hmk hn
  go_loopw [4] (fun i wr => ∃ k : Nat, k ≤ len ∧ i = .int .i64 k ∧ wr.rowIs w.heap.size 2 len (fcl zs k) ∧ Below w.heap.size w wr) (fun i _ => len - (intOf i).toNat)
  case atStart => exact ⟨0, Nat.zero_le _, rfl, by rw [← fcl_zero]; exact World.rowIs_made w _ len 2, (Below.refl _ _).alloc (Nat.le_refl _) _⟩
  case round =>
    obtain ⟨k, hk, rfl, hrow, hbel⟩ := hrel
    have HR := hid hrow
    have HB := hid hbel
    by_cases hlt : k < len
    · obtain ⟨b, off, hx, hb, hc⟩ := hs.cells (by omega)
      simp only [Option.some.injEq] at hx
      subst hx
      have c1 := (hbel.cell (p := ⟨b, off + k, none⟩) hb).trans (hc k hlt)
      have c2 := hrow.cell hlt
      have f2 := hrow.frozen k
      have HS := hid hs
      clear hs hc hrow hbel
      go_wp2
      go_roundw
      case rel => exact ⟨k + 1, by omega, by go_num, row_step HR.out (by simp), HB.out.setCell (Nat.le_refl _) _⟩
      case measure => simp [intOf]; omega
    · have : k = len := by omega
      subst this
      clear hrow hbel
      have HS := hid hs
      clear hs
      go_wp2
      go_ret
      exact ⟨_, _, rfl, sl_of_row HR.out HS.out.length HS.out.fits, HB.out⟩
end Go.Proofs.Qxb6601373a
