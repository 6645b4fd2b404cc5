/-
  The script's lines in memory ('Stp'); zzBytes (15), addPathSeenBefore (12), addCopySteps (6).
-/
import Derived.Test.Qxb6601393aRead
import Derived.Deep.MidRow
namespace Go.Proofs.Qxb6601393a
open Go.RowKit Go.ChangeMaps Go.MapKept
set_option linter.unusedVariables false

/-- The slice at 'a' of 'len' lines reads as f 0 .. f (len - 1). -/
structure Stp (w : World) (a : Option Addr) (len : Nat) (f : Nat → ByteArray × ByteArray) : Prop where
  sz : ∀ i, i < len → (f i).1.size ≤ maxLen ∧ (f i).2.size ≤ maxLen
  cells : 0 < len → ∃ b off, a = some ⟨b, off, none⟩ ∧ b < w.heap.size ∧ ∀ i, i < len → w.cell? ⟨b, off + i * 2, none⟩ = some (.string (f i).1) ∧ w.cell? ⟨b, off + i * 2 + 1, none⟩ = some (.string (f i).2)
theorem Stp.below {w w' : World} {a : Option Addr} {len : Nat} {f : Nat → ByteArray × ByteArray} (h : Stp w a len f) (hb : Below w.heap.size w w') : Stp w' a len f := by
  refine ⟨h.sz, fun h0 => ?_⟩
  obtain ⟨b, off, ha, hlt, hc⟩ := h.cells h0
  exact ⟨b, off, ha, Nat.lt_of_lt_of_le hlt hb.size, fun i hi => ⟨(hb.cell (p := ⟨b, off + i * 2, none⟩) hlt).trans (hc i hi).1, (hb.cell (p := ⟨b, off + i * 2 + 1, none⟩) hlt).trans (hc i hi).2⟩⟩

def AnyBool (w : World) (e : Ending) (w' : World) : Prop := ∃ b, e = .returned (.bool b) ∧ Below w.heap.size w w'

set_option maxRecDepth 100000 in
set_option maxHeartbeats 2000000 in
theorem bytes_any (w : World) (a : Option Addr) (len cap : Nat) (f : Nat → ByteArray × ByteArray) (cut : Int) (h : Stp w a len f) (hlen : len ≤ maxLen) :
    Calls Try.prog 15 #[.slice a len cap, .int .i64 cut] w fun e w' => AnyBool w e w' := by
  have H := hid h
  clear h
  have hm : maxLen = 9223372036854775807 := rfl
  rw [hm] at hlen
  by_cases hl : len ≤ 1048576
  · go_enter Try.func15, Try.ntmps15
    go_wp2
    go_loop [5, 6] (fun s c => ∃ x k : Nat, x ≤ 1048576 ∧ k ≤ len ∧ s = .int .i64 x ∧ c = .int .i64 k) (fun _ c => len - (intOf c).toNat)
    case atStart => exact ⟨len, 0, hl, Nat.zero_le _, rfl, rfl⟩
    case round =>
      obtain ⟨x, k, hx, hk, rfl, rfl⟩ := hrel
      by_cases hlt : k < len
      · obtain ⟨b, off, rfl, hb, hc⟩ := H.out.cells (by omega)
        obtain ⟨c1, c2⟩ := hc k hlt
        obtain ⟨z1, z2⟩ := H.out.sz k hlt
        rw [hm] at z1 z2
        generalize f k = q at c1 c2 z1 z2
        obtain ⟨p, t⟩ := q
        simp only at c1 c2 z1 z2
        clear hc hm
        by_cases d1 : p.size ≤ 1048576
        · by_cases d2 : x + p.size ≤ 1048576
          · by_cases d3 : t.size ≤ 1048576
            · by_cases d4 : x + p.size + t.size ≤ 1048576
              · go_wp2
                go_round
                case rel => exact ⟨x + p.size + t.size, k + 1, d4, by omega, by go_num, by go_num⟩
                case measure => simp [intOf]; omega
              · go_wp2
                go_ret
                exact ⟨_, rfl, Below.refl _ _⟩
            · go_wp2
              go_ret
              exact ⟨_, rfl, Below.refl _ _⟩
          · go_wp2
            go_ret
            exact ⟨_, rfl, Below.refl _ _⟩
        · go_wp2
          go_ret
          exact ⟨_, rfl, Below.refl _ _⟩
      · go_wp2
        go_ret
        exact ⟨_, rfl, Below.refl _ _⟩
  · go_enter Try.func15, Try.ntmps15
    go_wp2
    go_ret
    exact ⟨_, rfl, Below.refl _ _⟩
end Go.Proofs.Qxb6601393a
