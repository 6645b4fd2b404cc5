/-
  addPathSeenBefore (12).
-/
import Derived.Test.Qxb6601393aSteps
namespace Go.Proofs.Qxb6601393a
open Go.RowKit Go.ChangeMaps Go.MapKept
set_option linter.unusedVariables false
set_option maxRecDepth 100000 in
set_option maxHeartbeats 2000000 in
theorem seen_any (w : World) (a : Option Addr) (len cap : Nat) (f : Nat → ByteArray × ByteArray) (i : Nat) (h : Stp w a len f) (hlen : len ≤ 4096) (hi : i < len) :
    Calls Try.prog 12 #[.slice a len cap, .int .i64 i] w fun e w' => AnyBool w e w' := by
  obtain ⟨b, off, rfl, hb, hc⟩ := h.cells (by omega)
  have c1 := (hc i hi).1
  have H := hid hc
  clear h hc
  go_enter Try.func12, Try.ntmps12
  go_wp2
  go_loopw [5] (fun c wr => ∃ k : Nat, k ≤ i ∧ c = .int .i64 k ∧ Below w.heap.size w wr) (fun c _ => i - (intOf c).toNat)
  case atStart => exact ⟨0, Nat.zero_le _, rfl, Below.refl _ _⟩
  case round =>
    obtain ⟨k, hk, rfl, hbel⟩ := hrel
    have HB := hid hbel
    by_cases hlt : k < i
    · have s1 := (hbel.cell (p := ⟨b, off + i * 2, none⟩) hb).trans c1
      have s2 := (hbel.cell (p := ⟨b, off + k * 2, none⟩) hb).trans (H.out k (by omega)).1
      generalize f k = q at s2
      generalize f i = q' at s1
      obtain ⟨p, t⟩ := q
      obtain ⟨p', t'⟩ := q'
      simp only at s1 s2
      clear hbel c1
      by_cases e : p = p'
      · have e1 := str_eq e
        clear e
        go_wp2
        go_quiet (fail)
        go_wp2
        go_ret
        exact ⟨_, rfl, below_drewN HB.out _⟩
      · have e1 := str_ne e
        clear e
        go_wp2
        go_quiet (fail)
        go_wp2
        go_roundw
        case rel => exact ⟨k + 1, by omega, by go_num, below_drewN HB.out _⟩
        case measure => simp [intOf]; omega
    · clear hbel
      go_wp2
      go_ret
      exact ⟨_, rfl, HB.out⟩
end Go.Proofs.Qxb6601393a
