/-
  ZZOver (23), the copies, and the walk of FnOverMatchesEveryInstant (6).
-/
import Derived.Test.Qxb6601373aOverRest
import Derived.Test.Qxb6601373aClone
namespace Go.Proofs.Qxb6601373a
open Go.RowKit
set_option linter.unusedVariables false

/-! ### ZZOver -/
set_option maxHeartbeats 1000000 in
theorem zzover_yes (M S first m r : Nat) (hf : (first : Int) ≤ 9223372036854775807) (aA : Option Addr) (cA : Nat) (zA : List Int) (aL : Option Addr) (lL cL : Nat) (zL : List Int) (aS : Option Addr) (lS cS : Nat) (zS : List Int)
    (aK : Option Addr) (cK : Nat) (zK : List Int) (aKL : Option Addr) (lKL cKL : Nat) (zKL : List Int) (aKS : Option Addr) (lKS cKS : Nat) (zKS : List Int) (w : World)
    (tb : Tb w M S m aA zA aL lL zL aS lS zS) (tk : Tb w M S r aK zK aKL lKL zKL aKS lKS zKS) (hr : 0 < r) (qL : lL ≤ cL) (qS : lS ≤ cS) (qKL : lKL ≤ cKL) (qKS : lKS ≤ cKS) :
    Calls Try.prog 23 #[.int .i64 M, .int .i64 S, .slice aA m cA, .slice aL lL cL, .slice aS lS cS, .int .i64 first, .int .i64 M, .int .i64 S, .slice aK r cK, .slice aKL lKL cKL, .slice aKS lKS cKS] w fun e w' =>
      BoolIff (AllCov zA m zK r (CovAt first zA m zK r (Cv M S zL zS zKL zKS))) e ∧ Below w.heap.size w w' := by
  have HT := hid tb
  have HK := hid tk
  clear tb tk
  go_enter Try.func23, Try.ntmps23
  go_wp2_with fail
  have hb2 : ∀ o1 o2 : Obj, Below w.heap.size w ((w.alloc o1).alloc o2) := fun o1 o2 => ((Below.refl _ _).alloc (Nat.le_refl _) _).alloc (by simp) _
  refine (over_yes w.heap.size (w.heap.size + 1) M S first m r hf aA cA zA aL lL cL zL aS lS cS zS aK cK zK aKL lKL cKL zKL aKS lKS cKS zKS _ 0 0 0 ⟨by simp; omega, by simp [go_sem], by simp [go_sem], by simp [go_sem], by simp [go_sem], by simp [go_sem], by simp [go_sem], by simp [go_sem]⟩ ⟨by simp, by simp [go_sem], by simp [go_sem], by simp [go_sem], by simp [go_sem], by simp [go_sem], by simp [go_sem], by simp [go_sem]⟩ (HT.out.below (hb2 _ _)) (HK.out.below (hb2 _ _)) hr qL qS qKL qKS).mono ?_
  rintro e w1 ⟨⟨b, rfl, hb⟩, hw1⟩
  have HB := hid hb
  have HW := hid ((hb2 _ _).trans (hw1.mono (by simp; omega)))
  clear hb hw1 hb2
  go_wp2
  go_ret
  exact ⟨⟨_, rfl, HB.out⟩, HW.out⟩

set_option maxHeartbeats 1000000 in
theorem zzover_no (M S first KM KS : Int) (aA : Option Addr) (n cA : Nat) (aL : Option Addr) (lL cL : Nat) (aS : Option Addr) (lS cS : Nat)
    (aK : Option Addr) (r cK : Nat) (aKL : Option Addr) (lKL cKL : Nat) (aKS : Option Addr) (lKS cKS : Nat) (w : World) (h : ¬ (M = KM ∧ S = KS ∧ 0 < r)) :
    Calls Try.prog 23 #[.int .i64 M, .int .i64 S, .slice aA n cA, .slice aL lL cL, .slice aS lS cS, .int .i64 first, .int .i64 KM, .int .i64 KS, .slice aK r cK, .slice aKL lKL cKL, .slice aKS lKS cKS] w fun e w' =>
      e = .returned (.bool false) ∧ Below w.heap.size w w' := by
  have HN := hid h
  clear h
  go_enter Try.func23, Try.ntmps23
  go_wp2_with fail
  have hb2 : ∀ o1 o2 : Obj, Below w.heap.size w ((w.alloc o1).alloc o2) := fun o1 o2 => ((Below.refl _ _).alloc (Nat.le_refl _) _).alloc (by simp) _
  refine (over_no w.heap.size (w.heap.size + 1) M S KM KS (.bool true) (.bool true) (.bool true) (.bool true) aK r cK _ HN.out (by simp [go_sem]) (by simp [go_sem]) (by simp [go_sem]) (by simp [go_sem]) (by simp [go_sem])).mono ?_
  rintro e w1 ⟨rfl, hw1⟩
  have HW := hid ((hb2 _ _).trans (hw1.mono (by simp; omega)))
  clear hw1 hb2
  go_wp2
  go_ret
  exact ⟨rfl, HW.out⟩

/-! ### cloneI64, with the capacity -/
def SliceOf2 (zs : List Int) (len : Nat) (w : World) (e : Ending) (w' : World) : Prop := ∃ a cap, e = .returned (.slice a len cap) ∧ len ≤ cap ∧ Sl w' a len zs ∧ Below w.heap.size w w'

set_option maxHeartbeats 400000 in
theorem clone2_nil (w : World) : Calls Try.prog 16 #[.slice none 0 0] w fun e w' => SliceOf2 [] 0 w e w' := by
  have hn := fun (w : World) (a : Option Addr) (n c n' c' : Nat) => Lib.run_eql_slice_nil (P := Try.prog) w 32 2 a n c n' c' Try.underlying32
  go_enter Try.func16, Try.ntmps16
  go_wp2
  go_ret
  exact ⟨none, 0, rfl, Nat.le_refl _, ⟨rfl, fun h => by omega, fun i => by simp [I64]⟩, Below.refl _ _⟩

set_option maxHeartbeats 1000000 in
theorem clone2_some (x : Addr) (len cap : Nat) (zs : List Int) (w : World) (hl : len ≤ 131072) (hs : Sl w (some x) len zs) :
    Calls Try.prog 16 #[.slice (some x) len cap] w fun e w' => SliceOf2 zs len w e w' := by
  have hn := fun (w : World) (a : Option Addr) (n c n' c' : Nat) => Lib.run_eql_slice_nil (P := Try.prog) w 32 2 a n c n' c' Try.underlying32
  have hmk := fun (w : World) => run_make_row' (P := Try.prog) 32 2 (.int .i64 0) 8 Try.underlying32 info2 rfl .i64 .i64 len (by omega) (by omega) w
  go_enter Try.func16, Try.ntmps16
  go_wp2
  clear hmk hn
  go_loopw [4] (fun i wr => ∃ k : Nat, k ≤ len ∧ i = .int .i64 k ∧ wr.rowIs w.heap.size 2 len (fcl zs k) ∧ Below w.heap.size w wr) (fun i _ => len - (intOf i).toNat)
  case atStart => exact ⟨0, Nat.zero_le _, rfl, by rw [← fcl_zero]; exact World.rowIs_made w _ len 2, (Below.refl _ _).alloc (Nat.le_refl _) _⟩
  case round =>
    obtain ⟨k, hk, rfl, hrow, hbel⟩ := hrel
    have HR := hid hrow
    have HB := hid hbel
    by_cases hlt : k < len
    · obtain ⟨b, off, hx, hb, hc⟩ := hs.cells (by omega)
      simp only [Option.some.injEq] at hx
      subst hx
      have c1 := (hbel.cell (p := ⟨b, off + k, none⟩) hb).trans (hc k hlt)
      have c2 := hrow.cell hlt
      have f2 := hrow.frozen k
      have HS := hid hs
      clear hs hc hrow hbel
      go_wp2
      go_roundw
      case rel => exact ⟨k + 1, by omega, by go_num, row_step HR.out (by simp), HB.out.setCell (Nat.le_refl _) _⟩
      case measure => simp [intOf]; omega
    · have : k = len := by omega
      subst this
      clear hrow hbel
      have HS := hid hs
      clear hs
      go_wp2
      go_ret
      exact ⟨_, _, rfl, Nat.le_refl _, sl_of_row HR.out HS.out.length HS.out.fits, HB.out⟩

theorem clone2_any (a : Option Addr) (len cap : Nat) (zs : List Int) (w : World) (hl : len ≤ 131072) (hnil : a = none → len = 0 ∧ cap = 0) (hs : Sl w a len zs) :
    Calls Try.prog 16 #[.slice a len cap] w fun e w' => SliceOf2 zs len w e w' := by
  cases a with
  | none =>
    obtain ⟨rfl, rfl⟩ := hnil rfl
    have := List.eq_nil_of_length_eq_zero hs.length
    subst this
    exact clone2_nil w
  | some x => exact clone2_some x len cap zs w hl hs

/-! ### zzBytes (21) -/
set_option maxHeartbeats 2000000 in
theorem bytes2_any (v0 v1 v5 v6 v7 : Value) (a2 a3 a4 a8 a9 a10 : Option Addr) (l2 c2 l3 c3 l4 c4 l8 c8 l9 c9 l10 c10 : Nat) (w : World) (h2 : l2 ≤ maxLen) (h3 : l3 ≤ maxLen) (h4 : l4 ≤ maxLen) (h8 : l8 ≤ maxLen) (h9 : l9 ≤ maxLen) (h10 : l10 ≤ maxLen) :
    Calls Try.prog 21 #[v0, v1, .slice a2 l2 c2, .slice a3 l3 c3, .slice a4 l4 c4, v5, v6, v7, .slice a8 l8 c8, .slice a9 l9 c9, .slice a10 l10 c10] w fun e w' => BoolIf True e ∧ w = w' := by
  unfold maxLen at h2 h3 h4 h8 h9 h10
  go_enter Try.func21, Try.ntmps21
  go_wp2
  all_goals (go_ret; exact ⟨⟨_, rfl, fun _ => trivial⟩, rfl⟩)
end Go.Proofs.Qxb6601373a
