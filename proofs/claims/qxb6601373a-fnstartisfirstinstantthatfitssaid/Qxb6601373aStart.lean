/-
  (*floors).start (33) and ZZStart (18).
-/
import Derived.Test.Qxb6601373aFits2
namespace Go.Proofs.Qxb6601373a
open Go.RowKit
set_option linter.unusedVariables false

/-- The first row from 'first' on at which F holds, as start answers it. -/
def StartV (rows first : Nat) (F : Nat → Prop) (z3 : List Int) (t : Int) (b : Bool) : Prop :=
  ∃ lo, first ≤ lo ∧ lo ≤ rows ∧ (∀ k, first ≤ k → k < lo → ¬ F k) ∧ (lo < rows → F lo) ∧ t = (if lo < rows then z3.getD lo 0 else 0) ∧ b = decide (lo < rows)
def StartEnds (rows first : Nat) (F : Nat → Prop) (z3 : List Int) (e : Ending) : Prop := ∃ t b, e = .returned (.tuple #[.int .i64 t, .bool b]) ∧ StartV rows first F z3 t b

/-- The search's state: below lo none fits, from hi on all do. -/
def Srch (rows first : Nat) (F : Nat → Prop) (lo hi : Nat) : Prop := first ≤ lo ∧ lo ≤ hi ∧ hi ≤ rows ∧ (∀ k, first ≤ k → k < lo → ¬ F k) ∧ (∀ k, hi ≤ k → k < rows → F k)
theorem Srch.up {rows first : Nat} {F : Nat → Prop} {lo hi m : Nat} (h : Srch rows first F lo hi) (hm : lo ≤ m) (hm2 : m < hi) (hmono : ∀ k, first ≤ k → k + 1 < rows → F k → F (k + 1)) (hF : ¬ F m) : Srch rows first F (m + 1) hi := by
  obtain ⟨h1, h2, h3, h4, h5⟩ := h
  refine ⟨by omega, by omega, h3, fun k hk1 hk2 hFk => ?_, h5⟩
  have : ∀ d, k + d < rows → F (k + d) := by
    intro d
    induction d with
    | zero => intro _; exact hFk
    | succ d ih => intro hd; exact hmono (k + d) (by omega) (by omega) (ih (by omega))
  have := this (m - k) (by omega)
  rw [show k + (m - k) = m by omega] at this
  exact hF this
theorem Srch.down {rows first : Nat} {F : Nat → Prop} {lo hi m : Nat} (h : Srch rows first F lo hi) (hm : lo ≤ m) (hm2 : m < hi) (hmono : ∀ k, first ≤ k → k + 1 < rows → F k → F (k + 1)) (hF : F m) : Srch rows first F lo m := by
  obtain ⟨h1, h2, h3, h4, h5⟩ := h
  refine ⟨by omega, by omega, by omega, h4, fun k hk1 hk2 => ?_⟩
  have : ∀ d, m + d < rows → F (m + d) := by
    intro d
    induction d with
    | zero => intro _; exact hF
    | succ d ih => intro hd; exact hmono (m + d) (by omega) (by omega) (ih (by omega))
  have := this (k - m) (by omega)
  rwa [show m + (k - m) = k by omega] at this

set_option maxHeartbeats 1000000 in
theorem start_any (B M S n rows first : Nat) (most base size : Int) (a3 : Option Addr) (cap3 : Nat) (z3 : List Int) (a4 : Option Addr) (len4 cap4 : Nat) (z4 : List Int) (a5 : Option Addr) (len5 cap5 : Nat) (z5 : List Int) (w : World)
    (hfl : Floors w B M S most (.slice a3 rows cap3) (.slice a4 len4 cap4) (.slice a5 len5 cap5) first) (s3 : Sl w a3 rows z3)
    (s4 : Sl w a4 len4 z4) (s5 : Sl w a5 len5 z5) (e4 : len4 = M * rows) (e5 : len5 = S * rows) (l4 : len4 ≤ 131072) (l5 : len5 ≤ 131072) (hr : rows ≤ 131072) (hfr : first ≤ rows) (hn1 : 1 ≤ n) (hn2 : n ≤ M)
    (hbase : ((n : Int) - 1) * most = base) (hb0 : 0 ≤ base) (hb1 : base ≤ 9223372036854775807) (hsz : I64 size) (p5 : NonNeg z5 len5)
    (hmono : ∀ k, first ≤ k → k + 1 < rows → FitAt M S base z4 z5 k n size → FitAt M S base z4 z5 (k + 1) n size) :
    Calls Try.prog 33 #[.pointer (some ⟨B, 0, none⟩), .int .i64 n, .int .i64 size] w fun e w' => StartEnds rows first (fun k => FitAt M S base z4 z5 k n size) z3 e ∧ Below w.heap.size w w' := by
  have HS4 := hid s4
  have HS5 := hid s5
  have HS3 := hid s3
  have E4 := hid e4
  have E5 := hid e5
  have HBase := hid hbase
  have HP5 := hid p5
  have HMono := hid hmono
  have HF := hid hfl
  obtain ⟨lt, d0, d1, d2, d5, d6, d7, d8⟩ := hfl
  clear s3 s4 s5 e4 e5 hbase p5 hmono
  go_enter Try.func33, Try.ntmps33
  go_wp2
  go_quiet (fail)
  go_wp2
  go_loopw [8, 9] (fun l h wr => ∃ lo hi : Nat, l = .int .i64 lo ∧ h = .int .i64 hi ∧ Srch rows first (fun k => FitAt M S base z4 z5 k n size) lo hi ∧ Below w.heap.size w wr) (fun l h _ => ((intOf h) - (intOf l)).toNat)
  case atStart => exact ⟨first, rows, rfl, rfl, ⟨Nat.le_refl _, hfr, Nat.le_refl _, fun _ _ _ => by omega, fun _ _ _ => by omega⟩, below_drewN (Below.refl _ _) _⟩
  case round =>
    obtain ⟨lo, hi, rfl, rfl, hsr, hbel⟩ := hrel
    have HSr := hid hsr
    have HB := hid hbel
    have HFr := HF.out.below hbel
    have g1 := hsr.1
    have g2 := hsr.2.1
    have g3 := hsr.2.2.1
    clear hsr
    clear d0 d1 d2 d5 d6 d7 d8
    by_cases hlt : lo < hi
    · obtain ⟨m, hm⟩ : ∃ m : Nat, ((lo : Int) + (hi : Int)) / 2 = (m : Int) := ⟨(lo + hi) / 2, by omega⟩
      have hm1 : lo ≤ m := by omega
      have hm2 : m < hi := by omega
      clear hbel
      go_wp2_with fail
      refine (fits_any B M S m n rows first most base _ a4 len4 cap4 z4 a5 len5 cap5 z5 _ HFr (HS4.out.below HB.out) (HS5.out.below HB.out) E4.out E5.out l4 l5 (by omega) hr hn1 hn2 HBase.out hb0 hb1 HP5.out).mono ?_
      rintro e w1 ⟨⟨q, rfl, hq⟩, hb1'⟩
      have HQ := hid (hq.2 size)
      have HB1 := hid (HB.out.trans (hb1'.mono HB.out.size))
      obtain ⟨⟨v1, v2⟩, _⟩ := hq
      by_cases hge : size ≤ q
      · have HS2 := hid (HSr.out.down hm1 hm2 HMono.out (HQ.out.1 hge))
        clear hb1'
        go_wp2
        go_roundw
        case rel => exact ⟨lo, m, rfl, rfl, HS2.out, HB1.out⟩
        case measure => simp [intOf]; omega
      · have HS2 := hid (HSr.out.up hm1 hm2 HMono.out (fun h => hge (HQ.out.2 h)))
        clear hb1'
        go_wp2
        go_roundw
        case rel => exact ⟨m + 1, hi, by go_num, rfl, HS2.out, HB1.out⟩
        case measure => simp [intOf]; omega
    · have e : lo = hi := by omega
      subst e
      obtain ⟨lt', r0, r1, r2, r5, r6, r7, r8⟩ := HFr
      by_cases hrow : lo < rows
      · obtain ⟨b, off, rfl, hb, hc⟩ := (HS3.out.below hbel).cells (by omega)
        have cc := hc lo hrow
        have ne : ((lo : Int) == (rows : Int)) = false := by simp; omega
        clear hc hbel
        go_wp2
        go_ret2
        refine ⟨⟨_, _, rfl, lo, HSr.out.1, HSr.out.2.2.1, HSr.out.2.2.2.1, HSr.out.2.2.2.2 lo (Nat.le_refl _), ?_, ?_⟩, HB.out⟩
        · simp [hrow]
        · simp [hrow]
      · have ne : ((lo : Int) == (rows : Int)) = true := by simp; omega
        clear hbel
        go_wp2
        go_ret2
        refine ⟨⟨_, _, rfl, lo, HSr.out.1, HSr.out.2.2.1, HSr.out.2.2.2.1, fun h => absurd h hrow, ?_, ?_⟩, HB.out⟩
        · simp [hrow]
        · simp [hrow]
end Go.Proofs.Qxb6601373a
