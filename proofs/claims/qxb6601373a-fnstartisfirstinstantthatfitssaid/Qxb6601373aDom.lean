/-
  startDomain (15) and ZZStart (18).
-/
import Derived.Test.Qxb6601373aStart
import Derived.Test.Qxb6601373aRise
namespace Go.Proofs.Qxb6601373a
open Go.RowKit
set_option linter.unusedVariables false

/-- What startDomain's yes tells. -/
structure SDom (M S most first n : Int) (rows len4 len5 : Nat) (z4 z5 : List Int) : Prop where
  n1 : 1 ≤ n
  nM : n ≤ M
  S0 : 0 ≤ S
  e4 : (len4 : Int) = M * rows
  e5 : (len5 : Int) = S * rows
  f0 : 0 ≤ first
  f1 : first ≤ rows
  m0 : 0 ≤ most
  p4 : NonNeg z4 len4
  p5 : NonNeg z5 len5
  m1 : 1 < n → most ≤ 9223372036854775807 / (n - 1)
  r4 : Rising z4 M.toNat first.toNat rows
  r5 : Rising z5 S.toNat first.toNat rows

set_option maxHeartbeats 1000000 in
theorem dom_any (M S most first n : Int) (hM : I64 M) (hS : I64 S) (hmost : I64 most) (hfirst : I64 first) (hn : I64 n) (a3 : Option Addr) (rows cap3 : Nat) (a4 : Option Addr) (len4 cap4 : Nat) (z4 : List Int) (a5 : Option Addr) (len5 cap5 : Nat) (z5 : List Int) (w : World)
    (s4 : Sl w a4 len4 z4) (s5 : Sl w a5 len5 z5) (hl : rows + len4 + len5 ≤ 131072) :
    Calls Try.prog 15 #[.int .i64 M, .int .i64 S, .int .i64 most, .slice a3 rows cap3, .slice a4 len4 cap4, .slice a5 len5 cap5, .int .i64 first, .int .i64 n] w fun e w' => BoolIf (SDom M S most first n rows len4 len5 z4 z5) e ∧ Below w.heap.size w w' := by
  obtain ⟨u1, u2⟩ := hM
  obtain ⟨u3, u4⟩ := hS
  obtain ⟨u5, u6⟩ := hmost
  obtain ⟨u7, u8⟩ := hfirst
  obtain ⟨u9, u10⟩ := hn
  have HS4 := hid s4
  have HS5 := hid s5
  clear s4 s5
  have t1 : (rows : Int) ≤ 131072 := by omega
  have t2 : (len4 : Int) ≤ 131072 := by omega
  have t3 : (len5 : Int) ≤ 131072 := by omega
  have t4 : (rows : Int) + (len4 : Int) + (len5 : Int) ≤ 131072 := by omega
  by_cases c1 : n < 1
  · go_enter Try.func15, Try.ntmps15
    go_wp2
    go_ret
    exact ⟨BoolIf.no _, Below.refl _ _⟩
  by_cases c2 : M < n
  · go_enter Try.func15, Try.ntmps15
    go_wp2
    go_ret
    exact ⟨BoolIf.no _, Below.refl _ _⟩
  by_cases c3 : S < 0
  · go_enter Try.func15, Try.ntmps15
    go_wp2
    go_ret
    exact ⟨BoolIf.no _, Below.refl _ _⟩
  go_enter Try.func15, Try.ntmps15
  go_wp2_with fail
  refine (rowsOf_any _ _ _ (by omega) (by omega) (by omega) (by omega) (by omega) (by omega) _).mono ?_
  rintro e w' ⟨⟨b1, rfl, hb1⟩, rfl⟩
  have HB1 := hid hb1
  clear hb1
  cases b1
  · go_wp2
    go_ret
    exact ⟨BoolIf.no _, Below.refl _ _⟩
  replace HB1 := hid (HB1.out rfl)
  go_wp2_with fail
  refine (rowsOf_any _ _ _ (by omega) (by omega) (by omega) (by omega) (by omega) (by omega) _).mono ?_
  rintro e w' ⟨⟨b2, rfl, hb2⟩, rfl⟩
  have HB2 := hid hb2
  clear hb2
  cases b2
  · go_wp2
    go_ret
    exact ⟨BoolIf.no _, Below.refl _ _⟩
  replace HB2 := hid (HB2.out rfl)
  by_cases c4 : first < 0
  · go_wp2
    go_ret
    exact ⟨BoolIf.no _, Below.refl _ _⟩
  by_cases c5 : (rows : Int) < first
  · go_wp2
    go_ret
    exact ⟨BoolIf.no _, Below.refl _ _⟩
  by_cases c6 : most < 0
  · go_wp2
    go_ret
    exact ⟨BoolIf.no _, Below.refl _ _⟩
  go_wp2_with fail
  refine (allNonNeg_any _ _ _ _ _ (by omega) HS4.out).mono ?_
  rintro e w' ⟨⟨b3, rfl, hb3⟩, rfl⟩
  have HB3 := hid hb3
  clear hb3
  cases b3
  · go_wp2
    go_ret
    exact ⟨BoolIf.no _, Below.refl _ _⟩
  replace HB3 := hid (HB3.out rfl)
  go_wp2_with fail
  refine (allNonNeg_any _ _ _ _ _ (by omega) HS5.out).mono ?_
  rintro e w' ⟨⟨b4, rfl, hb4⟩, rfl⟩
  have HB4 := hid hb4
  clear hb4
  cases b4
  · go_wp2
    go_ret
    exact ⟨BoolIf.no _, Below.refl _ _⟩
  replace HB4 := hid (HB4.out rfl)
  by_cases c7 : 1 < n ∧ 9223372036854775807 / (n - 1) < most
  · obtain ⟨c8, c9⟩ := c7
    go_wp2
    go_ret
    exact ⟨BoolIf.no _, Below.refl _ _⟩
  have HM1 := hid (show 1 < n → most ≤ 9223372036854775807 / (n - 1) from fun h => by omega)
  obtain ⟨m, rfl⟩ := Int.eq_ofNat_of_zero_le (show 0 ≤ M by omega)
  obtain ⟨s, rfl⟩ := Int.eq_ofNat_of_zero_le (show 0 ≤ S by omega)
  obtain ⟨f, rfl⟩ := Int.eq_ofNat_of_zero_le (show 0 ≤ first by omega)
  have E4 : Hid (len4 = m * rows) := by
    have := HB1.out
    unfold RowsEq at this
    show len4 = m * rows
    omega
  have E5 : Hid (len5 = s * rows) := by
    have := HB2.out
    unfold RowsEq at this
    show len5 = s * rows
    omega
  by_cases c8 : 1 < n
  all_goals
    first | (have c9 : ¬ 9223372036854775807 / (n - 1) < most := fun h => c7 ⟨c8, h⟩) | skip
    clear c7
    go_wp2_with fail
    refine (rising_any _ _ _ _ m f rows _ (by omega) HS4.out (by omega) (by omega) (by omega) E4.out).mono ?_
    rintro e w1 ⟨⟨b5, rfl, hb5⟩, hw1⟩
    have HB5 := hid hb5
    have HW1 := hid hw1
    have HS5' := hid (HS5.out.below hw1)
    clear hb5 hw1
    cases b5
    · go_wp2
      go_ret
      exact ⟨BoolIf.no _, HW1.out⟩
    replace HB5 := hid (HB5.out rfl)
    go_wp2_with fail
    refine (rising_any _ _ _ _ s f rows _ (by omega) HS5'.out (by omega) (by omega) (by omega) E5.out).mono ?_
    rintro e w2 ⟨⟨b6, rfl, hb6⟩, hw2⟩
    have HB6 := hid hb6
    have HW2 := hid (HW1.out.trans (hw2.mono HW1.out.size))
    clear hb6 hw2
    go_wp2
    go_ret
    refine ⟨⟨_, rfl, fun hb => ?_⟩, HW2.out⟩
    exact ⟨by omega, by omega, by omega, HB1.out, HB2.out, by omega, by omega, by omega, HB3.out, HB4.out, HM1.out, HB5.out, HB6.out hb⟩

set_option maxHeartbeats 1000000 in
theorem zzstart_any (M S n rows first : Nat) (most base size : Int) (a3 : Option Addr) (cap3 : Nat) (z3 : List Int) (a4 : Option Addr) (len4 cap4 : Nat) (z4 : List Int) (a5 : Option Addr) (len5 cap5 : Nat) (z5 : List Int) (w : World)
    (s3 : Sl w a3 rows z3) (s4 : Sl w a4 len4 z4) (s5 : Sl w a5 len5 z5) (e4 : len4 = M * rows) (e5 : len5 = S * rows) (l4 : len4 ≤ 131072) (l5 : len5 ≤ 131072) (hr : rows ≤ 131072) (hfr : first ≤ rows) (hn1 : 1 ≤ n) (hn2 : n ≤ M)
    (hbase : ((n : Int) - 1) * most = base) (hb0 : 0 ≤ base) (hb1 : base ≤ 9223372036854775807) (hsz : I64 size) (p5 : NonNeg z5 len5)
    (hmono : ∀ k, first ≤ k → k + 1 < rows → FitAt M S base z4 z5 k n size → FitAt M S base z4 z5 (k + 1) n size) :
    Calls Try.prog 18 #[.int .i64 M, .int .i64 S, .int .i64 most, .slice a3 rows cap3, .slice a4 len4 cap4, .slice a5 len5 cap5, .int .i64 first, .int .i64 n, .int .i64 size] w fun e w' => StartEnds rows first (fun k => FitAt M S base z4 z5 k n size) z3 e ∧ Below w.heap.size w w' := by
  have HS4 := hid s4
  have HS5 := hid s5
  have HS3 := hid s3
  have E4 := hid e4
  have E5 := hid e5
  have HBase := hid hbase
  have HP5 := hid p5
  have HMono := hid hmono
  clear s3 s4 s5 e4 e5 hbase p5 hmono
  go_enter Try.func18, Try.ntmps18
  go_wp2_with fail
  have hbl := (Below.refl w.heap.size w).alloc (Nat.le_refl _) (Obj.cells #[.int .i64 0] 52)
  refine (start_any w.heap.size M S n rows first most base size a3 cap3 z3 a4 len4 cap4 z4 a5 len5 cap5 z5 _ ⟨by simp, by simp [go_sem], by simp [go_sem], by simp [go_sem], by simp [go_sem], by simp [go_sem], by simp [go_sem], by simp [go_sem]⟩ (HS3.out.below ((Below.refl _ _).alloc (Nat.le_refl _) _)) (HS4.out.below ((Below.refl _ _).alloc (Nat.le_refl _) _)) (HS5.out.below ((Below.refl _ _).alloc (Nat.le_refl _) _)) E4.out E5.out l4 l5 hr hfr hn1 hn2 HBase.out hb0 hb1 hsz HP5.out HMono.out).mono ?_
  rintro e w1 ⟨⟨t, b, rfl, hv⟩, hb⟩
  have HV := hid hv
  have HB := hid hb
  clear hv hb
  go_wp2
  go_ret2
  exact ⟨⟨_, _, rfl, HV.out⟩, ((Below.refl _ _).alloc (Nat.le_refl _) _).trans (HB.out.mono (by simp))⟩
end Go.Proofs.Qxb6601373a
