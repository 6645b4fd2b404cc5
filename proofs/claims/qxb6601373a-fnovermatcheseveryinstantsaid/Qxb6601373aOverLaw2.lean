/-
  The walk of FnOverMatchesEveryInstant (6).
-/
import Derived.Test.Qxb6601373aOverLaw
namespace Go.Proofs.Qxb6601373a
open Go.RowKit
set_option linter.unusedVariables false

set_option maxHeartbeats 4000000 in
theorem law2_short (M S first KM KS : Int) (a2 a3 a4 a8 a9 a10 : Option Addr) (l2 c2 l3 c3 l4 c4 l8 c8 l9 c9 l10 c10 : Nat) (w : World) (h2 : l2 ≤ maxLen) (h3 : l3 ≤ maxLen) (h4 : l4 ≤ maxLen) (h8 : l8 ≤ maxLen) (h9 : l9 ≤ maxLen) (h10 : l10 ≤ maxLen) (hl : ¬ l2 + l3 + l4 + l8 + l9 + l10 ≤ 131072) :
    Calls Try.prog 6 #[.int .i64 M, .int .i64 S, .slice a2 l2 c2, .slice a3 l3 c3, .slice a4 l4 c4, .int .i64 first, .int .i64 KM, .int .i64 KS, .slice a8 l8 c8, .slice a9 l9 c9, .slice a10 l10 c10] w fun e w' => e = .returned (.bool true) ∧ Below w.heap.size w w' := by
  have g2 := h2
  have g3 := h3
  have g4 := h4
  have g8 := h8
  have g9 := h9
  have g10 := h10
  unfold maxLen at g2 g3 g4 g8 g9 g10
  by_cases k2 : 131072 < l2
  · go_enter Try.func6, Try.ntmps6
    go_wp2_with fail
    refine (bytes2_any _ _ _ _ _ _ _ _ _ _ _ _ _ _ _ _ _ _ _ _ _ _ _ _ h2 h3 h4 h8 h9 h10).mono ?_
    rintro e w' ⟨⟨b, rfl, _⟩, rfl⟩
    cases b <;> go_wp2 <;> go_ret <;> exact ⟨rfl, Below.refl _ _⟩
  by_cases k3 : 131072 < l3
  · go_enter Try.func6, Try.ntmps6
    go_wp2_with fail
    refine (bytes2_any _ _ _ _ _ _ _ _ _ _ _ _ _ _ _ _ _ _ _ _ _ _ _ _ h2 h3 h4 h8 h9 h10).mono ?_
    rintro e w' ⟨⟨b, rfl, _⟩, rfl⟩
    cases b <;> go_wp2 <;> go_ret <;> exact ⟨rfl, Below.refl _ _⟩
  by_cases k4 : 131072 < l4
  · go_enter Try.func6, Try.ntmps6
    go_wp2_with fail
    refine (bytes2_any _ _ _ _ _ _ _ _ _ _ _ _ _ _ _ _ _ _ _ _ _ _ _ _ h2 h3 h4 h8 h9 h10).mono ?_
    rintro e w' ⟨⟨b, rfl, _⟩, rfl⟩
    cases b <;> go_wp2 <;> go_ret <;> exact ⟨rfl, Below.refl _ _⟩
  by_cases k8 : 131072 < l8
  · go_enter Try.func6, Try.ntmps6
    go_wp2_with fail
    refine (bytes2_any _ _ _ _ _ _ _ _ _ _ _ _ _ _ _ _ _ _ _ _ _ _ _ _ h2 h3 h4 h8 h9 h10).mono ?_
    rintro e w' ⟨⟨b, rfl, _⟩, rfl⟩
    cases b <;> go_wp2 <;> go_ret <;> exact ⟨rfl, Below.refl _ _⟩
  by_cases k9 : 131072 < l9
  · go_enter Try.func6, Try.ntmps6
    go_wp2_with fail
    refine (bytes2_any _ _ _ _ _ _ _ _ _ _ _ _ _ _ _ _ _ _ _ _ _ _ _ _ h2 h3 h4 h8 h9 h10).mono ?_
    rintro e w' ⟨⟨b, rfl, _⟩, rfl⟩
    cases b <;> go_wp2 <;> go_ret <;> exact ⟨rfl, Below.refl _ _⟩
  by_cases k10 : 131072 < l10
  · go_enter Try.func6, Try.ntmps6
    go_wp2_with fail
    refine (bytes2_any _ _ _ _ _ _ _ _ _ _ _ _ _ _ _ _ _ _ _ _ _ _ _ _ h2 h3 h4 h8 h9 h10).mono ?_
    rintro e w' ⟨⟨b, rfl, _⟩, rfl⟩
    cases b <;> go_wp2 <;> go_ret <;> exact ⟨rfl, Below.refl _ _⟩
  have kk : (131072 : Int) < (l2 : Int) + (l3 : Int) + (l4 : Int) + (l8 : Int) + (l9 : Int) + (l10 : Int) := by omega
  go_enter Try.func6, Try.ntmps6
  go_wp2_with fail
  refine (bytes2_any _ _ _ _ _ _ _ _ _ _ _ _ _ _ _ _ _ _ _ _ _ _ _ _ h2 h3 h4 h8 h9 h10).mono ?_
  rintro e w' ⟨⟨b, rfl, _⟩, rfl⟩
  cases b <;> go_wp2 <;> go_ret <;> exact ⟨rfl, Below.refl _ _⟩

set_option maxHeartbeats 4000000 in
theorem law2_main (M S first KM KS : Int) (hM : I64 M) (hS : I64 S) (hfirst : I64 first) (hKM : I64 KM) (hKS : I64 KS) (a2 a3 a4 a8 a9 a10 : Option Addr) (l2 c2 l3 c3 l4 c4 l8 c8 l9 c9 l10 c10 : Nat) (z2 z3 z4 z8 z9 z10 : List Int) (w : World) (h2 : l2 ≤ maxLen) (h3 : l3 ≤ maxLen) (h4 : l4 ≤ maxLen) (h8 : l8 ≤ maxLen) (h9 : l9 ≤ maxLen) (h10 : l10 ≤ maxLen) (hl : l2 + l3 + l4 + l8 + l9 + l10 ≤ 131072)
    (s2 : Sl w a2 l2 z2) (s3 : Sl w a3 l3 z3) (s4 : Sl w a4 l4 z4) (s8 : Sl w a8 l8 z8) (s9 : Sl w a9 l9 z9) (s10 : Sl w a10 l10 z10) (n2 : a2 = none → l2 = 0 ∧ c2 = 0) (n3 : a3 = none → l3 = 0 ∧ c3 = 0) (n4 : a4 = none → l4 = 0 ∧ c4 = 0) (n8 : a8 = none → l8 = 0 ∧ c8 = 0) (n9 : a9 = none → l9 = 0 ∧ c9 = 0) (n10 : a10 = none → l10 = 0 ∧ c10 = 0) :
    Calls Try.prog 6 #[.int .i64 M, .int .i64 S, .slice a2 l2 c2, .slice a3 l3 c3, .slice a4 l4 c4, .int .i64 first, .int .i64 KM, .int .i64 KS, .slice a8 l8 c8, .slice a9 l9 c9, .slice a10 l10 c10] w fun e w' => e = .returned (.bool true) ∧ Below w.heap.size w w' := by
  have HS2 := hid s2
  have HN2 := hid n2
  have H2 := hid h2
  have t2 : (l2 : Int) ≤ 131072 := by omega
  have HS3 := hid s3
  have HN3 := hid n3
  have H3 := hid h3
  have t3 : (l3 : Int) ≤ 131072 := by omega
  have HS4 := hid s4
  have HN4 := hid n4
  have H4 := hid h4
  have t4 : (l4 : Int) ≤ 131072 := by omega
  have HS8 := hid s8
  have HN8 := hid n8
  have H8 := hid h8
  have t8 : (l8 : Int) ≤ 131072 := by omega
  have HS9 := hid s9
  have HN9 := hid n9
  have H9 := hid h9
  have t9 : (l9 : Int) ≤ 131072 := by omega
  have HS10 := hid s10
  have HN10 := hid n10
  have H10 := hid h10
  have t10 : (l10 : Int) ≤ 131072 := by omega
  have tt : (l2 : Int) + (l3 : Int) + (l4 : Int) + (l8 : Int) + (l9 : Int) + (l10 : Int) ≤ 131072 := by omega
  clear s2 n2 h2 s3 n3 h3 s4 n4 h4 s8 n8 h8 s9 n9 h9 s10 n10 h10
  go_enter Try.func6, Try.ntmps6
  go_wp2_with fail
  refine (bytes2_any _ _ _ _ _ _ _ _ _ _ _ _ _ _ _ _ _ _ _ _ _ _ _ _ H2.out H3.out H4.out H8.out H9.out H10.out).mono ?_
  rintro e w' ⟨⟨b, rfl, _⟩, rfl⟩
  cases b
  · go_wp2
    go_ret
    exact ⟨rfl, Below.refl _ _⟩
  go_wp2_with fail
  refine (dom2_any _ _ _ _ _ hM hS hfirst hKM hKS _ _ _ z2 _ _ _ _ _ _ _ _ _ z8 _ _ _ _ _ _ _ HS2.out HS8.out (by omega)).mono ?_
  rintro e w0 ⟨⟨b, rfl, hb⟩, hw0⟩
  have HB := hid hb
  have HW0 := hid hw0
  clear hb hw0
  cases b
  · go_wp2
    go_ret
    exact ⟨rfl, HW0.out⟩
  replace HB := hid (HB.out rfl)
  go_wp2_with fail
  refine (clone2_any _ _ _ _ _ (by omega) HN2.out (HS2.out.below HW0.out)).mono ?_
  rintro e w1 ⟨b2, d2, rfl, q2, s2, hw1⟩
  have T2 := hid s2
  have HW1 := hid (HW0.out.trans (hw1.mono HW0.out.size))
  clear s2 hw1
  go_wp2_with fail
  refine (clone2_any _ _ _ _ _ (by omega) HN3.out (HS3.out.below HW1.out)).mono ?_
  rintro e w2 ⟨b3, d3, rfl, q3, s3, hw2⟩
  replace T2 := hid (T2.out.below hw2)
  have T3 := hid s3
  have HW2 := hid (HW1.out.trans (hw2.mono HW1.out.size))
  clear s3 hw2
  go_wp2_with fail
  refine (clone2_any _ _ _ _ _ (by omega) HN4.out (HS4.out.below HW2.out)).mono ?_
  rintro e w3 ⟨b4, d4, rfl, q4, s4, hw3⟩
  replace T2 := hid (T2.out.below hw3)
  replace T3 := hid (T3.out.below hw3)
  have T4 := hid s4
  have HW3 := hid (HW2.out.trans (hw3.mono HW2.out.size))
  clear s4 hw3
  go_wp2_with fail
  refine (clone2_any _ _ _ _ _ (by omega) HN8.out (HS8.out.below HW3.out)).mono ?_
  rintro e w4 ⟨b8, d8, rfl, q8, s8, hw4⟩
  replace T2 := hid (T2.out.below hw4)
  replace T3 := hid (T3.out.below hw4)
  replace T4 := hid (T4.out.below hw4)
  have T8 := hid s8
  have HW4 := hid (HW3.out.trans (hw4.mono HW3.out.size))
  clear s8 hw4
  go_wp2_with fail
  refine (clone2_any _ _ _ _ _ (by omega) HN9.out (HS9.out.below HW4.out)).mono ?_
  rintro e w5 ⟨b9, d9, rfl, q9, s9, hw5⟩
  replace T2 := hid (T2.out.below hw5)
  replace T3 := hid (T3.out.below hw5)
  replace T4 := hid (T4.out.below hw5)
  replace T8 := hid (T8.out.below hw5)
  have T9 := hid s9
  have HW5 := hid (HW4.out.trans (hw5.mono HW4.out.size))
  clear s9 hw5
  go_wp2_with fail
  refine (clone2_any _ _ _ _ _ (by omega) HN10.out (HS10.out.below HW5.out)).mono ?_
  rintro e w6 ⟨b10, d10, rfl, q10, s10, hw6⟩
  replace T2 := hid (T2.out.below hw6)
  replace T3 := hid (T3.out.below hw6)
  replace T4 := hid (T4.out.below hw6)
  replace T8 := hid (T8.out.below hw6)
  replace T9 := hid (T9.out.below hw6)
  have T10 := hid s10
  have HW6 := hid (HW5.out.trans (hw6.mono HW5.out.size))
  clear s10 hw6
  clear HS2 HN2 H2 HS3 HN3 H3 HS4 HN4 H4 HS8 HN8 H8 HS9 HN9 H9 HS10 HN10 H10 HW0 HW1 HW2 HW3 HW4 HW5
  by_cases hc : M = KM ∧ S = KS ∧ 0 < l8
  · obtain ⟨rfl, rfl, hr⟩ := hc
    obtain ⟨f0, sh, shk⟩ := HB.out
    obtain ⟨e1, e2, e3, e4, e5⟩ := sh
    obtain ⟨e6, e7, e8, e9, e10⟩ := shk
    obtain ⟨M, rfl⟩ := Int.eq_ofNat_of_zero_le e1
    obtain ⟨S, rfl⟩ := Int.eq_ofNat_of_zero_le e2
    obtain ⟨first, rfl⟩ := Int.eq_ofNat_of_zero_le f0
    have hf := hfirst.2
    have TB := hid (show Tb w6 M S l2 b2 z2 b3 l3 z3 b4 l4 z4 from ⟨T2.out, T3.out, T4.out, by omega, by omega, by omega, by omega, by omega, e5⟩)
    have TK := hid (show Tb w6 M S l8 b8 z8 b9 l9 z9 b10 l10 z10 from ⟨T8.out, T9.out, T10.out, by omega, by omega, by omega, by omega, by omega, e10⟩)
    clear e3 e4 e5 e8 e9 e10 HB T2 T3 T4 T8 T9 T10
    go_wp2_with fail
    refine (zzover_yes M S first l2 l8 hf _ _ z2 _ _ _ z3 _ _ _ z4 _ _ z8 _ _ _ z9 _ _ _ z10 _ TB.out TK.out hr q3 q4 q9 q10).mono ?_
    rintro e w7 ⟨⟨g, rfl, hg⟩, hw7⟩
    have HG := hid hg
    have HW7 := hid (HW6.out.trans (hw7.mono HW6.out.size))
    have TB' := hid (TB.out.below hw7)
    have TK' := hid (TK.out.below hw7)
    clear hg hw7 TB TK
    go_wp2_with fail
    refine (model_yes M S first l2 l8 hf _ _ z2 _ _ _ z3 _ _ _ z4 _ _ z8 _ _ _ z9 _ _ _ z10 _ TB'.out TK'.out hr).mono ?_
    rintro e w8 ⟨he, hw8⟩
    have e' := he.is HG.out
    subst e'
    have HW8 := hid (HW7.out.trans (hw8.mono HW7.out.size))
    clear he hw8
    go_wp2
    go_ret
    exact ⟨ret_bool (by simp), HW8.out⟩
  · have HC := hid hc
    clear hc HB T2 T3 T4 T8 T9 T10
    go_wp2_with fail
    refine (zzover_no _ _ _ _ _ _ _ _ _ _ _ _ _ _ _ _ _ _ _ _ _ _ _ _ HC.out).mono ?_
    rintro e w7 ⟨rfl, hw7⟩
    have HW7 := hid (HW6.out.trans (hw7.mono HW6.out.size))
    clear hw7
    go_wp2_with fail
    refine (model_no _ _ _ _ _ _ _ _ _ _ _ _ _ _ _ _ _ _ _ _ _ _ _ _ HC.out).mono ?_
    rintro e w8 ⟨rfl, hw8⟩
    have HW8 := hid (HW7.out.trans (hw8.mono HW7.out.size))
    clear hw8
    go_wp2
    go_ret
    exact ⟨rfl, HW8.out⟩
end Go.Proofs.Qxb6601373a
