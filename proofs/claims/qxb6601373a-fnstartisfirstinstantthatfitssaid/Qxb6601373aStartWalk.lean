/-
  The walk of FnStartIsFirstInstantThatFits (4).
-/
import Derived.Test.Qxb6601373aDom
import Derived.Test.Qxb6601373aFits
import Derived.Test.Qxb6601373aClone
namespace Go.Proofs.Qxb6601373a
open Go.RowKit
set_option linter.unusedVariables false

/-! ### Plain -/
theorem base_bd (n : Nat) (most : Int) (hn : 1 ≤ n) (m0 : 0 ≤ most) (m1 : 1 < (n : Int) → most ≤ 9223372036854775807 / ((n : Int) - 1)) : 0 ≤ ((n : Int) - 1) * most ∧ ((n : Int) - 1) * most ≤ 9223372036854775807 := by
  refine ⟨Int.mul_nonneg (by omega) m0, ?_⟩
  by_cases h : 1 < (n : Int)
  · have h1 := m1 h
    have e := Int.mul_ediv_add_emod 9223372036854775807 ((n : Int) - 1)
    have l := Int.emod_nonneg 9223372036854775807 (show (n : Int) - 1 ≠ 0 by omega)
    have := Int.mul_le_mul_of_nonneg_left h1 (show 0 ≤ (n : Int) - 1 by omega)
    omega
  · have : (n : Int) - 1 = 0 := by omega
    rw [this]; simp
theorem fit_mono {M S rows first n : Nat} {base size : Int} {z4 z5 : List Int} (hn1 : 1 ≤ n) (hn2 : n ≤ M) (r4 : Rising z4 M first rows) (r5 : Rising z5 S first rows) :
    ∀ k, first ≤ k → k + 1 < rows → FitAt M S base z4 z5 k n size → FitAt M S base z4 z5 (k + 1) n size := by
  intro k h1 h2 h
  rcases h with h | ⟨i, hi1, hi2, hi3⟩
  · left
    have := r4 k h1 h2 (n - 1) (by omega)
    rw [show k * M + (n - 1) = k * M + n - 1 by omega, show (k + 1) * M + (n - 1) = (k + 1) * M + n - 1 by omega] at this
    omega
  · right
    refine ⟨i, hi1, hi2, ?_⟩
    have := r5 k h1 h2 (i - 1) (by omega)
    rw [show k * S + (i - 1) = k * S + i - 1 by omega, show (k + 1) * S + (i - 1) = (k + 1) * S + i - 1 by omega] at this
    unfold Says at hi3 ⊢
    omega
theorem StartV.unique {rows first : Nat} {F : Nat → Prop} {z3 : List Int} {t t' : Int} {b b' : Bool} (h : StartV rows first F z3 t b) (h' : StartV rows first F z3 t' b') : t = t' ∧ b = b' := by
  obtain ⟨lo, h1, h2, h3, h4, rfl, rfl⟩ := h
  obtain ⟨lo', k1, k2, k3, k4, rfl, rfl⟩ := h'
  have : lo = lo' := by
    rcases Nat.lt_trichotomy lo lo' with h | h | h
    · exact absurd (h4 (by omega)) (k3 lo h1 h)
    · exact h
    · exact absurd (k4 (by omega)) (h3 lo' k1 h)
  subst this
  exact ⟨rfl, rfl⟩

/-! ### zzBytes (14) -/
set_option maxHeartbeats 1000000 in
theorem bytes_any (v0 v1 v2 v6 v7 v8 : Value) (a3 a4 a5 : Option Addr) (l3 c3 l4 c4 l5 c5 : Nat) (w : World) (h3 : l3 ≤ maxLen) (h4 : l4 ≤ maxLen) (h5 : l5 ≤ maxLen) :
    Calls Try.prog 14 #[v0, v1, v2, .slice a3 l3 c3, .slice a4 l4 c4, .slice a5 l5 c5, v6, v7, v8] w fun e w' => BoolIf True e ∧ w = w' := by
  unfold maxLen at h3 h4 h5
  go_enter Try.func14, Try.ntmps14
  go_wp2
  all_goals (go_ret; exact ⟨⟨_, rfl, fun _ => trivial⟩, rfl⟩)

/-! ### cloneI64 at whatever slice -/
theorem clone_any (a : Option Addr) (len cap : Nat) (zs : List Int) (w : World) (hl : len ≤ 131072) (hnil : a = none → len = 0 ∧ cap = 0) (hs : Sl w a len zs) :
    Calls Try.prog 16 #[.slice a len cap] w fun e w' => SliceOf zs len w e w' := by
  cases a with
  | none =>
    obtain ⟨rfl, rfl⟩ := hnil rfl
    have := List.eq_nil_of_length_eq_zero hs.length
    subst this
    exact clone_nil w
  | some x => exact clone_some x len cap zs w hl hs

set_option maxHeartbeats 1000000 in
theorem law_short (M S most first n size : Int) (a3 a4 a5 : Option Addr) (l3 c3 l4 c4 l5 c5 : Nat) (w : World) (h3 : l3 ≤ maxLen) (h4 : l4 ≤ maxLen) (h5 : l5 ≤ maxLen) (hl : ¬ l3 + l4 + l5 ≤ 131072) :
    Calls Try.prog 4 #[.int .i64 M, .int .i64 S, .int .i64 most, .slice a3 l3 c3, .slice a4 l4 c4, .slice a5 l5 c5, .int .i64 first, .int .i64 n, .int .i64 size] w fun e w' => e = .returned (.bool true) ∧ Below w.heap.size w w' := by
  have g3 := h3
  have g4 := h4
  have g5 := h5
  unfold maxLen at g3 g4 g5
  by_cases k3 : 131072 < l3
  · go_enter Try.func4, Try.ntmps4
    go_wp2_with fail
    refine (bytes_any _ _ _ _ _ _ _ _ _ _ _ _ _ _ _ _ h3 h4 h5).mono ?_
    rintro e w' ⟨⟨b, rfl, _⟩, rfl⟩
    cases b <;> go_wp2 <;> go_ret <;> exact ⟨rfl, Below.refl _ _⟩
  by_cases k4 : 131072 < l4
  · go_enter Try.func4, Try.ntmps4
    go_wp2_with fail
    refine (bytes_any _ _ _ _ _ _ _ _ _ _ _ _ _ _ _ _ h3 h4 h5).mono ?_
    rintro e w' ⟨⟨b, rfl, _⟩, rfl⟩
    cases b <;> go_wp2 <;> go_ret <;> exact ⟨rfl, Below.refl _ _⟩
  by_cases k5 : 131072 < l5
  · go_enter Try.func4, Try.ntmps4
    go_wp2_with fail
    refine (bytes_any _ _ _ _ _ _ _ _ _ _ _ _ _ _ _ _ h3 h4 h5).mono ?_
    rintro e w' ⟨⟨b, rfl, _⟩, rfl⟩
    cases b <;> go_wp2 <;> go_ret <;> exact ⟨rfl, Below.refl _ _⟩
  · have k6 : (131072 : Int) < (l3 : Int) + (l4 : Int) + (l5 : Int) := by omega
    go_enter Try.func4, Try.ntmps4
    go_wp2_with fail
    refine (bytes_any _ _ _ _ _ _ _ _ _ _ _ _ _ _ _ _ h3 h4 h5).mono ?_
    rintro e w' ⟨⟨b, rfl, _⟩, rfl⟩
    cases b <;> go_wp2 <;> go_ret <;> exact ⟨rfl, Below.refl _ _⟩

set_option maxHeartbeats 2000000 in
theorem law_main (M S most first n size : Int) (hM : I64 M) (hS : I64 S) (hmost : I64 most) (hfirst : I64 first) (hn : I64 n) (hsize : I64 size) (a3 a4 a5 : Option Addr) (l3 c3 l4 c4 l5 c5 : Nat) (z3 z4 z5 : List Int) (w : World) (h3 : l3 ≤ maxLen) (h4 : l4 ≤ maxLen) (h5 : l5 ≤ maxLen) (hl : l3 + l4 + l5 ≤ 131072)
    (s3 : Sl w a3 l3 z3) (s4 : Sl w a4 l4 z4) (s5 : Sl w a5 l5 z5) (n3 : a3 = none → l3 = 0 ∧ c3 = 0) (n4 : a4 = none → l4 = 0 ∧ c4 = 0) (n5 : a5 = none → l5 = 0 ∧ c5 = 0) :
    Calls Try.prog 4 #[.int .i64 M, .int .i64 S, .int .i64 most, .slice a3 l3 c3, .slice a4 l4 c4, .slice a5 l5 c5, .int .i64 first, .int .i64 n, .int .i64 size] w fun e w' => e = .returned (.bool true) ∧ Below w.heap.size w w' := by
  have HS3 := hid s3
  have HS4 := hid s4
  have HS5 := hid s5
  have HN3 := hid n3
  have HN4 := hid n4
  have HN5 := hid n5
  have H3 := hid h3
  have H4 := hid h4
  have H5 := hid h5
  have t1 : (l3 : Int) ≤ 131072 := by omega
  have t2 : (l4 : Int) ≤ 131072 := by omega
  have t3 : (l5 : Int) ≤ 131072 := by omega
  have t4 : (l3 : Int) + (l4 : Int) + (l5 : Int) ≤ 131072 := by omega
  clear s3 s4 s5 n3 n4 n5 h3 h4 h5
  go_enter Try.func4, Try.ntmps4
  go_wp2_with fail
  refine (bytes_any _ _ _ _ _ _ _ _ _ _ _ _ _ _ _ _ H3.out H4.out H5.out).mono ?_
  rintro e w' ⟨⟨b, rfl, _⟩, rfl⟩
  cases b
  · go_wp2
    go_ret
    exact ⟨rfl, Below.refl _ _⟩
  go_wp2_with fail
  refine (dom_any _ _ _ _ _ hM hS hmost hfirst hn _ _ _ _ _ _ _ _ _ _ _ _ HS4.out HS5.out (by omega)).mono ?_
  rintro e w1 ⟨⟨b, rfl, hb⟩, hw1⟩
  have HB := hid hb
  have HW1 := hid hw1
  clear hb hw1
  cases b
  · go_wp2
    go_ret
    exact ⟨rfl, HW1.out⟩
  obtain ⟨d1, d2, d3, e4, e5, d6, d7, d8, p4, p5, m1, r4, r5⟩ := HB.out rfl
  clear HB
  obtain ⟨M, rfl⟩ := Int.eq_ofNat_of_zero_le (show 0 ≤ M by omega)
  obtain ⟨S, rfl⟩ := Int.eq_ofNat_of_zero_le (show 0 ≤ S by omega)
  obtain ⟨first, rfl⟩ := Int.eq_ofNat_of_zero_le (show 0 ≤ first by omega)
  obtain ⟨n, rfl⟩ := Int.eq_ofNat_of_zero_le (show 0 ≤ n by omega)
  rw [Int.toNat_natCast, Int.toNat_natCast] at r4 r5
  have E4 : Hid (l4 = M * l3) := by show l4 = M * l3; omega
  have E5 : Hid (l5 = S * l3) := by show l5 = S * l3; omega
  have hn1 : 1 ≤ n := by omega
  have hn2 : n ≤ M := by omega
  have hf1 : first ≤ l3 := by omega
  have HMono := hid (fit_mono (base := ((n : Int) - 1) * most) (size := size) hn1 hn2 r4 r5)
  obtain ⟨bb1, bb2⟩ := base_bd n most hn1 d8 m1
  obtain ⟨base, hbase⟩ : ∃ base, ((n : Int) - 1) * most = base := ⟨_, rfl⟩
  rw [hbase] at HMono bb1 bb2
  have HBase := hid hbase
  have P4 := hid p4
  have P5 := hid p5
  clear hbase e4 e5 p4 p5 m1 r4 r5
  -- the three copies
  go_wp2_with fail
  refine (clone_any _ _ _ _ _ (by omega) HN3.out (HS3.out.below HW1.out)).mono ?_
  rintro e w2 ⟨a3', c3', rfl, s3', hw2⟩
  have HW2 := hid (HW1.out.trans (hw2.mono HW1.out.size))
  have HS3' := hid s3'
  clear s3' hw2
  go_wp2_with fail
  refine (clone_any _ _ _ _ _ (by omega) HN4.out (HS4.out.below HW2.out)).mono ?_
  rintro e w3 ⟨a4', c4', rfl, s4', hw3⟩
  have HS3'' := hid (HS3'.out.below hw3)
  have HW3 := hid (HW2.out.trans (hw3.mono HW2.out.size))
  have HS4' := hid s4'
  clear s4' hw3 HS3'
  go_wp2_with fail
  refine (clone_any _ _ _ _ _ (by omega) HN5.out (HS5.out.below HW3.out)).mono ?_
  rintro e w4 ⟨a5', c5', rfl, s5', hw4⟩
  have HS3' := hid (HS3''.out.below hw4)
  have HS4'' := hid (HS4'.out.below hw4)
  have HW4 := hid (HW3.out.trans (hw4.mono HW3.out.size))
  have HS5' := hid s5'
  clear s5' hw4 HS3'' HS4' HW1 HW2 HW3 HS3 HS4 HS5 HN3 HN4 HN5 H3 H4 H5
  go_wp2
  go_loop [19, 20, 21] (fun t f i => ∃ k : Nat, first ≤ k ∧ k ≤ l3 ∧ i = .int .i64 k ∧ t = .int .i64 0 ∧ f = .bool false ∧ ∀ j, first ≤ j → j < k → ¬ FitAt M S base z4 z5 j n size) (fun _ _ i => l3 - (intOf i).toNat)
  case atStart => exact ⟨first, Nat.le_refl _, hf1, rfl, rfl, rfl, fun _ _ _ => by omega⟩
  case round =>
    obtain ⟨k, hk1, hk2, rfl, rfl, rfl, hno⟩ := hrel
    have HNo := hid hno
    clear hno
    by_cases hk : k < l3
    · go_wp2_with fail
      refine (fitsAtLeast_any M S k n l3 most base size _ _ _ _ _ _ _ _ _ HS4''.out HS5'.out E4.out E5.out (by omega) (by omega) hk (by omega) hn1 hn2 HBase.out bb1 bb2 hsize P4.out P5.out).mono ?_
      rintro e w' ⟨⟨b, rfl, hb⟩, rfl⟩
      have HB := hid hb
      clear hb
      cases b
      · have HNo2 := hid (show ∀ j, first ≤ j → j < k + 1 → ¬ FitAt M S base z4 z5 j n size from fun j h1 h2 h => by
          by_cases e : j = k
          · subst e; exact absurd (HB.out.2 h) (by simp)
          · exact HNo.out j h1 (by omega) h)
        go_wp2
        go_round
        case rel => exact ⟨k + 1, by omega, by omega, by go_num, rfl, rfl, HNo2.out⟩
        case measure => simp [intOf]; omega
      · have HV := hid (show StartV l3 first (fun k => FitAt M S base z4 z5 k n size) z3 (z3[k]?.getD 0) true from ⟨k, hk1, hk2, HNo.out, fun _ => HB.out.1 rfl, by simp [hk], by simp [hk]⟩)
        obtain ⟨b, off, rfl, hlt, hc⟩ := HS3'.out.cells (by omega)
        have cc := hc k hk
        clear hc
        go_wp2_with fail
        refine (zzstart_any M S n l3 first most base size _ _ z3 _ _ _ z4 _ _ _ z5 _ HS3'.out HS4''.out HS5'.out E4.out E5.out (by omega) (by omega) (by omega) hf1 hn1 hn2 HBase.out bb1 bb2 hsize P5.out HMono.out).mono ?_
        rintro e w5 ⟨⟨t, f, rfl, hv⟩, hw5⟩
        have HW5 := hid (HW4.out.trans (hw5.mono HW4.out.size))
        obtain ⟨rfl, rfl⟩ := hv.unique HV.out
        clear hv hw5
        go_wp2
        go_ret
        exact ⟨rfl, HW5.out⟩
    · have HV := hid (show StartV l3 first (fun k => FitAt M S base z4 z5 k n size) z3 0 false from ⟨k, hk1, hk2, HNo.out, fun h => absurd h hk, by simp [hk], by simp [hk]⟩)
      go_wp2_with fail
      refine (zzstart_any M S n l3 first most base size _ _ z3 _ _ _ z4 _ _ _ z5 _ HS3'.out HS4''.out HS5'.out E4.out E5.out (by omega) (by omega) (by omega) hf1 hn1 hn2 HBase.out bb1 bb2 hsize P5.out HMono.out).mono ?_
      rintro e w5 ⟨⟨t, f, rfl, hv⟩, hw5⟩
      have HW5 := hid (HW4.out.trans (hw5.mono HW4.out.size))
      obtain ⟨rfl, rfl⟩ := hv.unique HV.out
      clear hv hw5
      go_wp2
      go_ret
      exact ⟨rfl, HW5.out⟩
end Go.Proofs.Qxb6601373a
