/-
  coveredAt (35), overModel (24), overShape (27), overDomain (22).
-/
import Derived.Test.Qxb6601373aOverSmall
namespace Go.Proofs.Qxb6601373a
open Go.RowKit
set_option linter.unusedVariables false

/-- A table of floors: its instants, its levels and its sums, as three slices of the world. -/
structure Tb (w : World) (M S n : Nat) (aA : Option Addr) (zA : List Int) (aL : Option Addr) (lL : Nat) (zL : List Int) (aS : Option Addr) (lS : Nat) (zS : List Int) : Prop where
  sA : Sl w aA n zA
  sL : Sl w aL lL zL
  sS : Sl w aS lS zS
  eL : lL = M * n
  eS : lS = S * n
  bA : n ≤ 131072
  bL : lL ≤ 131072
  bS : lS ≤ 131072
  st : StrictR zA n
theorem Tb.below {w w' : World} {M S n : Nat} {aA : Option Addr} {zA : List Int} {aL : Option Addr} {lL : Nat} {zL : List Int} {aS : Option Addr} {lS : Nat} {zS : List Int} (h : Tb w M S n aA zA aL lL zL aS lS zS) (hb : Below w.heap.size w w') : Tb w' M S n aA zA aL lL zL aS lS zS :=
  ⟨h.sA.below hb, h.sL.below hb, h.sS.below hb, h.eL, h.eS, h.bA, h.bL, h.bS, h.st⟩

/-- Row k of fl covers row j of kept. -/
def Cv (M S : Nat) (zL zS zKL zKS : List Int) (k j : Nat) : Prop := GeRow zL k zKL j M ∧ GeRow zS k zKS j S

set_option maxHeartbeats 1000000 in
theorem covered_any (t : Int) (M S first m r : Nat) (hf : (first : Int) ≤ 9223372036854775807) (aA : Option Addr) (cA : Nat) (zA : List Int) (aL : Option Addr) (lL cL : Nat) (zL : List Int) (aS : Option Addr) (lS cS : Nat) (zS : List Int)
    (aK : Option Addr) (cK : Nat) (zK : List Int) (aKL : Option Addr) (lKL cKL : Nat) (zKL : List Int) (aKS : Option Addr) (lKS cKS : Nat) (zKS : List Int) (w : World)
    (tb : Tb w M S m aA zA aL lL zL aS lS zS) (tk : Tb w M S r aK zK aKL lKL zKL aKS lKS zKS) :
    Calls Try.prog 35 #[.int .i64 t, .int .i64 M, .int .i64 S, .slice aA m cA, .slice aL lL cL, .slice aS lS cS, .int .i64 first, .slice aK r cK, .slice aKL lKL cKL, .slice aKS lKS cKS] w fun e w' =>
      BoolIff (CovAt first zA m zK r (Cv M S zL zS zKL zKS) t) e ∧ Drawn w w' := by
  have HT := hid tb
  have HK := hid tk
  clear tb tk
  go_enter Try.func35, Try.ntmps35
  go_wp2_with fail
  refine (last_any _ _ _ _ _ _ HK.out.bA HK.out.sA HK.out.st).mono ?_
  rintro e w' ⟨⟨j, rfl, hj⟩, rfl⟩
  have HJ := hid hj
  have j1 := hj.1
  have j2 := hj.2.1
  have j3 := HK.out.bA
  clear hj
  by_cases hj0 : j < 0
  · have HC := hid (CovAt.none (first := first) (A := zA) (m := m) (cov := Cv M S zL zS zKL zKS) HJ.out hj0)
    go_wp2
    go_ret
    exact ⟨BoolIff.yes HC.out, Drawn.refl _⟩
  obtain ⟨j, rfl⟩ := Int.eq_ofNat_of_zero_le (show 0 ≤ j by omega)
  go_wp2_with fail
  refine (last_any _ _ _ _ _ _ HT.out.bA HT.out.sA HT.out.st).mono ?_
  rintro e w' ⟨⟨k, rfl, hk⟩, rfl⟩
  have HKk := hid hk
  have k1 := hk.1
  have k2 := hk.2.1
  have k3 := HT.out.bA
  clear hk
  by_cases hk0 : k < (first : Int)
  · have HC := hid (CovAt.low (first := first) (cov := Cv M S zL zS zKL zKS) HJ.out HKk.out hk0)
    go_wp2
    go_ret
    exact ⟨BoolIff.no HC.out, Drawn.refl _⟩
  obtain ⟨k, rfl⟩ := Int.eq_ofNat_of_zero_le (show 0 ≤ k by omega)
  have HC := hid (CovAt.iff (first := first) (cov := Cv M S zL zS zKL zKS) HJ.out HKk.out (by omega))
  go_wp2_with fail
  refine (row_any _ _ _ zL k _ _ _ zKL j M m r _ HT.out.bL HK.out.bL HT.out.sL HK.out.sL HT.out.eL HK.out.eL (by omega) (by omega)).mono ?_
  rintro e w1 ⟨⟨b1, rfl, hb1⟩, hw1⟩
  have HB1 := hid hb1
  have HW1 := hid hw1
  have HT' := hid (HT.out.below (hw1.below _))
  have HK' := hid (HK.out.below (hw1.below _))
  clear hb1 hw1
  cases b1
  · have HN := hid (show ¬ CovAt first zA m zK r (Cv M S zL zS zKL zKS) t from fun h => absurd (HB1.out.2 (HC.out.1 h).1) (by simp))
    go_wp2
    go_ret
    exact ⟨BoolIff.no HN.out, HW1.out⟩
  have HG1 := hid (HB1.out.1 rfl)
  clear HB1
  go_wp2_with fail
  refine (row_any _ _ _ zS k _ _ _ zKS j S m r _ HT'.out.bS HK'.out.bS HT'.out.sS HK'.out.sS HT'.out.eS HK'.out.eS (by omega) (by omega)).mono ?_
  rintro e w2 ⟨⟨b2, rfl, hb2⟩, hw2⟩
  have HW2 := hid (HW1.out.trans hw2)
  have HF : Hid (b2 = true ↔ CovAt first zA m zK r (Cv M S zL zS zKL zKS) t) := by
    show b2 = true ↔ _
    rw [hb2, HC.out]
    exact ⟨fun h => ⟨HG1.out, h⟩, fun h => h.2⟩
  clear hb2 hw2
  go_wp2
  go_ret
  exact ⟨⟨_, rfl, HF.out⟩, HW2.out⟩

/-- What overModel asks. -/
def Mod (M S KM KS : Int) (r : Nat) (zA : List Int) (m : Nat) (zK : List Int) (P : Int → Prop) : Prop := M = KM ∧ S = KS ∧ 0 < r ∧ AllCov zA m zK r P
def KTo (zK : List Int) (P : Int → Prop) (n : Nat) : Prop := ∀ j, j < n → P (zK.getD j 0)
def ATo (zA zK : List Int) (P : Int → Prop) (n : Nat) : Prop := ∀ x, x < n → zK.getD 0 0 ≤ zA.getD x 0 → P (zA.getD x 0)
theorem KTo.zero (zK : List Int) (P : Int → Prop) : KTo zK P 0 := fun _ h => by omega
theorem ATo.zero (zA zK : List Int) (P : Int → Prop) : ATo zA zK P 0 := fun _ h => by omega
theorem KTo.step {zK : List Int} {P : Int → Prop} {n : Nat} (h : KTo zK P n) (h' : P (zK[n]?.getD 0)) : KTo zK P (n + 1) := by
  intro j hj
  by_cases e : j = n
  · subst e; simpa using h'
  · exact h j (by omega)
theorem ATo.step {zA zK : List Int} {P : Int → Prop} {n : Nat} (h : ATo zA zK P n) (h' : zK[0]?.getD 0 ≤ zA[n]?.getD 0 → P (zA[n]?.getD 0)) : ATo zA zK P (n + 1) := by
  intro j hj hle
  by_cases e : j = n
  · subst e; simpa using h' (by simpa using hle)
  · exact h j (by omega) hle
theorem AllCov.of {zA : List Int} {m : Nat} {zK : List Int} {r : Nat} {P : Int → Prop} (h1 : KTo zK P r) (h2 : ATo zA zK P m) : AllCov zA m zK r P := by
  rintro t (⟨j, hj, rfl⟩ | ⟨x, hx, hle, rfl⟩)
  · exact h1 j hj
  · exact h2 x hx hle
theorem AllCov.notK {zA : List Int} {m : Nat} {zK : List Int} {r : Nat} {P : Int → Prop} {j : Nat} (hj : j < r) (h : ¬ P (zK[j]?.getD 0)) : ¬ AllCov zA m zK r P := fun hc => h (by simpa using hc _ (.inl ⟨j, hj, rfl⟩))
theorem AllCov.notA {zA : List Int} {m : Nat} {zK : List Int} {r : Nat} {P : Int → Prop} {x : Nat} (hx : x < m) (hle : zK[0]?.getD 0 ≤ zA[x]?.getD 0) (h : ¬ P (zA[x]?.getD 0)) : ¬ AllCov zA m zK r P := fun hc => h (by simpa using hc _ (.inr ⟨x, hx, by simpa using hle, rfl⟩))

set_option maxHeartbeats 2000000 in
theorem model_yes (M S first m r : Nat) (hf : (first : Int) ≤ 9223372036854775807) (aA : Option Addr) (cA : Nat) (zA : List Int) (aL : Option Addr) (lL cL : Nat) (zL : List Int) (aS : Option Addr) (lS cS : Nat) (zS : List Int)
    (aK : Option Addr) (cK : Nat) (zK : List Int) (aKL : Option Addr) (lKL cKL : Nat) (zKL : List Int) (aKS : Option Addr) (lKS cKS : Nat) (zKS : List Int) (w : World)
    (tb : Tb w M S m aA zA aL lL zL aS lS zS) (tk : Tb w M S r aK zK aKL lKL zKL aKS lKS zKS) (hr : 0 < r) :
    Calls Try.prog 24 #[.int .i64 M, .int .i64 S, .slice aA m cA, .slice aL lL cL, .slice aS lS cS, .int .i64 first, .int .i64 M, .int .i64 S, .slice aK r cK, .slice aKL lKL cKL, .slice aKS lKS cKS] w fun e w' =>
      BoolIff (AllCov zA m zK r (CovAt first zA m zK r (Cv M S zL zS zKL zKS))) e ∧ Below w.heap.size w w' := by
  have HT := hid tb
  have HK := hid tk
  have kb := tk.bA
  have tb' := tb.bA
  have e0 : ((r : Int) == 0) = false := by simp; omega
  clear tb tk
  go_enter Try.func24, Try.ntmps24
  go_wp2
  go_loopw [23] (fun i wr => ∃ j : Nat, j ≤ r ∧ i = .int .i64 j ∧ KTo zK (CovAt first zA m zK r (Cv M S zL zS zKL zKS)) j ∧ Below w.heap.size w wr) (fun i _ => r - (intOf i).toNat)
  case atStart => exact ⟨0, Nat.zero_le _, rfl, KTo.zero _ _, Below.refl _ _⟩
  case round =>
    obtain ⟨j, hj, rfl, hto, hbel⟩ := hrel
    have HTo := hid hto
    have HB := hid hbel
    have HTr := hid (HT.out.below hbel)
    have HKr := hid (HK.out.below hbel)
    clear hto hbel
    by_cases hlt : j < r
    · obtain ⟨b, off, rfl, hlt', hc⟩ := HKr.out.sA.cells (by omega)
      have cc := hc j hlt
      clear hc
      go_wp2_with fail
      refine (covered_any _ M S first m r hf _ _ zA _ _ _ zL _ _ _ zS _ _ zK _ _ _ zKL _ _ _ zKS _ HTr.out HKr.out).mono ?_
      rintro e w1 ⟨⟨b1, rfl, hb1⟩, hw1⟩
      have HB1 := hid hb1
      have HW1 := hid (HB.out.trans (hw1.below _))
      clear hb1 hw1
      cases b1
      · have HN := hid (AllCov.notK (zA := zA) (m := m) hlt (fun h => absurd (HB1.out.2 h) (by simp)))
        go_wp2
        go_ret
        exact ⟨BoolIff.no HN.out, HW1.out⟩
      · have HS := hid (HTo.out.step (HB1.out.1 rfl))
        clear HB1
        go_wp2
        go_roundw
        case rel => exact ⟨j + 1, by omega, by go_num, HS.out, HW1.out⟩
        case measure => simp [intOf]; omega
    · have e : j = r := by omega
      subst e
      obtain ⟨b, off, rfl, hlt', hc⟩ := HKr.out.sA.cells (by omega)
      clear hc hlt'
      go_wp2
      go_loopw [24] (fun i wr => ∃ x : Nat, x ≤ m ∧ i = .int .i64 x ∧ ATo zA zK (CovAt first zA m zK j (Cv M S zL zS zKL zKS)) x ∧ Below w.heap.size w wr) (fun i _ => m - (intOf i).toNat)
      case atStart => exact ⟨0, Nat.zero_le _, rfl, ATo.zero _ _ _, HB.out⟩
      case round =>
        obtain ⟨x, hx, rfl, hat, hbel⟩ := hrel
        have HAt := hid hat
        have HB2 := hid hbel
        have HTr2 := hid (HT.out.below hbel)
        have HKr2 := hid (HK.out.below hbel)
        clear hat hbel
        by_cases hlt : x < m
        · obtain ⟨b3, off3, rfl, hlt3, hc3⟩ := HTr2.out.sA.cells (by omega)
          obtain ⟨b4, off4, h4, hlt4, hc4⟩ := HKr2.out.sA.cells (by omega)
          simp only [Option.some.injEq, Addr.mk.injEq, and_true] at h4
          obtain ⟨rfl, rfl⟩ := h4
          have cx := hc3 x hlt
          have c0 := hc4 0 (by omega)
          rw [Nat.add_zero] at c0
          clear hc3 hc4
          by_cases hge : zK[0]?.getD 0 ≤ zA[x]?.getD 0
          · obtain ⟨bv, hbv⟩ := the_bool (CovAt first zA m zK j (Cv M S zL zS zKL zKS) (zA[x]?.getD 0))
            have HBv := hid hbv
            clear hbv
            go_wp2
            go_quiet ((go_at_call 35; exact quiet_bool HBv.out (covered_any _ M S first m j hf _ _ zA _ _ _ zL _ _ _ zS _ _ zK _ _ _ zKL _ _ _ zKS _ (HTr2.out.below (Drawn.below ⟨_, rfl⟩ _)) (HKr2.out.below (Drawn.below ⟨_, rfl⟩ _)))))
            cases bv
            · have HN := hid (AllCov.notA (r := j) hlt hge (fun h => absurd (HBv.out.2 h) (by simp)))
              go_wp2
              go_ret
              exact ⟨BoolIff.no HN.out, below_drewN HB2.out _⟩
            · have HS := hid (HAt.out.step fun _ => HBv.out.1 rfl)
              clear HBv
              go_wp2
              go_roundw
              case rel => exact ⟨x + 1, by omega, by go_num, HS.out, below_drewN HB2.out _⟩
              case measure => simp [intOf]; omega
          · have HS := hid (HAt.out.step fun h => absurd h hge)
            have hgd : decide (zK[0]?.getD 0 ≤ zA[x]?.getD 0) = false := by simpa using hge
            go_wp2
            go_quiet (fail)
            go_wp2
            go_roundw
            case rel => exact ⟨x + 1, by omega, by go_num, HS.out, below_drewN HB2.out _⟩
            case measure => simp [intOf]; omega
        · have e : x = m := by omega
          subst e
          have HY := hid (AllCov.of HTo.out HAt.out)
          go_wp2
          go_ret
          exact ⟨BoolIff.yes HY.out, HB2.out⟩
end Go.Proofs.Qxb6601373a
