/-
  (*floors).over (34).
-/
import Derived.Test.Qxb6601373aOverGo
import Derived.Test.Qxb6601373aFits2
import Derived.Deep.RegionWith
namespace Go.Proofs.Qxb6601373a
open Go.RowKit
set_option linter.unusedVariables false

theorem mul_bd (M m k lL : Nat) (h : lL = M * m) (hb : lL ≤ 131072) (hk : k < m) : 0 ≤ (k : Int) * (M : Int) ∧ (k : Int) * (M : Int) ≤ 131072 ∧ 0 ≤ ((k : Int) + 1) * (M : Int) ∧ ((k : Int) + 1) * (M : Int) ≤ 131072 ∧ M ≤ 131072 := by
  have h1 := Nat.mul_le_mul_right M (show k + 1 ≤ m by omega)
  rw [Nat.mul_comm m] at h1
  have e1 : ((k : Int) + 1) * (M : Int) = (((k + 1) * M : Nat) : Int) := by simp
  have e2 : (k : Int) * (M : Int) = ((k * M : Nat) : Int) := by simp
  have e3 : (k + 1) * M = k * M + M := by rw [Nat.add_mul]; omega
  rw [e1, e2]
  omega

set_option maxRecDepth 100000 in
set_option maxHeartbeats 4000000 in
theorem over_yes (B B' M S first m r : Nat) (hf : (first : Int) ≤ 9223372036854775807) (aA : Option Addr) (cA : Nat) (zA : List Int) (aL : Option Addr) (lL cL : Nat) (zL : List Int) (aS : Option Addr) (lS cS : Nat) (zS : List Int)
    (aK : Option Addr) (cK : Nat) (zK : List Int) (aKL : Option Addr) (lKL cKL : Nat) (zKL : List Int) (aKS : Option Addr) (lKS cKS : Nat) (zKS : List Int) (w : World) (most most' : Int) (first' : Nat)
    (fl : Floors w B M S most (.slice aA m cA) (.slice aL lL cL) (.slice aS lS cS) first) (fk : Floors w B' M S most' (.slice aK r cK) (.slice aKL lKL cKL) (.slice aKS lKS cKS) first')
    (tb : Tb w M S m aA zA aL lL zL aS lS zS) (tk : Tb w M S r aK zK aKL lKL zKL aKS lKS zKS) (hr : 0 < r) (qL : lL ≤ cL) (qS : lS ≤ cS) (qKL : lKL ≤ cKL) (qKS : lKS ≤ cKS) :
    Calls Try.prog 34 #[.pointer (some ⟨B, 0, none⟩), .pointer (some ⟨B', 0, none⟩)] w fun e w' =>
      BoolIff (AllCov zA m zK r (CovAt first zA m zK r (Cv M S zL zS zKL zKS))) e ∧ Below w.heap.size w w' := by
  have HT := hid tb
  have HK := hid tk
  have HFl := hid fl
  have HFk := hid fk
  have kb := tk.bA
  have tb' := tb.bA
  have e0 : ((r : Int) == 0) = false := by simp; omega
  have HstA := hid tb.st
  have HstK := hid tk.st
  obtain ⟨lt, d0, d1, d2, d5, d6, d7, d8⟩ := fl
  obtain ⟨lt', d0', d1', d2', d5', d6', d7', d8'⟩ := fk
  clear tb tk
  go_enter Try.func34, Try.ntmps34
  go_wp2
  go_quiet (fail)
  go_wp2
  clear d0 d1 d2 d5 d6 d7 d8 d0' d1' d2' d5' d6' d7' d8'
  go_loopw [7, 50] (fun k i wr => ∃ (j q : Nat), i = .int .i64 j ∧ k = .int .i64 ((q : Int) - 1) ∧ Out first m r zA zK (CovAt first zA m zK r (Cv M S zL zS zKL zKS)) j q ∧ Below w.heap.size w wr) (fun _ i _ => r - (intOf i).toNat)
  case atStart => exact ⟨0, first, rfl, rfl, Out.start HstK.out hr, below_drewN (Below.refl _ _) _⟩
  case round =>
    obtain ⟨j, q, rfl, rfl, hout, hbel⟩ := hrel
    have HO := hid hout
    have HB := hid hbel
    have hjr := hout.jr
    have hq1 := hout.q1
    have hq2 : (q : Int) ≤ 9223372036854775807 := by have := hout.q2; omega
    clear hout
    by_cases hj : j < r
    · have HI := hid (HO.out.enter HstK.out hj)
      obtain ⟨bK, offK, rfl, hbK, hcK⟩ := HK.out.sA.cells (by omega)
      have cj := (hbel.cell (p := ⟨bK, offK + j, none⟩) hbK).trans (hcK j hj)
      have HcK := hid hcK
      clear hcK hbel
      go_wp2
      go_loopw [7, 9] (fun k t wr => ∃ (q : Nat) (tt : Int), k = .int .i64 ((q : Int) - 1) ∧ t = .int .i64 tt ∧ Inn first m r zA zK (CovAt first zA m zK r (Cv M S zL zS zKL zKS)) j q tt ∧ Below w.heap.size w wr) (fun _ t _ => more zA (intOf t))
      case atStart => exact ⟨q, _, rfl, rfl, by have := HI.out; rwa [List.getD_eq_getElem?_getD] at this, HB.out⟩
      case round =>
        clear HI HO HB cj hq1 hq2
        obtain ⟨q, tt, rfl, rfl, hinn, hbel⟩ := hrel
        have HI := hid hinn
        have HB := hid hbel
        clear hinn hbel
        go_wp2
        go_loopw [7] (fun k wr => ∃ (q : Nat), k = .int .i64 ((q : Int) - 1) ∧ Inn first m r zA zK (CovAt first zA m zK r (Cv M S zL zS zKL zKS)) j q tt ∧ Below w.heap.size w wr) (fun k _ => m - (intOf k + 1).toNat)
        case atStart => exact ⟨q, rfl, HI.out, HB.out⟩
        case round =>
          clear HI HB
          obtain ⟨q, rfl, hinn, hbel⟩ := hrel
          have HI := hid hinn
          have HB := hid hbel
          have hq1 := hinn.q1
          have hq2 : (q : Int) ≤ 9223372036854775807 := by have := hinn.q2; omega
          obtain ⟨lt, d0, d1, d2, d5, d6, d7, d8⟩ := HFl.out.below hbel
          obtain ⟨lt', d0', d1', d2', d5', d6', d7', d8'⟩ := HFk.out.below hbel
          have HT' := hid (HT.out.below hbel)
          have HK' := hid (HK.out.below hbel)
          clear hinn hbel
          by_cases hqm : q < m
          · obtain ⟨bA, offA, rfl, hbA, hcA⟩ := HT'.out.sA.cells (by omega)
            have cq := hcA q hqm
            clear hcA
            by_cases hle : zA[q]?.getD 0 ≤ tt
            · have HI2 := hid (HI.out.adv hqm hle)
              go_wp2
              go_roundw
              case rel => exact ⟨q + 1, by go_num, HI2.out, HB.out⟩
              case measure => simp [intOf]; omega
            · have HE := hid (show Ended m zA q tt from fun _ => by omega)
              by_cases hfq : first < q
              · -- TAIL
                go_wp2
                obtain ⟨k, hqk, hk1⟩ : ∃ k : Nat, (q : Int) - 1 = (k : Int) ∧ q = k + 1 := ⟨q - 1, by omega, by omega⟩
                have HQ := hid hk1
                have hkm : k < m := by have := HI.out.q2; omega
                have Hiff := hid (HI.out.iff HstA.out HE.out hfq)
                have HI2 := hid HI.out
                obtain ⟨aL', cL', hr1, s1⟩ := cut_row aL lL cL zL k M m wr HT'.out.sL qL HT'.out.eL hkm _ _ rfl rfl
                obtain ⟨aS', cS', hr2, s2⟩ := cut_row aS lS cS zS k S m wr HT'.out.sS qS HT'.out.eS hkm _ _ rfl rfl
                obtain ⟨aKL', cKL', hr3, s3⟩ := cut_row aKL lKL cKL zKL j M r wr HK'.out.sL qKL HK'.out.eL hj _ _ rfl rfl
                obtain ⟨aKS', cKS', hr4, s4⟩ := cut_row aKS lKS cKS zKS j S r wr HK'.out.sS qKS HK'.out.eS hj _ _ rfl rfl
                have S1 := hid s1
                have S2 := hid s2
                have S3 := hid s3
                have S4 := hid s4
                obtain ⟨m1, m2, m3, m4, bM⟩ := mul_bd M m k lL HT'.out.eL HT'.out.bL hkm
                obtain ⟨m5, m6, m7, m8, bS⟩ := mul_bd S m k lS HT'.out.eS HT'.out.bS hkm
                obtain ⟨n1, n2, n3, n4, _⟩ := mul_bd M r j lKL HK'.out.eL HK'.out.bL hj
                obtain ⟨n5, n6, n7, n8, _⟩ := mul_bd S r j lKS HK'.out.eS HK'.out.bS hj
                obtain ⟨b1, hb1⟩ := the_bool (GeL (seg zL k M) (seg zKL j M) M)
                obtain ⟨b2, hb2⟩ := the_bool (GeL (seg zS k S) (seg zKS j S) S)
                have HB1 := hid hb1
                have HB2 := hid hb2
                clear s1 s2 s3 s4 hb1 hb2
                have hq0' : q - 1 = k := by omega
                rw [hq0'] at Hiff
                clear hq0'
                have HP : Hid (CovAt first zA m zK r (Cv M S zL zS zKL zKS) tt ↔ b1 = true ∧ b2 = true) := by
                  refine Hiff.out.trans ?_
                  rw [HB1.out, HB2.out, GeL_seg, GeL_seg]
                  exact Iff.rfl
                clear HI2 hk1 Hiff
                cases b1
                · have HN := hid (HI.out.no fun h => by have := HP.out.1 h; simp at this)
                  clear HP HB2
                  go_quiet ((first | (go_at_call_of 38 (Value.slice aL' M cL'); exact quiet_bool HB1.out (noFewer_any aL' cL' (seg zL k M) aKL' cKL' (seg zKL j M) M _ bM (S1.out.below (Drawn.below ⟨_, rfl⟩ _)) (S3.out.below (Drawn.below ⟨_, rfl⟩ _)))) | (go_at_call_of 38 (Value.slice aS' S cS'); exact quiet_bool HB2.out (noFewer_any aS' cS' (seg zS k S) aKS' cKS' (seg zKS j S) S _ bS (S2.out.below (Drawn.below ⟨_, rfl⟩ _)) (S4.out.below (Drawn.below ⟨_, rfl⟩ _))))))
                  go_wp2
                  go_ret
                  exact ⟨BoolIff.no HN.out, below_drewN HB.out _⟩
                cases b2
                · have HN := hid (HI.out.no fun h => by have := HP.out.1 h; simp at this)
                  clear HP
                  go_quiet ((first | (go_at_call_of 38 (Value.slice aL' M cL'); exact quiet_bool HB1.out (noFewer_any aL' cL' (seg zL k M) aKL' cKL' (seg zKL j M) M _ bM (S1.out.below (Drawn.below ⟨_, rfl⟩ _)) (S3.out.below (Drawn.below ⟨_, rfl⟩ _)))) | (go_at_call_of 38 (Value.slice aS' S cS'); exact quiet_bool HB2.out (noFewer_any aS' cS' (seg zS k S) aKS' cKS' (seg zKS j S) S _ bS (S2.out.below (Drawn.below ⟨_, rfl⟩ _)) (S4.out.below (Drawn.below ⟨_, rfl⟩ _))))))
                  go_wp2
                  go_ret
                  exact ⟨BoolIff.no HN.out, below_drewN HB.out _⟩
                have HPt := hid (HP.out.2 ⟨rfl, rfl⟩)
                clear HP
                have cq' : wr.cell? ⟨bA, offA + (k + 1), none⟩ = some (.int .i64 (zA.getD q 0)) := by rw [← HQ.out]; exact cq
                have hkm1 : (k : Int) + 1 < (m : Int) := by have := HQ.out; omega
                have hkme : ((k : Int) + 1 == (m : Int)) = false := by have := HQ.out; simp; omega
                by_cases hj1 : j + 1 < r
                · have ck := ((Below.cell (B := w.heap.size) HB.out (p := ⟨bK, offK + (j + 1), none⟩) hbK)).trans (HcK.out (j + 1) hj1)
                  have hj1' : (j : Int) + 1 < (r : Int) := by omega
                  by_cases hge : zK[j + 1]?.getD 0 ≤ zA[q]?.getD 0
                  · have HO := hid (HI.out.next HstA.out HstK.out HE.out hfq HPt.out (.inr ⟨hj1, hge⟩))
                    go_quiet ((first | (go_at_call_of 38 (Value.slice aL' M cL'); exact quiet_bool HB1.out (noFewer_any aL' cL' (seg zL k M) aKL' cKL' (seg zKL j M) M _ bM (S1.out.below (Drawn.below ⟨_, rfl⟩ _)) (S3.out.below (Drawn.below ⟨_, rfl⟩ _)))) | (go_at_call_of 38 (Value.slice aS' S cS'); exact quiet_bool HB2.out (noFewer_any aS' cS' (seg zS k S) aKS' cKS' (seg zKS j S) S _ bS (S2.out.below (Drawn.below ⟨_, rfl⟩ _)) (S4.out.below (Drawn.below ⟨_, rfl⟩ _))))))
                    go_wp2
                    go_quiet (fail)
                    go_wp2
                    go_roundw
                    case rel => exact ⟨j + 1, q, by go_num, by go_num, HO.out, below_drewN HB.out _⟩
                    case measure => simp [intOf]; omega
                  · have HI2 := hid (HI.out.go HstA.out HstK.out HE.out hfq HPt.out hqm (fun _ => by omega))
                    have HM := hid (more_lt (HE.out hqm) (get_mem HT'.out.sA.length hqm))
                    have hged : decide (zK[j + 1]?.getD 0 ≤ zA[q]?.getD 0) = false := by simpa using hge
                    go_quiet ((first | (go_at_call_of 38 (Value.slice aL' M cL'); exact quiet_bool HB1.out (noFewer_any aL' cL' (seg zL k M) aKL' cKL' (seg zKL j M) M _ bM (S1.out.below (Drawn.below ⟨_, rfl⟩ _)) (S3.out.below (Drawn.below ⟨_, rfl⟩ _)))) | (go_at_call_of 38 (Value.slice aS' S cS'); exact quiet_bool HB2.out (noFewer_any aS' cS' (seg zS k S) aKS' cKS' (seg zKS j S) S _ bS (S2.out.below (Drawn.below ⟨_, rfl⟩ _)) (S4.out.below (Drawn.below ⟨_, rfl⟩ _))))))
                    go_wp2
                    go_quiet (fail)
                    go_wp2
                    go_roundw
                    case rel => exact ⟨q, _, by go_num, rfl, HI2.out, below_drewN HB.out _⟩
                    case measure => exact HM.out
                · have HI2 := hid (HI.out.go HstA.out HstK.out HE.out hfq HPt.out hqm (fun h => absurd h hj1))
                  have HM := hid (more_lt (HE.out hqm) (get_mem HT'.out.sA.length hqm))
                  have hj1d : decide ((j : Int) + 1 < (r : Int)) = false := by simp; omega
                  go_quiet ((first | (go_at_call_of 38 (Value.slice aL' M cL'); exact quiet_bool HB1.out (noFewer_any aL' cL' (seg zL k M) aKL' cKL' (seg zKL j M) M _ bM (S1.out.below (Drawn.below ⟨_, rfl⟩ _)) (S3.out.below (Drawn.below ⟨_, rfl⟩ _)))) | (go_at_call_of 38 (Value.slice aS' S cS'); exact quiet_bool HB2.out (noFewer_any aS' cS' (seg zS k S) aKS' cKS' (seg zKS j S) S _ bS (S2.out.below (Drawn.below ⟨_, rfl⟩ _)) (S4.out.below (Drawn.below ⟨_, rfl⟩ _))))))
                  go_wp2
                  go_quiet (fail)
                  go_wp2
                  go_roundw
                  case rel => exact ⟨q, _, by go_num, rfl, HI2.out, below_drewN HB.out _⟩
                  case measure => exact HM.out
              · have HN := hid (HI.out.low HstA.out HE.out hfq)
                go_wp2
                go_ret
                exact ⟨BoolIff.no HN.out, HB.out⟩
          · have HE := hid (show Ended m zA q tt from fun h => absurd h hqm)
            by_cases hfq : first < q
            · -- TAIL
              go_wp2
              obtain ⟨k, hqk, hk1⟩ : ∃ k : Nat, (q : Int) - 1 = (k : Int) ∧ q = k + 1 := ⟨q - 1, by omega, by omega⟩
              have HQ := hid hk1
              have hkm : k < m := by have := HI.out.q2; omega
              have Hiff := hid (HI.out.iff HstA.out HE.out hfq)
              have HI2 := hid HI.out
              obtain ⟨aL', cL', hr1, s1⟩ := cut_row aL lL cL zL k M m wr HT'.out.sL qL HT'.out.eL hkm _ _ rfl rfl
              obtain ⟨aS', cS', hr2, s2⟩ := cut_row aS lS cS zS k S m wr HT'.out.sS qS HT'.out.eS hkm _ _ rfl rfl
              obtain ⟨aKL', cKL', hr3, s3⟩ := cut_row aKL lKL cKL zKL j M r wr HK'.out.sL qKL HK'.out.eL hj _ _ rfl rfl
              obtain ⟨aKS', cKS', hr4, s4⟩ := cut_row aKS lKS cKS zKS j S r wr HK'.out.sS qKS HK'.out.eS hj _ _ rfl rfl
              have S1 := hid s1
              have S2 := hid s2
              have S3 := hid s3
              have S4 := hid s4
              obtain ⟨m1, m2, m3, m4, bM⟩ := mul_bd M m k lL HT'.out.eL HT'.out.bL hkm
              obtain ⟨m5, m6, m7, m8, bS⟩ := mul_bd S m k lS HT'.out.eS HT'.out.bS hkm
              obtain ⟨n1, n2, n3, n4, _⟩ := mul_bd M r j lKL HK'.out.eL HK'.out.bL hj
              obtain ⟨n5, n6, n7, n8, _⟩ := mul_bd S r j lKS HK'.out.eS HK'.out.bS hj
              obtain ⟨b1, hb1⟩ := the_bool (GeL (seg zL k M) (seg zKL j M) M)
              obtain ⟨b2, hb2⟩ := the_bool (GeL (seg zS k S) (seg zKS j S) S)
              have HB1 := hid hb1
              have HB2 := hid hb2
              clear s1 s2 s3 s4 hb1 hb2
              have hq0' : q - 1 = k := by omega
              rw [hq0'] at Hiff
              clear hq0'
              have HP : Hid (CovAt first zA m zK r (Cv M S zL zS zKL zKS) tt ↔ b1 = true ∧ b2 = true) := by
                refine Hiff.out.trans ?_
                rw [HB1.out, HB2.out, GeL_seg, GeL_seg]
                exact Iff.rfl
              clear HI2 hk1 Hiff
              cases b1
              · have HN := hid (HI.out.no fun h => by have := HP.out.1 h; simp at this)
                clear HP HB2
                go_quiet ((first | (go_at_call_of 38 (Value.slice aL' M cL'); exact quiet_bool HB1.out (noFewer_any aL' cL' (seg zL k M) aKL' cKL' (seg zKL j M) M _ bM (S1.out.below (Drawn.below ⟨_, rfl⟩ _)) (S3.out.below (Drawn.below ⟨_, rfl⟩ _)))) | (go_at_call_of 38 (Value.slice aS' S cS'); exact quiet_bool HB2.out (noFewer_any aS' cS' (seg zS k S) aKS' cKS' (seg zKS j S) S _ bS (S2.out.below (Drawn.below ⟨_, rfl⟩ _)) (S4.out.below (Drawn.below ⟨_, rfl⟩ _))))))
                go_wp2
                go_ret
                exact ⟨BoolIff.no HN.out, below_drewN HB.out _⟩
              cases b2
              · have HN := hid (HI.out.no fun h => by have := HP.out.1 h; simp at this)
                clear HP
                go_quiet ((first | (go_at_call_of 38 (Value.slice aL' M cL'); exact quiet_bool HB1.out (noFewer_any aL' cL' (seg zL k M) aKL' cKL' (seg zKL j M) M _ bM (S1.out.below (Drawn.below ⟨_, rfl⟩ _)) (S3.out.below (Drawn.below ⟨_, rfl⟩ _)))) | (go_at_call_of 38 (Value.slice aS' S cS'); exact quiet_bool HB2.out (noFewer_any aS' cS' (seg zS k S) aKS' cKS' (seg zKS j S) S _ bS (S2.out.below (Drawn.below ⟨_, rfl⟩ _)) (S4.out.below (Drawn.below ⟨_, rfl⟩ _))))))
                go_wp2
                go_ret
                exact ⟨BoolIff.no HN.out, below_drewN HB.out _⟩
              have HPt := hid (HP.out.2 ⟨rfl, rfl⟩)
              clear HP
              have hkme : ((k : Int) + 1 == (m : Int)) = true := by have := HQ.out; simp; omega
              have HO := hid (HI.out.next HstA.out HstK.out HE.out hfq HPt.out (.inl (by omega)))
              go_quiet ((first | (go_at_call_of 38 (Value.slice aL' M cL'); exact quiet_bool HB1.out (noFewer_any aL' cL' (seg zL k M) aKL' cKL' (seg zKL j M) M _ bM (S1.out.below (Drawn.below ⟨_, rfl⟩ _)) (S3.out.below (Drawn.below ⟨_, rfl⟩ _)))) | (go_at_call_of 38 (Value.slice aS' S cS'); exact quiet_bool HB2.out (noFewer_any aS' cS' (seg zS k S) aKS' cKS' (seg zKS j S) S _ bS (S2.out.below (Drawn.below ⟨_, rfl⟩ _)) (S4.out.below (Drawn.below ⟨_, rfl⟩ _))))))
              go_wp2
              go_quiet (fail)
              go_wp2
              go_roundw
              case rel => exact ⟨j + 1, q, by go_num, by go_num, HO.out, below_drewN HB.out _⟩
              case measure => simp [intOf]; omega
            · have HN := hid (HI.out.low HstA.out HE.out hfq)
              go_wp2
              go_ret
              exact ⟨BoolIff.no HN.out, HB.out⟩
    · have e : j = r := by omega
      subst e
      have HY := hid (HO.out.fin rfl)
      clear hbel
      go_wp2
      go_ret
      exact ⟨BoolIff.yes HY.out, HB.out⟩
end Go.Proofs.Qxb6601373a
