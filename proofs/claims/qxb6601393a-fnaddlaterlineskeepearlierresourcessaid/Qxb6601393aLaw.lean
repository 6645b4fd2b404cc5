/-
  The law (4), walked.
-/
import Derived.Test.Qxb6601393aHelp
namespace Go.Proofs.Qxb6601393a
open Go.RowKit Go.ChangeMaps Go.MapKept
set_option linter.unusedVariables false

set_option maxRecDepth 100000 in
set_option maxHeartbeats 16000000 in
theorem law_any (w0 : World) (a : Option Addr) (len cap : Nat) (f : Nat → ByteArray × ByteArray) (cut : Int) (h : Stp w0 a len f) (hlen : len ≤ maxLen) (hn0 : a = none → len = 0) :
    Calls Try.prog 4 #[.slice a len cap, .int .i64 cut] w0 fun e w' => Ends w0 e w' := by
  have H0 := hid h
  have HN := hid hn0
  have HL := hid hlen
  have hm : maxLen = 9223372036854775807 := rfl
  rw [hm] at hlen
  clear h hn0
  go_enter Try.func4, Try.ntmps4
  go_wp2_with fail
  refine (bytes_any _ a len cap f cut H0.out HL.out).mono ?_
  rintro e w ⟨b, rfl, hb0⟩
  have HB0 := hid hb0
  have H := hid (H0.out.below hb0)
  have HS0 := hid hb0.size
  clear H0 hb0
  cases b with
  | false =>
    go_wp2
    go_ret
    exact ⟨rfl, HB0.out⟩
  | true =>
  by_cases hl : len ≤ 4096
  case neg =>
    go_wp2
    go_ret
    exact ⟨rfl, HB0.out⟩
  go_wp2
  go_loopw [5, 6] (fun s c wr => ∃ x k : Nat, x ≤ 1048576 ∧ k ≤ len ∧ s = .int .i64 x ∧ c = .int .i64 k ∧ Below w.heap.size w wr) (fun _ c _ => len - (intOf c).toNat)
  case atStart => exact ⟨0, 0, by omega, Nat.zero_le _, rfl, rfl, Below.refl _ _⟩
  case round =>
    obtain ⟨x, k, hx, hk, rfl, rfl, hbel⟩ := hrel
    have HB := hid hbel
    by_cases hlt : k < len
    · obtain ⟨b, off, rfl, hb, hc⟩ := H.out.cells (by omega)
      have c1 := (hbel.cell (p := ⟨b, off + k * 2, none⟩) hb).trans (hc k hlt).1
      have c2 := (hbel.cell (p := ⟨b, off + k * 2 + 1, none⟩) hb).trans (hc k hlt).2
      obtain ⟨z1, z2⟩ := H.out.sz k hlt
      rw [hm] at z1 z2
      generalize f k = q at c1 c2 z1 z2
      obtain ⟨p, t⟩ := q
      simp only at c1 c2 z1 z2
      clear hc hm hbel
      by_cases d1 : p.size ≤ 1048576
      · by_cases d3 : t.size ≤ 1048576
        · by_cases d4 : x + (32 + p.size + t.size) ≤ 1048576
          · go_wp2
            go_quiet (fail)
            go_wp2
            go_roundw
            case rel => exact ⟨x + (32 + p.size + t.size), k + 1, d4, by omega, by go_num, by go_num, below_drewN HB.out _⟩
            case measure => simp [intOf]; omega
          · go_wp2
            go_quiet (fail)
            go_wp2
            go_ret
            exact ⟨rfl, nextB HB0.out HS0.out (below_drewN HB.out _)⟩
        · go_wp2
          go_ret
          exact ⟨rfl, nextB HB0.out HS0.out HB.out⟩
      · go_wp2
        go_ret
        exact ⟨rfl, nextB HB0.out HS0.out HB.out⟩
    · have H1 := hid (H.out.below hbel)
      have HB1 := hid (nextB HB0.out HS0.out hbel)
      have HS1 := hid HB1.out.size
      clear hbel HB HB0 HS0 H hm
      by_cases u1 : 0 ≤ cut
      case neg =>
        go_wp2
        go_ret
        exact ⟨rfl, HB1.out⟩
      by_cases u2 : cut ≤ (len : Int)
      case neg =>
        go_wp2
        go_ret
        exact ⟨rfl, HB1.out⟩
      obtain ⟨ct, rfl⟩ : ∃ ct : Nat, cut = ct := ⟨cut.toNat, by omega⟩
      have hct : ct ≤ len := by omega
      clear u1 u2
      go_wp2_with fail
      refine (copy_any _ a len cap f H1.out hl HN.out).mono ?_
      rintro e w2 ⟨a2, cp2, rfl, hs2, hb2⟩
      have H2 := hid hs2
      have HB2 := hid (nextB HB1.out HS1.out hb2)
      have HS2 := hid HB2.out.size
      clear hs2 hb2 HB1 HS1 H1
      go_wp2_with fail
      refine (new_any _).mono ?_
      rintro e w3 ⟨A, rfl, hsA, hb3, hs3⟩
      have HA := hid hsA
      have HBA := hid hb3
      clear hsA hb3 hs3
      go_wp2
      clear hx hk hlt
      go_loopw [9] (fun c wr => ∃ k : Nat, k ≤ ct ∧ c = .int .i64 k ∧ Smp wr w2.heap.size A k (runA f k) ∧ Below w2.heap.size w2 wr) (fun c _ => ct - (intOf c).toNat)
      case atStart => exact ⟨0, Nat.zero_le _, rfl, HA.out, HBA.out⟩
      case round =>
        obtain ⟨k, hk, rfl, hsm, hbel⟩ := hrel
        have HSM := hid hsm
        have HB := hid hbel
        clear HA HBA hsm
        by_cases hlt : k < ct
        · obtain ⟨b, off, rfl, hblt, c1, c2⟩ := H2.out.at hbel (show k < len by omega)
          have HZ := hid (H2.out.sz k (by omega)).1
          have HE := hid (show runA f (k + 1) = addA (runA f k) (f k).1 (f k).2 (k : Int) from rfl)
          generalize f k = q at c1 c2 HZ HE
          obtain ⟨p, t⟩ := q
          simp only at c1 c2 HZ HE
          have hkl : k < len := by omega
          clear hbel
          go_wp2
          go_region_held3 (fun w' => w'.cell? ⟨b, off + k * 2, none⟩ = some (.string p) ∧ w'.cell? ⟨b, off + k * 2 + 1, none⟩ = some (.string t)) (first | assumption | go_keep) (first | (go_at_call 9; refine (zzadd_any wr.drew w2.heap.size A k (runA f k) (HSM.out.below ⟨rfl, rfl, rfl, Nat.le_refl _, fun _ _ => rfl⟩) HB.out.size (by omega) p t HZ.out k).mono ?_; rintro e w5 ⟨rfl, hs5, hb5⟩; have c3 := (hb5.cell (p := ⟨b, off + k * 2, none⟩) hblt).trans c1; have c4 := (hb5.cell (p := ⟨b, off + k * 2 + 1, none⟩) hblt).trans c2))
          all_goals
            have HS5 := hid hs5
            have HB5 := hid hb5
            clear hs5 hb5 c1 c2 c3 c4
            go_wp2
            go_roundw
            case rel => exact ⟨k + 1, by omega, by go_num, by rw [HE.out]; exact HS5.out, HB.out.trans ⟨HB5.out.os, HB5.out.tape, HB5.out.output, HB5.out.size, HB5.out.block⟩⟩
            case measure => simp [intOf]; omega
        · have e : ct = k := by omega
          subst e
          obtain ⟨w3', hw3⟩ : ∃ x, x = wr := ⟨_, rfl⟩
          subst hw3
          have HA3 := hid HSM.out
          have H3 := hid (H2.out.below hbel)
          have HB3 := hid (nextB HB2.out HS2.out hbel)
          have HS3 := hid HB3.out.size
          clear hbel HB HSM H2 HB2 HS2 hk hlt
          go_wp2_with fail
          refine (new_any _).mono ?_
          rintro e w4 ⟨B, rfl, hsB, hb4, hs4⟩
          have HBn := hid hsB
          have HBB := hid hb4
          clear hsB hb4 hs4
          go_wp2
          go_loopw [11] (fun c wr => ∃ k : Nat, k ≤ len ∧ c = .int .i64 k ∧ Smp wr w3'.heap.size B k (runA f k) ∧ Below w3'.heap.size w3' wr) (fun c _ => len - (intOf c).toNat)
          case atStart => exact ⟨0, Nat.zero_le _, rfl, HBn.out, HBB.out⟩
          case round =>
            obtain ⟨k, hk, rfl, hsm, hbel⟩ := hrel
            have HSM := hid hsm
            have HB := hid hbel
            clear HBn HBB hsm
            by_cases hlt : k < len
            · obtain ⟨b, off, rfl, hblt, c1, c2⟩ := H3.out.at hbel hlt
              have HZ := hid (H3.out.sz k (by omega)).1
              have HE := hid (show runA f (k + 1) = addA (runA f k) (f k).1 (f k).2 (k : Int) from rfl)
              generalize f k = q at c1 c2 HZ HE
              obtain ⟨p, t⟩ := q
              simp only at c1 c2 HZ HE
              clear hbel
              go_wp2
              go_region_held3 (fun w' => w'.cell? ⟨b, off + k * 2, none⟩ = some (.string p) ∧ w'.cell? ⟨b, off + k * 2 + 1, none⟩ = some (.string t)) (first | assumption | go_keep) (first | (go_at_call 9; refine (zzadd_any wr.drew w3'.heap.size B k (runA f k) (HSM.out.below ⟨rfl, rfl, rfl, Nat.le_refl _, fun _ _ => rfl⟩) HB.out.size (by omega) p t HZ.out k).mono ?_; rintro e w5 ⟨rfl, hs5, hb5⟩; have c3 := (hb5.cell (p := ⟨b, off + k * 2, none⟩) hblt).trans c1; have c4 := (hb5.cell (p := ⟨b, off + k * 2 + 1, none⟩) hblt).trans c2))
              all_goals
                have HS5 := hid hs5
                have HB5 := hid hb5
                clear hs5 hb5 c1 c2 c3 c4
                go_wp2
                go_roundw
                case rel => exact ⟨k + 1, by omega, by go_num, by rw [HE.out]; exact HS5.out, HB.out.trans ⟨HB5.out.os, HB5.out.tape, HB5.out.output, HB5.out.size, HB5.out.block⟩⟩
                case measure => simp [intOf]; omega
            · have e : len = k := by omega
              subst e
              obtain ⟨w6, hw6⟩ : ∃ x, x = wr := ⟨_, rfl⟩
              subst hw6
              have HB6 := hid (nextB HB3.out HS3.out hbel)
              have HS6 := hid HB6.out.size
              have H6 := hid (H3.out.below hbel)
              have HA6 := hid (HA3.out.below hbel)
              have HX6 := hid HSM.out
              have ⟨hext, hcnt⟩ := ext_at f hct
              clear hbel HB HSM H3 HA3 HB3 HS3 hk hlt
              generalize runA f ct = sa at HA6 hext hcnt
              generalize runA f len = sb at HX6 hext hcnt
              have n1 := hext.len
              have n2 := HA6.out.len.1
              have n3 := HX6.out.len.1
              have n4 := hext.cnt
              have HEXT := hid hext
              have q1 : decide (sb.1.length < sa.1.length) = false := by simp; omega
              have q2 : decide ((sb.1.length : Int) < (sa.1.length : Int)) = false := by simp; omega
              have q3 : decide ((len : Int) - (ct : Int) < (sb.1.length : Int) - (sa.1.length : Int)) = false := by simp; omega
              clear hext
              go_wp2_with fail
              refine (count_any _ _ A ct sa HA6.out).mono ?_
              rintro e _ ⟨rfl, rfl⟩
              go_wp2_with fail
              refine (count_any _ _ B len sb HX6.out).mono ?_
              rintro e _ ⟨rfl, rfl⟩
              go_wp2
              clear hcnt q3
              go_loopw [14] (fun c wr => ∃ k : Nat, k ≤ sa.1.length ∧ c = .int .i64 k ∧ Below w6.heap.size w6 wr) (fun c _ => sa.1.length - (intOf c).toNat)
              case atStart => exact ⟨0, Nat.zero_le _, rfl, Below.refl _ _⟩
              case round =>
                obtain ⟨k, hk, rfl, hbel⟩ := hrel
                have HB := hid hbel
                clear hbel
                by_cases hlt : k < sa.1.length
                · obtain ⟨x, hx⟩ : ∃ x, sa.1[k]? = some x := ⟨_, List.getElem?_eq_getElem hlt⟩
                  obtain ⟨y, hy, hyx, hpre⟩ := HEXT.out.res k x hx
                  have m1 := HA6.out.bnd hx
                  have m2 := HX6.out.bnd hy
                  have m3 := hpre.length_le
                  have HPRE := hid hpre
                  have HX := hid hx
                  have HY := hid hy
                  clear hx hy hpre
                  obtain ⟨xa, xt⟩ := x
                  obtain ⟨ya, yt⟩ := y
                  simp only at hyx m1 m2 m3 HPRE
                  subst hyx
                  have q4 : decide (yt.length < xt.length) = false := by simp; omega
                  have q5 : decide ((yt.length : Int) < (xt.length : Int)) = false := by simp; omega
                  obtain ⟨w7, hw7⟩ : ∃ x, x = wr := ⟨_, rfl⟩
                  subst hw7
                  go_wp2_with fail
                  refine (res_any _ _ A ct sa (HA6.out.below HB.out) (by omega) k _ HX.out).mono ?_
                  rintro e w8 ⟨ra, rca, rfl, hsl8, hb8⟩
                  have HSL8 := hid hsl8
                  have HB8 := hid (nextB HB.out HB.out.size hb8)
                  clear hsl8 hb8 HX
                  go_wp2_with fail
                  refine (res_any _ _ B len sb (HX6.out.below HB8.out) (by omega) k _ HY.out).mono ?_
                  rintro e w9 ⟨rb, rcb, rfl, hsl9, hb9⟩
                  have HSLB := hid hsl9
                  have HSLA := hid (HSL8.out.below hb9)
                  have HB9 := hid (nextB HB8.out HB8.out.size hb9)
                  clear hsl9 hb9 HSL8 HB8 HY
                  go_wp2
                  go_loopw [21] (fun c wr => ∃ j : Nat, j ≤ xt.length ∧ c = .int .i64 j ∧ Below w9.heap.size w9 wr) (fun c _ => xt.length - (intOf c).toNat)
                  case atStart => exact ⟨0, Nat.zero_le _, rfl, Below.refl _ _⟩
                  case round =>
                    obtain ⟨j, hj, rfl, hbel⟩ := hrel
                    have HBJ := hid hbel
                    by_cases hjl : j < xt.length
                    · obtain ⟨b, off, rfl, c1⟩ := HSLA.out.at hbel hjl
                      obtain ⟨b', off', rfl, c2⟩ := HSLB.out.at hbel (show j < yt.length by omega)
                      have hjy : j < yt.length := by omega
                      rw [pre_getD HPRE.out hjl] at c2
                      generalize xt.getD j 0 = v at c1 c2
                      clear hbel
                      go_wp2
                      go_quiet (fail)
                      go_wp2
                      go_roundw
                      case rel => exact ⟨j + 1, by omega, by go_num, below_drewN HBJ.out _⟩
                      case measure => simp [intOf]; omega
                    · clear hbel
                      go_wp2
                      go_roundw
                      case rel => exact ⟨k + 1, by omega, by go_num, nextB HB9.out HB9.out.size HBJ.out⟩
                      case measure => simp [intOf]; omega
                · go_wp2
                  clear q1 q2 hlt hk
                  go_loopw [22] (fun c wr => ∃ k : Nat, k ≤ ct ∧ c = .int .i64 k ∧ Below w6.heap.size w6 wr) (fun c _ => ct - (intOf c).toNat)
                  case atStart => exact ⟨0, Nat.zero_le _, rfl, HB.out⟩
                  case round =>
                    obtain ⟨i, hi, rfl, hbel⟩ := hrel
                    have HBI := hid hbel
                    clear hbel HB
                    by_cases hlt : i < ct
                    · obtain ⟨w7, hw7⟩ : ∃ x, x = wr := ⟨_, rfl⟩
                      subst hw7
                      go_wp2_with fail
                      refine (seen_any _ a2 len cp2 f i (H6.out.below HBI.out) hl (by omega)).mono ?_
                      rintro e w8 ⟨bs, rfl, hb8⟩
                      have HB8 := hid (nextB HBI.out HBI.out.size hb8)
                      clear hb8
                      cases bs with
                      | true =>
                        go_wp2
                        go_roundw
                        case rel => exact ⟨i + 1, by omega, by go_num, HB8.out⟩
                        case measure => simp [intOf]; omega
                      | false =>
                      obtain ⟨b, off, rfl, hblt, c1, _⟩ := H6.out.at HB8.out (show i < len by omega)
                      have hil : i < len := by omega
                      have HZ := hid (H6.out.sz i hil).1
                      have hb8s := Nat.lt_of_lt_of_le hblt HB8.out.size
                      generalize (f i).1 = p at c1 HZ
                      have hpre := HEXT.out.pth p
                      have m1 := HA6.out.idxn p
                      have m2 := HX6.out.idxn p
                      have HCA := hid (plc_any w8 _ A ct sa (HA6.out.below HB8.out) (by omega) p HZ.out)
                      have HCB := hid fun (w9 : World) (h9 : Below w6.heap.size w6 w9) => plc_any w9 _ B len sb (HX6.out.below h9) hl p HZ.out
                      generalize idxOf sa.2 p = la at hpre m1 HCA
                      generalize idxOf sb.2 p = lb at hpre m2 HCB
                      have m3 := hpre.length_le
                      have HPRE := hid (pre_ints hpre)
                      have q4 : decide (lb.length < la.length) = false := by simp; omega
                      have q5 : decide ((lb.length : Int) < (la.length : Int)) = false := by simp; omega
                      clear hpre
                      go_wp2_with fail
                      refine HCA.out.mono ?_
                      rintro e w9 ⟨pa, pca, rfl, hsl9, hb9⟩
                      have HSL9 := hid hsl9
                      have HB9 := hid (nextB HB8.out HB8.out.size hb9)
                      have c3 := (hb9.cell (p := ⟨b, off + i * 2, none⟩) hb8s).trans c1
                      clear hsl9 hb9 c1 HCA
                      go_wp2_with fail
                      refine (HCB.out _ HB9.out).mono ?_
                      rintro e w10 ⟨pb, pcb, rfl, hsl10, hb10⟩
                      have HSLB := hid hsl10
                      have HSLA := hid (HSL9.out.below hb10)
                      have HB10 := hid (nextB HB9.out HB9.out.size hb10)
                      clear hsl10 hb10 c3 HSL9 HCB HB8 HB9
                      go_wp2
                      go_loopw [25] (fun c wr => ∃ j : Nat, j ≤ la.length ∧ c = .int .i64 j ∧ Below w10.heap.size w10 wr) (fun c _ => la.length - (intOf c).toNat)
                      case atStart => exact ⟨0, Nat.zero_le _, rfl, Below.refl _ _⟩
                      case round =>
                        obtain ⟨j, hj, rfl, hbel⟩ := hrel
                        have HBJ := hid hbel
                        by_cases hjl : j < la.length
                        · obtain ⟨g, o, rfl, c1⟩ := HSLA.out.at hbel hjl
                          obtain ⟨g', o', rfl, c2⟩ := HSLB.out.at hbel (show j < lb.length by omega)
                          have hjy : j < lb.length := by omega
                          rw [pre_getD HPRE.out (by simpa [intsOf] using hjl)] at c2
                          generalize (intsOf la).getD j 0 = v at c1 c2
                          clear hbel
                          go_wp2
                          go_quiet (fail)
                          go_wp2
                          go_roundw
                          case rel => exact ⟨j + 1, by omega, by go_num, below_drewN HBJ.out _⟩
                          case measure => simp [intOf]; omega
                        · clear hbel
                          go_wp2
                          go_roundw
                          case rel => exact ⟨i + 1, by omega, by go_num, nextB HB10.out HB10.out.size HBJ.out⟩
                          case measure => simp [intOf]; omega
                    · have q6 : decide ((sa.2.length : Int) ≤ (sb.2.length : Int)) = true := by simp; omega
                      have q7 : decide (sa.2.length ≤ sb.2.length) = true := by simp; omega
                      go_wp2_with fail
                      refine (pcount_any _ _ A ct sa (HA6.out.below HBI.out)).mono ?_
                      rintro e _ ⟨rfl, rfl⟩
                      go_wp2_with fail
                      refine (pcount_any _ _ B len sb (HX6.out.below HBI.out)).mono ?_
                      rintro e _ ⟨rfl, rfl⟩
                      go_wp2
                      go_ret
                      exact ⟨rfl, nextB HB6.out HS6.out HBI.out⟩
end Go.Proofs.Qxb6601393a
