/-
  The readers: ZZResourceCount (10), ZZPathCount (14), ZZResource (11), ZZPathPlaces (13).
-/
import Derived.Test.Qxb6601393aAddAll
import Derived.Deep.OwnRows
namespace Go.Proofs.Qxb6601393a
open Go.RowKit Go.ChangeMaps Go.MapKept
set_option linter.unusedVariables false

/-- The slice value at 'a' of 'len' ints reads as the list 'zs'. -/
structure Sl (w : World) (a : Option Addr) (len : Nat) (zs : List Int) : Prop where
  length : zs.length = len
  cells : 0 < len → ∃ b off, a = some ⟨b, off, none⟩ ∧ b < w.heap.size ∧ ∀ i, i < len → w.cell? ⟨b, off + i, none⟩ = some (.int .i64 (zs.getD i 0))
theorem Sl.below {w w' : World} {a : Option Addr} {len : Nat} {zs : List Int} (h : Sl w a len zs) (hb : Below w.heap.size w w') : Sl w' a len zs := by
  refine ⟨h.length, fun h0 => ?_⟩
  obtain ⟨b, off, ha, hlt, hc⟩ := h.cells h0
  exact ⟨b, off, ha, Nat.lt_of_lt_of_le hlt hb.size, fun i hi => (hb.cell (p := ⟨b, off + i, none⟩) hlt).trans (hc i hi)⟩

def fcl (zs : List Int) (k : Nat) (j : Nat) : Value := if j < k then .int .i64 (zs.getD j 0) else .int .i64 0
theorem fcl_zero (zs : List Int) : (fun _ => Value.int .i64 0) = fcl zs 0 := by funext j; simp [fcl]
theorem fcl_step (zs : List Int) (k : Nat) : ∀ j, (if j = k then Value.int .i64 (zs.getD k 0) else fcl zs k j) = fcl zs (k + 1) j := by
  intro j
  unfold fcl
  by_cases h : j = k
  · subst h; simp
  · by_cases h' : j < k
    · have : j < k + 1 := by omega
      simp [h, h', this]
    · have : ¬ j < k + 1 := by omega
      simp [h, h', this]
theorem row_step {w : World} {b len k : Nat} {zs : List Int} {v : Int} (h : w.rowIs b 3 len (fcl zs k)) (hv : v = zs.getD k 0) : (w.setCell ⟨b, k, none⟩ (.int .i64 v)).rowIs b 3 len (fcl zs (k + 1)) := by
  subst hv
  exact (h.set k _).congr fun j _ => fcl_step zs k j
theorem row_step2 {w : World} {b len k : Nat} {zs : List Int} {v u : Int} (h : w.rowIs b 3 len (fcl zs k)) (hv : v = zs.getD k 0) : ((w.setCell ⟨b, k, none⟩ (.int .i64 u)).setCell ⟨b, k, none⟩ (.int .i64 v)).rowIs b 3 len (fcl zs (k + 1)) := by
  subst hv
  refine ((h.set k _).set k _).congr fun j _ => ?_
  rw [← fcl_step zs k j]
  by_cases e : j = k <;> simp [e]
theorem sl_of_row {w : World} {b len : Nat} {zs : List Int} (h : w.rowIs b 3 len (fcl zs len)) (hl : zs.length = len) : Sl w (some ⟨b, 0, none⟩) len zs := by
  refine ⟨hl, fun _ => ⟨b, 0, rfl, h.lt, fun i hi => ?_⟩⟩
  rw [Nat.zero_add]
  refine (h.cell hi).trans ?_
  simp [fcl, hi]

theorem info3 : (Try.prog.info? 3).map (fun i => (i.zero, i.size, i.bytes)) = some (some (.int .i64 0), 1, 8) := by kernel_rfl

theorem Smp.below {w w' : World} {base B N : Nat} {st : St} (h : Smp w base B N st) (hb : Below w.heap.size w w') : Smp w' base B N st := by
  obtain ⟨rs, ps, mB, rv, ρ, hrep, e1, e2⟩ := h
  exact ⟨rs, ps, mB, rv, ρ, hrep.keep hb.size (fun g hg => hb.block g hg) (fun _ _ => rfl), e1, e2⟩

set_option maxHeartbeats 400000 in
theorem count_any (w : World) (base B N : Nat) (st : St) (h : Smp w base B N st) : Calls Try.prog 10 #[.pointer (some ⟨B, 0, none⟩)] w fun e w' => e = .returned (.int .i64 st.1.length) ∧ w = w' := by
  obtain ⟨rs, ps, mB, rv, ρ, hrep, e1, e2⟩ := h
  have c0 : w.cell? ⟨B, 0, none⟩ = some rv := cell_of_block hrep.smp (by simp)
  obtain ⟨aR, cR, hrv, _⟩ := row_form2 hrep.rrow
  have hl : rs.length = st.1.length := by rw [← e1]; simp [absR]
  rw [← hl]
  subst hrv
  clear hrep e1 e2 hl
  go_enter Try.func10, Try.ntmps10
  go_wp2
  go_ret
  exact ⟨rfl, rfl⟩

set_option maxHeartbeats 400000 in
theorem pcount_any (w : World) (base B N : Nat) (st : St) (h : Smp w base B N st) : Calls Try.prog 14 #[.pointer (some ⟨B, 0, none⟩)] w fun e w' => e = .returned (.int .i64 st.2.length) ∧ w = w' := by
  obtain ⟨rs, ps, mB, rv, ρ, hrep, e1, e2⟩ := h
  have c1 : w.cell? ⟨B, 1, none⟩ = some (.map (some mB)) := cell_of_block hrep.smp (by simp)
  obtain ⟨es, clock, m1, m2⟩ := hrep.es
  have hl : es.size = st.2.length := by rw [m2.size, ← e2]; simp [absP, ents]
  have hlen : ∀ ty, (Builtin.len_ #[37] ty #[.map (some mB)]).run Try.prog w = .ok (.int .i64 es.size) w := fun ty => by
    simp [Builtin.len_, run_underlying Try.underlying37, MapKept.run_getObj_map m1, goInt, Result.andThen]
  rw [← hl]
  clear hrep e1 e2 hl m1 m2
  go_enter Try.func14, Try.ntmps14
  go_wp2
  go_ret
  exact ⟨rfl, rfl⟩

/-- A resource, read. -/
def ResEnds (w : World) (i : Nat) (x : ByteArray × List Int) (e : Ending) (w' : World) : Prop := ∃ a c, e = .returned (.tuple #[.int .i64 i, .string x.1, .slice a x.2.length c]) ∧ Sl w' a x.2.length x.2 ∧ Below w.heap.size w w'

set_option maxHeartbeats 1000000 in
theorem res_any (w : World) (base B N : Nat) (st : St) (h : Smp w base B N st) (hN : N ≤ 4096) (i : Nat) (x : ByteArray × List Int) (hi : st.1[i]? = some x) :
    Calls Try.prog 11 #[.pointer (some ⟨B, 0, none⟩), .int .i64 i] w fun e w' => ResEnds w i x e w' := by
  obtain ⟨rs, ps, mB, rv, ρ, hrep, e1, e2⟩ := h
  rw [← e1, absR_get] at hi
  obtain ⟨r, hr, rfl⟩ := Option.map_eq_some_iff.1 hi
  have hil := (List.getElem?_eq_some_iff.1 hr).1
  have hok := hrep.res i r hr
  have c0 : w.cell? ⟨B, 0, none⟩ = some rv := cell_of_block hrep.smp (by simp)
  obtain ⟨aR, cR, hrv, hcR⟩ := row_form2 hrep.rrow
  obtain ⟨gR, rfl, hcR'⟩ := hcR (by omega)
  subst hrv
  have ci : w.cell? ⟨gR, i, none⟩ = some (.pointer (some ⟨r.blk, 0, none⟩)) := hcR' i hil _ (by simp [hr, ptr])
  have r0 : w.cell? ⟨r.blk, 0, none⟩ = some (.int .i64 i) := cell_of_block hok.blk (by simp)
  have r1 : w.cell? ⟨r.blk, 1, none⟩ = some (.string r.acc) := cell_of_block hok.blk (by simp)
  have r2 : w.cell? ⟨r.blk, 2, none⟩ = some r.sv := cell_of_block hok.blk (by simp)
  have hblt := lt_of_block hok.blk
  obtain ⟨aS, cS, hsv, hcS⟩ := row_form2 hok.row
  rw [hsv] at r2
  have hn := hok.n
  have hrn := hrep.nR
  have HOK := hid hok
  have HCS := hid hcS
  have HSV := hid hsv
  have hmk := fun (w : World) => run_make_row' (P := Try.prog) 27 3 (.int .i64 0) 8 Try.underlying27 info3 rfl .i64 .i64 r.recs.length (by omega) (by omega) w
  clear hrep e1 e2 hi hr hok hcR hcR' hcS hsv
  go_enter Try.func11, Try.ntmps11
  go_wp2
  clear hmk c0 ci
  go_loopw [9] (fun c wr => ∃ k : Nat, k ≤ r.recs.length ∧ c = .int .i64 k ∧ wr.rowIs w.heap.size 3 r.recs.length (fcl (r.recs.map (·.2)) k) ∧ Below w.heap.size w wr) (fun c _ => r.recs.length - (intOf c).toNat)
  case atStart => exact ⟨0, Nat.zero_le _, rfl, by rw [← fcl_zero]; exact World.rowIs_made w _ _ 3, (Below.refl _ _).alloc (Nat.le_refl _) _⟩
  case round =>
    obtain ⟨k, hk, rfl, hrow, hbel⟩ := hrel
    have HR := hid hrow
    have HB := hid hbel
    have q2 := (hbel.cell (p := ⟨r.blk, 2, none⟩) hblt).trans r2
    by_cases hlt : k < r.recs.length
    · obtain ⟨gS, rfl, hcS⟩ := HCS.out (by omega)
      obtain ⟨qq, hq⟩ : ∃ qq, r.recs[k]? = some qq := ⟨_, List.getElem?_eq_getElem hlt⟩
      obtain ⟨b1, b2, b3⟩ := HOK.out.recs qq (List.mem_of_getElem? hq)
      have hgS : gS < w.heap.size := by
        have := HOK.out.row.lt gS (by rw [HSV.out]; rfl)
        exact this.2
      have s1 := (hbel.cell (p := ⟨gS, k, none⟩) hgS).trans (hcS k hlt (.pointer (some ⟨qq.1, 0, none⟩)) (by simp [hq, ptr]))
      have s2 := (hbel.cell (p := ⟨qq.1, 0, none⟩) b1).trans b2
      have c2 := hrow.cell hlt
      have f2 := hrow.frozen k
      have hv : qq.2 = (r.recs.map (·.2)).getD k 0 := by simp [hq]
      have HV := hid hv
      clear hrow hbel hcS hq b2 hv r0 r1 r2
      go_wp2
      go_roundw
      case rel => exact ⟨k + 1, by omega, by go_num, row_step HR.out HV.out, HB.out.setCell (Nat.le_refl _) _⟩
      case measure => simp [intOf]; omega
    · have e : k = r.recs.length := by omega
      subst e
      have q0 := (hbel.cell (p := ⟨r.blk, 0, none⟩) hblt).trans r0
      have q1 := (hbel.cell (p := ⟨r.blk, 1, none⟩) hblt).trans r1
      clear hrow hbel r0 r1 r2
      go_wp2
      go_quiet (fail)
      go_wp2
      go_ret3
      have hsl := (sl_of_row HR.out (by simp)).below (below_drewN (Below.refl _ _) nq)
      exact ⟨some ⟨w.heap.size, 0, none⟩, r.recs.length, by simp, by simpa using hsl, below_drewN HB.out _⟩

theorem eqIn_ptr (d b : Nat) (w : World) : (Op.equalIn (d + 1) 46 (.pointer (some ⟨b, 0, none⟩)) (.pointer (some ⟨b, 0, none⟩))).run Try.prog w = .ok true w := by
  simp [Op.equalIn, run_underlying Try.underlying46, sameAddr]
theorem eq_ptr (b : Nat) (w : World) : (Op.equal 46 (.pointer (some ⟨b, 0, none⟩)) (.pointer (some ⟨b, 0, none⟩))).run Try.prog w = .ok true w := eqIn_ptr 9999 b w
theorem eql_ptr (b : Nat) (w : World) : (binOp .eql 46 (.pointer (some ⟨b, 0, none⟩)) (.pointer (some ⟨b, 0, none⟩))).run Try.prog w = .ok (.bool true) w := by
  simp only [binOp]
  simp [eq_ptr b w]

def intsOf (l : List Nat) : List Int := l.map fun i : Nat => (i : Int)
/-- The places of a path's resources, read. -/
def PlcEnds (w : World) (l : List Nat) (e : Ending) (w' : World) : Prop := ∃ a c, e = .returned (.slice a l.length c) ∧ Sl w' a l.length (intsOf l) ∧ Below w.heap.size w w'

set_option maxRecDepth 100000 in
set_option maxHeartbeats 2000000 in
theorem plc_any (w : World) (base B N : Nat) (st : St) (h : Smp w base B N st) (hN : N ≤ 4096) (path : ByteArray) (hpath : path.size ≤ maxLen) :
    Calls Try.prog 13 #[.pointer (some ⟨B, 0, none⟩), .string path] w fun e w' => PlcEnds w (idxOf st.2 path) e w' := by
  obtain ⟨rs, ps, mB, rv, ρ, hrep, e1, e2⟩ := h
  obtain ⟨k0, v0, idx0, hat⟩ : ∃ k v0 idx0, PathAt ps path k v0 idx0 := by
    rcases pathAt ps path hpath hrep.apart with ⟨k, p, _, _, hat⟩ | hat
    · exact ⟨k, _, _, hat⟩
    · exact ⟨_, _, _, hat⟩
  rw [← e2, hat.idx]
  obtain ⟨es, clock, m1, m2⟩ := hrep.es
  have hlook := hat.look es clock m2 mB w m1
  obtain ⟨o1, o2, o3, o4⟩ := hat.own w base ρ N rs hrep.pth
  have c1 : w.cell? ⟨B, 1, none⟩ = some (.map (some mB)) := cell_of_block hrep.smp (by simp)
  have c0 : w.cell? ⟨B, 0, none⟩ = some rv := cell_of_block hrep.smp (by simp)
  obtain ⟨a0, cp0, hv0, hcell⟩ := row_form2 o1
  obtain ⟨aR, cR, hrv, hcR⟩ := row_form2 hrep.rrow
  have hblt := lt_of_block hrep.smp
  have hrn := hrep.nR
  rw [hv0] at hlook
  subst hrv
  have HREP := hid hrep
  have O1 := hid o1
  have O3 := hid o3
  have HV := hid hv0
  have Hcell := hid hcell
  have HCR := hid hcR
  have hmk := fun (w : World) => run_make_row' (P := Try.prog) 27 3 (.int .i64 0) 8 Try.underlying27 info3 rfl .i64 .i64 idx0.length (by omega) (by omega) w
  clear hrep e1 e2 hat m1 m2 o1 o2 o3 hv0 hcell hcR
  go_enter Try.func13, Try.ntmps13
  go_wp2
  clear hmk hlook
  go_loopw [7] (fun c wr => ∃ k : Nat, k ≤ idx0.length ∧ c = .int .i64 k ∧ wr.rowIs w.heap.size 3 idx0.length (fcl (intsOf idx0) k) ∧ Below w.heap.size w wr) (fun c _ => idx0.length - (intOf c).toNat)
  case atStart => exact ⟨0, Nat.zero_le _, rfl, by rw [← fcl_zero]; exact World.rowIs_made w _ _ 3, (Below.refl _ _).alloc (Nat.le_refl _) _⟩
  case round =>
    obtain ⟨k, hk, rfl, hrow, hbel⟩ := hrel
    have HR := hid hrow
    have HB := hid hbel
    by_cases hlt : k < idx0.length
    · obtain ⟨gp, rfl, hc⟩ := Hcell.out (by omega)
      obtain ⟨i, hi⟩ : ∃ i, idx0[k]? = some i := ⟨_, List.getElem?_eq_getElem hlt⟩
      have hil := O3.out i (List.mem_of_getElem? hi)
      obtain ⟨r, hr⟩ : ∃ r, rs[i]? = some r := ⟨_, List.getElem?_eq_getElem hil⟩
      obtain ⟨gR, rfl, hcR⟩ := HCR.out (by omega)
      have hok := HREP.out.res i r hr
      have hgp : gp < w.heap.size := (O1.out.lt gp (by rw [HV.out]; rfl)).2
      have hgR : gR < w.heap.size := (HREP.out.rrow.lt gR rfl).2
      have s1 := (hbel.cell (p := ⟨gp, k, none⟩) hgp).trans (hc k hlt (.pointer (some ⟨r.blk, 0, none⟩)) (by simp [hi, blkOf, hr, ptr]))
      have s2 := (hbel.cell (p := ⟨r.blk, 0, none⟩) (lt_of_block hok.blk)).trans (cell_of_block hok.blk (v := .int .i64 i) (by simp))
      have s3 := (hbel.cell (p := ⟨gR, i, none⟩) hgR).trans (hcR i hil (.pointer (some ⟨r.blk, 0, none⟩)) (by simp [hr, ptr]))
      have s4 := (hbel.cell (p := ⟨B, 0, none⟩) hblt).trans c0
      have c2 := hrow.cell hlt
      have f2 := hrow.frozen k
      have hv : (i : Int) = (intsOf idx0).getD k 0 := by simp [intsOf, hi]
      have HVv := hid hv
      have n1 : ∀ b, b < w.heap.size → w.heap.size ≠ b := fun b hb => by omega
      have t1 := n1 r.blk (lt_of_block hok.blk)
      have t2 := n1 gR hgR
      have t3 := n1 B hblt
      have i0 : (0 : Int) ≤ (i : Int) := by omega
      have i1 : (i : Int) < (rs.length : Int) := by omega
      clear hrow hbel hc hcR hi hr hok hv n1 c0 c1
      have u2 : ∀ v, (wr.setCell ⟨w.heap.size, k, none⟩ v).cell? ⟨r.blk, 0, none⟩ = some (.int .i64 i) := fun v => by rw [World.cell?_of_block (w := wr) (Below.heap_setCell _ _ _ _ (Ne.symm t1))]; exact s2
      have u3 : ∀ v, (wr.setCell ⟨w.heap.size, k, none⟩ v).cell? ⟨gR, i, none⟩ = some (.pointer (some ⟨r.blk, 0, none⟩)) := fun v => by rw [World.cell?_of_block (w := wr) (Below.heap_setCell _ _ _ _ (Ne.symm t2))]; exact s3
      have u4 : ∀ v, (wr.setCell ⟨w.heap.size, k, none⟩ v).cell? ⟨B, 0, none⟩ = some (.slice (some ⟨gR, 0, none⟩) rs.length cR) := fun v => by rw [World.cell?_of_block (w := wr) (Below.heap_setCell _ _ _ _ (Ne.symm t3))]; exact s4
      have heq := fun w => eql_ptr r.blk w
      go_wp2
      go_quiet (fail)
      go_wp2
      go_roundw
      case rel => exact ⟨k + 1, by omega, by go_num, row_step2 HR.out HVv.out, (below_drewN (HB.out.setCell (Nat.le_refl _) _) _).setCell (Nat.le_refl _) _⟩
      case measure => simp [intOf]; omega
    · have e : k = idx0.length := by omega
      subst e
      clear hrow hbel
      go_wp2
      go_ret
      have hsl := sl_of_row HR.out (by simp [intsOf])
      exact ⟨some ⟨w.heap.size, 0, none⟩, idx0.length, rfl, hsl, HB.out⟩
end Go.Proofs.Qxb6601393a
