/-
  (*Sample).add (16): the miss, walked.
-/
import Derived.Test.Qxb6601393aMiss
namespace Go.Proofs.Qxb6601393a
open Go.RowKit Go.ChangeMaps Go.MapKept
set_option linter.unusedVariables false
attribute [local go_sem ↓] Go.wp_at_zero Go.wp_at_succ

theorem new_cell {w w1 : World} {base B N : Nat} {rs : List RD} {ps : List PD} {mB : Nat} {rv : Value} {ρ : Nat → Nat × Nat} (h : Rep w base B N rs ps mB rv ρ) {o1 o2 o3 : Obj} (hgrow : (((w.alloc o1).alloc o2).alloc o3).grownBy w1 rv.ownBlock) : w1.heap[B]? = w.heap[B]? := by
  have hl := lt_of_block h.smp
  rw [hgrow.block _ (by rw [size_alloc, size_alloc, size_alloc]; omega) (fun e => by have := h.rR _ e.symm; rw [h.rB] at this; simp at this), alloc_old _ _ _ (by rw [size_alloc, size_alloc]; omega), alloc_old _ _ _ (by rw [size_alloc]; omega), alloc_old _ _ _ hl]
theorem new_c {w w1 : World} {base B N : Nat} {rs : List RD} {ps : List PD} {mB : Nat} {rv : Value} {ρ : Nat → Nat × Nat} (h : Rep w base B N rs ps mB rv ρ) {o1 o2 o3 : Obj} (hgrow : (((w.alloc o1).alloc o2).alloc o3).grownBy w1 rv.ownBlock) : w1.cell? ⟨B, 0, none⟩ = some rv ∧ w1.frozen? ⟨B, 0, none⟩ = false := by
  refine ⟨?_, ?_⟩
  · rw [World.cell?_of_block (w := w) (new_cell h hgrow)]; exact cell_of_block h.smp (by simp)
  · rw [World.frozen?_of_block (w := w) (new_cell h hgrow)]; exact frozen_of_block h.smp

theorem one_new3 (w : World) (o1 o2 : Obj) (g : Nat) : ∀ j u, [ptr g][j]? = some u → (((w.alloc o1).alloc o2).alloc (.cells #[.pointer (some ⟨g, 0, none⟩)] 46)).cell? ((⟨w.heap.size + 1 + 1, 0, none⟩ : Addr).add j) = some u := by
  have := cell_one_new ((w.alloc o1).alloc o2) (ptr g) 46
  rw [size_alloc, size_alloc] at this
  exact this

theorem grown_block {W w3 : World} {o : Obj} {row : Option Nat} {k : Nat} {x : Obj} (h : (W.alloc o).drew.grownBy w3 row) (hk : k < W.heap.size) (hn : row ≠ some k) (hx : W.heap[k]? = some x) : w3.heap[k]? = some x := by
  rw [h.block k (by show k < (W.alloc o).heap.size; rw [size_alloc]; omega) (Ne.symm hn)]
  show (W.alloc o).heap[k]? = _
  rw [alloc_old _ _ _ hk]
  exact hx
theorem grown_cell {W w3 : World} {o : Obj} {row : Option Nat} {k j : Nat} {x : Value} (h : (W.alloc o).drew.grownBy w3 row) (hk : k < W.heap.size) (hn : row ≠ some k) (hx : W.cell? ⟨k, j, none⟩ = some x) : w3.cell? ⟨k, j, none⟩ = some x := by
  rw [World.cell?_of_block (w := W)]
  · exact hx
  · show w3.heap[k]? = W.heap[k]?
    rw [h.block k (by show k < (W.alloc o).heap.size; rw [size_alloc]; omega) (Ne.symm hn)]
    exact alloc_old _ _ _ hk

theorem set_cell {w3 : World} {B mB j : Nat} {x : Value} {o : Obj} (hn : B ≠ mB) (hx : w3.cell? ⟨B, j, none⟩ = some x) : (setBlock w3 mB o).cell? ⟨B, j, none⟩ = some x := by
  rw [World.cell?_of_block (w := w3)]
  · exact hx
  · simp [setBlock, Ne.symm hn]

set_option maxRecDepth 100000 in
set_option maxHeartbeats 4000000 in
theorem add_miss (w : World) (base B N : Nat) (rs : List RD) (ps : List PD) (mB : Nat) (rv : Value) (ρ : Nat → Nat × Nat) (h : Rep w base B N rs ps mB rv ρ) (R : Nat) (tag : Int) (hR : RecAt w ρ R tag) (hbase : base ≤ w.heap.size) (hN : N ≤ 4096)
    (path acc : ByteArray) (hpath : path.size ≤ maxLen) (k : Nat) (v0 : Value) (idx0 : List Nat) (hat0 : PathAt ps path k v0 idx0) (hno : ∀ (q x : Nat), idx0[q]? = some x → ∀ y : RD, rs[x]? = some y → y.acc ≠ acc) :
    Calls Try.prog 16 #[.pointer (some ⟨B, 0, none⟩), .string path, .string acc, .pointer (some ⟨R, 0, none⟩)] w fun e w' => AddEnds w base B (N + 1) (absR rs ++ [(acc, [tag])], putP (absP ps) path (idx0 ++ [rs.length])) e w' := by
  obtain ⟨es, clock, m1, m2⟩ := h.es
  have hlook := hat0.look es clock m2 mB w m1
  obtain ⟨o1, o2, o3, o4⟩ := hat0.own w base ρ N rs h.pth
  have c1 : w.cell? ⟨B, 1, none⟩ = some (.map (some mB)) := cell_of_block h.smp (by simp)
  have c0 : w.cell? ⟨B, 0, none⟩ = some rv := cell_of_block h.smp (by simp)
  obtain ⟨a0, cp0, hv0, hcell⟩ := row_form2 o1
  obtain ⟨aR, cR, hrv, _⟩ := row_form2 h.rrow
  have hrn := h.nR
  have HREP := hid h
  have HR := hid hR
  have HAT := hid hat0
  have Hno := hid hno
  have Hcell := hid hcell
  have O3 := hid o3
  have HV := hid hv0
  rw [hv0] at hlook
  have hblt := lt_of_block h.smp
  subst hrv
  clear h hR hat0 hno hcell o1 o2 o3 m1 m2 hv0
  obtain ⟨i0, hi0, hz0, hz1, hz2⟩ := info_parts info46
  go_enter Try.func16, Try.ntmps16
  go_wp2
  go_loop [18] (fun c => ∃ q : Nat, q ≤ idx0.length ∧ c = .int .i64 q) (fun c => idx0.length - (intOf c).toNat)
  case atStart => exact ⟨0, Nat.zero_le _, rfl⟩
  case round =>
    obtain ⟨q, hq, rfl⟩ := hrel
    by_cases hqj : q < idx0.length
    · obtain ⟨gp, rfl, hc⟩ := Hcell.out (by omega)
      obtain ⟨x, hx⟩ : ∃ x, idx0[q]? = some x := ⟨_, List.getElem?_eq_getElem (by omega)⟩
      have hxl := O3.out x (List.mem_of_getElem? hx)
      obtain ⟨y, hy⟩ : ∃ y, rs[x]? = some y := ⟨_, List.getElem?_eq_getElem hxl⟩
      have cq : w.cell? ⟨gp, q, none⟩ = some (.pointer (some ⟨y.blk, 0, none⟩)) := hc q (by omega) _ (by simp [hx, blkOf, hy, ptr])
      have cy : w.cell? ⟨y.blk, 1, none⟩ = some (.string y.acc) := cell_of_block (HREP.out.res x y hy).blk (by simp)
      have hne := str_ne (Hno.out q x hx y hy)
      clear hx hxl hy hc hlook
      go_wp2
      go_round
      case rel => exact ⟨q + 1, by omega, by go_num⟩
      case measure => simp [intOf]; omega
    · have e : q = idx0.length := by omega
      subst e
      clear hlook
      go_wp2_with (at_builtin; refine wpList_append_lies _ rfl _ _ 38 rfl base 46 i0 (.pointer none) 1 8 Try.underlying38 hi0 hz0 hz1 hz2 rfl (by decide) _ rs.length (rs.map fun r => ptr r.blk) rfl (((HREP.out.rrow.alloc _).alloc _).alloc _) ⟨w.heap.size + 1 + 1, 0, none⟩ 1 1 [ptr (w.heap.size + 1)] rfl rfl (one_new3 w _ _ _) (one_cell _) (by omega) (by unfold maxLen; omega) (by omega) (by simp; omega) (w.heap.size + 1 + 1 + 1) (by simp) ?_; intro g cap w1 hown hgrow hat hlt; obtain ⟨cB1, fB1⟩ := new_c HREP.out hgrow)
      obtain ⟨⟨ρ1, hrep1⟩, hbel1⟩ := rep_miss1 HREP.out HR.out acc hown hgrow (hat.imp id (fun h => by omega)) hbase
      have hWs : w.heap.size + 3 ≤ (w1.setCell ⟨B, 0, none⟩ (.slice (some ⟨g, 0, none⟩) (rs.length + 1) cap)).heap.size := by
        have h1 := hgrow.size
        rw [size_alloc, size_alloc, size_alloc] at h1
        simpa [World.setCell] using h1
      clear hown hgrow hat hlt cB1 fB1
      generalize w1.setCell ⟨B, 0, none⟩ (.slice (some ⟨g, 0, none⟩) (rs.length + 1) cap) = W at *
      have hbb : blkOf (rs ++ [⟨w.heap.size + 1, acc, .slice (some ⟨w.heap.size, 0, none⟩) 1 1, [(R, tag)]⟩]) rs.length = w.heap.size + 1 := by simp [blkOf]
      obtain ⟨es2, clock2, m1, m2⟩ := hrep1.es
      obtain ⟨E, C, Pn, hupd, hPn⟩ := HAT.out.upd es2 clock2 m2 (by have := HREP.out.nP; unfold maxLen; omega)
      obtain ⟨p1, p2, p3, p4⟩ := HAT.out.own W base ρ1 (N + 1) _ hrep1.pth
      have hlk : ∀ w' : World, w'.heap[mB]? = some (.map es2 clock2) → (Instr.lookup 37 (.map (some mB)) (.string path) false).run Try.prog w' = .ok (.slice a0 idx0.length cp0) w' := fun w' hw' => by rw [← HV.out]; exact HAT.out.look es2 clock2 m2 mB w' hw'
      have hup : ∀ (w' : World) (v : Value), w'.heap[mB]? = some (.map es2 clock2) → (Instr.mapUpdate 37 (.map (some mB)) (.string path) v).run Try.prog w' = .ok () (setBlock w' mB (.map (E v) C)) := fun w' v hw' => hupd mB w' v hw'
      have cB : W.cell? ⟨B, 1, none⟩ = some (.map (some mB)) := cell_of_block hrep1.smp (by simp)
      have hBlt := lt_of_block hrep1.smp
      have hmlt := lt_of_block m1
      rw [HV.out] at p1 p2
      have nB : Value.ownBlock (.slice a0 idx0.length cp0) ≠ some B := fun e => by have := p2 _ e; rw [hrep1.rB] at this; simp at this
      have nM : Value.ownBlock (.slice a0 idx0.length cp0) ≠ some mB := fun e => by have := p2 _ e; rw [hrep1.rM] at this; simp at this
      have HREP1 := hid hrep1
      have HPn := hid hPn
      have P1 := hid p1
      have P2 := hid p2
      have P3 := hid p3
      have HBB := hid hbb
      have HBel := hid hbel1
      have L0 := hlk W m1
      have L1 := hlk W.drew m1
      have L2 : ∀ o, _ := fun o => hlk (W.alloc o) ((alloc_old W o mB hmlt).trans m1)
      have L3 : ∀ o, _ := fun o => hlk (W.alloc o).drew ((alloc_old W o mB hmlt).trans m1)
      have hBM : B ≠ mB := fun e => by have h1 := hrep1.rB; have h2 := hrep1.rM; rw [e, h2] at h1; simp at h1
      clear hrep1 hPn p1 p2 p3 hbb hbel1 hupd m2
      go_region_held3 (fun w' => w'.cell? ⟨B, 1, none⟩ = some (.map (some mB)))
        (first | assumption | go_keep | exact cB3 | exact (set_cell hBM cB3))
        ((refine step_append_lies _ (by rfl) _ _ _ (by rfl) base 46 i0 _ 1 8 Try.underlying38 hi0 hz0 hz1 hz2 rfl (by omega) (.slice a0 idx0.length cp0) idx0.length _ (by rfl) ((P1.out.alloc _).drew) ⟨W.heap.size, 0, none⟩ 1 1 [ptr (w.heap.size + 1)] (by rfl) (by rfl) (World.news_of_block (cs := #[.pointer (some ⟨w.heap.size + 1, 0, none⟩)]) (t := 46) (fr := (0, 0)) (heap_alloc_new W _)) (one_cell _) (by omega) (by unfold maxLen; omega) (by omega) (by simp; omega) (W.heap.size + 1) (by simp) ?_; intro g3 cap3 w3 hown3 hgrow3 hat3 hlt3; have hm3 : w3.heap[mB]? = some (.map es2 clock2) := grown_block hgrow3 hmlt nM m1; have cB3 : w3.cell? ⟨B, 1, none⟩ = some (.map (some mB)) := grown_cell hgrow3 hBlt nB cB; have U3 : ∀ v, _ := fun v => hup w3 v hm3))
      all_goals
        have hgr : (W.alloc (.cells #[.pointer (some ⟨w.heap.size + 1, 0, none⟩)] 46)).grownBy w3 (Value.ownBlock (.slice a0 idx0.length cp0)) := ⟨hgrow3.os, hgrow3.tape, hgrow3.output, hgrow3.size, hgrow3.block⟩
        obtain ⟨e1, e2, e3, e4, e5, e6⟩ := HPn.out (.slice (some ⟨g3, 0, none⟩) (idx0.length + 1) cap3) rs.length
        have hfin := rep_miss2 HREP1.out (k := k) (i := rs.length) (by simp) (v0 := .slice a0 idx0.length cp0) (idx0 := idx0) (path := path) P1.out P2.out P3.out (by omega) (by rw [HBB.out]; exact hown3) hgr hat3 (by omega) e1 e2 e3 e4 (by have := HREP.out.nP; omega)
        obtain ⟨⟨ρ2, h2⟩, hb2⟩ := hfin
        have HEND := hid (show AddEnds w base B (N + 1) (absR rs ++ [(acc, [tag])], putP (absP ps) path (idx0 ++ [rs.length])) (.returned (.tuple #[])) (setBlock w3 mB (.map (E (.slice (some ⟨g3, 0, none⟩) (idx0.length + 1) cap3)) C)) from ⟨rfl, ⟨_, _, _, _, _, h2, by simp [absR], e6⟩, HBel.out.trans hb2⟩)
        clear hgr e1 e2 e3 e4 e5 e6 h2 hb2 hown3 hgrow3 hat3 hlt3 L0 L1 L2 L3 U3 hlk hup
        go_wp2
        go_end0
        exact HEND.out
end Go.Proofs.Qxb6601393a
