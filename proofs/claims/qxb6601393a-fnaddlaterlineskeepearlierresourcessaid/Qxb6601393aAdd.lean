/-
  (*Sample).add (16): the hit.
-/
import Derived.Test.Qxb6601393aUpd
import Derived.Test.Qxb6601393aPlain
import Derived.WalkSpells
import Derived.WalkLawsBesides
import Derived.Outline
import Derived.OwnWalk
import Derived.BigQuiet
import Derived.Deep.RegionHeld3
import Derived.OpenShut
namespace Go.Proofs.Qxb6601393a
open Go.RowKit Go.ChangeMaps Go.MapKept
set_option linter.unusedVariables false

theorem hid {p : Prop} (h : p) : Hid p := h
theorem info42 : (Try.prog.info? 42).map (fun i => (i.zero, i.size, i.bytes)) = some (some (.pointer none), 1, 8) := by kernel_rfl
theorem info46 : (Try.prog.info? 46).map (fun i => (i.zero, i.size, i.bytes)) = some (some (.pointer none), 1, 8) := by kernel_rfl

theorem cell_of_block {w : World} {b o : Nat} {c : Array Value} {t : TypeId} {v : Value} (h : w.heap[b]? = some (.cells c t)) (hv : c[o]? = some v) : w.cell? ⟨b, o, none⟩ = some v := by
  simp [World.cell?, h, hv]
theorem frozen_of_block {w : World} {b o : Nat} {c : Array Value} {t : TypeId} (h : w.heap[b]? = some (.cells c t)) : w.frozen? ⟨b, o, none⟩ = false := by
  simp [World.frozen?, h]

/-- A slice of pointers that is owned: nil, or a row whose cells are known. -/
theorem row_form {w : World} {base : Nat} {e : TypeId} {v : Value} {n : Nat} {xs : List Value} (h : w.ownsRow base e 1 v n xs) : (v = .slice none 0 0 ∧ n = 0) ∨ ∃ g cap, v = .slice (some ⟨g, 0, none⟩) n cap ∧ ∀ j, j < n → ∀ u, xs[j]? = some u → w.cell? ⟨g, j, none⟩ = some u := by
  rcases h.2 with h0 | ⟨g, cap, cur, rfl, hb, hg, hn, hm, hs, ht⟩
  · exact .inl h0
  · refine .inr ⟨g, cap, rfl, fun j hj u hu => ?_⟩
    have := h.cells (g := g) rfl j u hu
    have e : (⟨g, 0, none⟩ : Addr).add j = ⟨g, j, none⟩ := by unfold Addr.add; split <;> simp_all
    rwa [e] at this

theorem str_ne {a b : ByteArray} (h : a ≠ b) : (a.toList == b.toList) = false := by
  rw [beq_eq_false_iff_ne]
  intro e
  apply h
  rw [ByteArray.toList_eq, ByteArray.toList_eq] at e
  exact ByteArray.ext (Array.toList_inj.1 e)
theorem str_eq {a b : ByteArray} (h : a = b) : (a.toList == b.toList) = true := by rw [h]; simp

def absR (rs : List RD) : List (ByteArray × List Int) := rs.map fun r => (r.acc, r.recs.map (·.2))
def absP (ps : List PD) : List (ByteArray × List Nat) := ps.map fun p => (p.path, p.idx)
/-- The Sample at block B holds st. -/
def Smp (w : World) (base B N : Nat) (st : St) : Prop := ∃ rs ps mB rv ρ, Rep w base B N rs ps mB rv ρ ∧ absR rs = st.1 ∧ absP ps = st.2
/-- 'add' has ended. -/
def AddEnds (w : World) (base B N : Nat) (st : St) (e : Ending) (w' : World) : Prop := e = .returned (.tuple #[]) ∧ Smp w' base B N st ∧ Below base w w'

theorem hit_block {w w1 : World} {base : Nat} {ρ : Nat → Nat × Nat} {N i : Nat} {r : RD} {o : Obj} (h : ResOk w base ρ N i r) (hgrow : (w.alloc o).grownBy w1 r.sv.ownBlock) : w1.heap[r.blk]? = w.heap[r.blk]? := by
  have hl := lt_of_block h.blk
  rw [hgrow.block _ (by rw [size_alloc]; omega) (fun e => by have := h.rS _ e.symm; rw [h.role] at this; simp at this), alloc_old _ _ _ hl]
theorem hit_cell {w w1 : World} {base : Nat} {ρ : Nat → Nat × Nat} {N i : Nat} {r : RD} {o : Obj} (h : ResOk w base ρ N i r) (hgrow : (w.alloc o).grownBy w1 r.sv.ownBlock) : w1.cell? ⟨r.blk, 2, none⟩ = some r.sv := by
  rw [World.cell?_of_block (w := w) (hit_block h hgrow)]
  exact cell_of_block h.blk (by simp)
theorem hit_frozen {w w1 : World} {base : Nat} {ρ : Nat → Nat × Nat} {N i : Nat} {r : RD} {o : Obj} (h : ResOk w base ρ N i r) (hgrow : (w.alloc o).grownBy w1 r.sv.ownBlock) : w1.frozen? ⟨r.blk, 2, none⟩ = false := by
  rw [World.frozen?_of_block (w := w) (hit_block h hgrow)]
  exact frozen_of_block h.blk
theorem one_cell (R : Nat) : ∀ u ∈ [ptr R], u.oneCell' = true := by
  intro u hu
  simp at hu
  subst hu
  rfl

set_option maxHeartbeats 1000000 in
theorem add_hit (w : World) (base B N : Nat) (rs : List RD) (ps : List PD) (mB : Nat) (rv : Value) (ρ : Nat → Nat × Nat) (h : Rep w base B N rs ps mB rv ρ) (R : Nat) (tag : Int) (hR : RecAt w ρ R tag) (hbase : base ≤ w.heap.size) (hN : N ≤ 4096)
    (path acc : ByteArray) (hpath : path.size ≤ maxLen) (k : Nat) (p : PD) (hk : ps[k]? = some p) (hp : p.path = path) (j i : Nat) (hj : p.idx[j]? = some i) (r : RD) (hi : rs[i]? = some r) (hacc : r.acc = acc)
    (hbefore : ∀ q, q < j → ∀ x, p.idx[q]? = some x → ∀ y, rs[x]? = some y → y.acc ≠ acc) :
    Calls Try.prog 16 #[.pointer (some ⟨B, 0, none⟩), .string path, .string acc, .pointer (some ⟨R, 0, none⟩)] w fun e w' => AddEnds w base B (N + 1) ((absR rs).set i (r.acc, r.recs.map (·.2) ++ [tag]), absP ps) e w' := by
  obtain ⟨es, clock, m1, m2⟩ := h.es
  have hlook : (Instr.lookup 37 (.map (some mB)) (.string path) false).run Try.prog w = .ok p.pv w := by
    refine look_some m2 hpath (k := k) ?_ h.apart w m1
    simp [ents, hk, hp]
  have hpk := h.pth k p hk
  have hjl := (List.getElem?_eq_some_iff.1 hj).1
  have c1 : w.cell? ⟨B, 1, none⟩ = some (.map (some mB)) := cell_of_block h.smp (by simp)
  rcases row_form hpk.row with ⟨_, h0⟩ | ⟨gp, capp, hpv, hcell⟩
  · omega
  rw [hpv] at hlook
  have hpn := hpk.n
  have hr := h.res i r hi
  have HREP := hid h
  have HR := hid hR
  have Hbefore := hid hbefore
  have Hcell := hid hcell
  have Hpk := hid hpk
  have Hj := hid hj
  have Hi := hid hi
  have Hr := hid hr
  have Hacc := hid hacc
  clear h hR hbefore hcell hpk hj hi hr hacc hk hp m1 m2 hpv
  go_enter Try.func16, Try.ntmps16
  go_wp2
  go_loop [18] (fun c => ∃ q : Nat, q ≤ j ∧ c = .int .i64 q) (fun c => j + 1 - (intOf c).toNat)
  case atStart => exact ⟨0, Nat.zero_le _, rfl⟩
  case round =>
    obtain ⟨q, hq, rfl⟩ := hrel
    by_cases hqj : q < j
    · obtain ⟨x, hx⟩ : ∃ x, p.idx[q]? = some x := ⟨_, List.getElem?_eq_getElem (by omega)⟩
      have hxl := Hpk.out.lt x (List.mem_of_getElem? hx)
      obtain ⟨y, hy⟩ : ∃ y, rs[x]? = some y := ⟨_, List.getElem?_eq_getElem hxl⟩
      have cq : w.cell? ⟨gp, q, none⟩ = some (.pointer (some ⟨y.blk, 0, none⟩)) := Hcell.out q (by omega) _ (by simp [hx, blkOf, hy, ptr])
      have cy : w.cell? ⟨y.blk, 1, none⟩ = some (.string y.acc) := cell_of_block (HREP.out.res x y hy).blk (by simp)
      have hne := str_ne (Hbefore.out q hqj x hx y hy)
      have hql : q < p.idx.length := by omega
      clear hx hxl hy
      go_wp2
      go_round
      case rel => exact ⟨q + 1, by omega, by go_num⟩
      case measure => simp [intOf]; omega
    · have e : q = j := by omega
      subst e
      have cq : w.cell? ⟨gp, q, none⟩ = some (.pointer (some ⟨r.blk, 0, none⟩)) := Hcell.out q (by omega) _ (by simp [Hj.out, blkOf, Hi.out, ptr])
      have cy : w.cell? ⟨r.blk, 1, none⟩ = some (.string r.acc) := cell_of_block Hr.out.blk (by simp)
      have cz : w.cell? ⟨r.blk, 2, none⟩ = some r.sv := cell_of_block Hr.out.blk (by simp)
      have hne := str_eq Hacc.out
      obtain ⟨i0, hi0, hz0, hz1, hz2⟩ := info_parts info42
      have hrn := Hr.out.n
      go_wp2_with (at_builtin; refine wpList_append_lies _ rfl _ _ 47 rfl base 42 i0 (.pointer none) 1 8 Try.underlying47 hi0 hz0 hz1 hz2 rfl (by decide) r.sv r.recs.length (r.recs.map fun q => ptr q.1) rfl (Hr.out.row.alloc _) ⟨w.heap.size, 0, none⟩ 1 1 [ptr R] rfl rfl (cell_one_new _ _ _) (one_cell R) (by omega) (by unfold maxLen; omega) (by omega) (by simp; omega) (w.heap.size + 1) (by simp) ?_; intro g cap w1 hown hgrow hat hlt; have cz1 := hit_cell Hr.out hgrow; have fz1 := hit_frozen Hr.out hgrow)
      have HF := hid (rep_hit HREP.out Hi.out HR.out hown hgrow hat hbase)
      obtain ⟨⟨ρ', h1⟩, h2⟩ := HF.out
      exact bodyPost_ret (v := .tuple #[]) (by simp [results, Try.results16]) rfl ⟨rfl, ⟨_, _, _, _, _, h1, by simp [absR, List.map_set], rfl⟩, h2⟩
end Go.Proofs.Qxb6601393a
