/-
  (*floors).fits (37).
-/
import Derived.Test.Qxb6601373aBase
import Derived.Deep.DrawnRows
namespace Go.Proofs.Qxb6601373a
open Go.RowKit
set_option linter.unusedVariables false

/-- What 'start' and 'fits' read of a floors struct that lies in block B. -/
structure Floors (w : World) (B : Nat) (M S : Nat) (most : Int) (at_ level sum : Value) (first : Nat) : Prop where
  lt : B < w.heap.size
  c0 : w.cell? ⟨B, 0, none⟩ = some (.int .i64 M)
  c1 : w.cell? ⟨B, 1, none⟩ = some (.int .i64 S)
  c2 : w.cell? ⟨B, 2, none⟩ = some (.int .i64 most)
  c5 : w.cell? ⟨B, 5, none⟩ = some at_
  c6 : w.cell? ⟨B, 6, none⟩ = some level
  c7 : w.cell? ⟨B, 7, none⟩ = some sum
  c8 : w.cell? ⟨B, 8, none⟩ = some (.int .i64 first)
theorem Floors.below {w w' : World} {B M S first : Nat} {most : Int} {x y z : Value} (h : Floors w B M S most x y z first) (hb : Below w.heap.size w w') : Floors w' B M S most x y z first :=
  ⟨Nat.lt_of_lt_of_le h.lt hb.size, (hb.cell h.lt).trans h.c0, (hb.cell h.lt).trans h.c1, (hb.cell h.lt).trans h.c2, (hb.cell h.lt).trans h.c5, (hb.cell h.lt).trans h.c6, (hb.cell h.lt).trans h.c7, (hb.cell h.lt).trans h.c8⟩

/-- The number v is what fits answers at row k. -/
def IsFit (M S : Nat) (base : Int) (level sum : List Int) (k n : Nat) (v : Int) : Prop := I64 v ∧ ∀ s : Int, s ≤ v ↔ FitAt M S base level sum k n s
def IsFitTo (M S : Nat) (base : Int) (level sum : List Int) (k n : Nat) (m : Nat) (v : Int) : Prop := I64 v ∧ ∀ s : Int, s ≤ v ↔ s ≤ level.getD (k * M + n - 1) 0 ∨ SomeTo S base sum k n s m

theorem max_if (a b : Int) : max a b = if a < b then b else a := by split <;> omega
theorem IsFitTo.step {M S : Nat} {base : Int} {z4 z5 : List Int} {k n j : Nat} {q c : Int} (h : IsFitTo M S base z4 z5 k n j q) (hj : n ≤ j) (hc : Ceil (z5.getD (k * S + j - 1) 0 - base) ((j : Int) - (n : Int) + 1) c) :
    IsFitTo M S base z4 z5 k n (j + 1) (max q c) := by
  obtain ⟨⟨a1, a2⟩, h2⟩ := h
  obtain ⟨⟨b1, b2⟩, c2⟩ := hc
  refine ⟨⟨by omega, by omega⟩, fun s => ?_⟩
  rw [SomeTo.step_iff _ _ _ _ _ _ _ hj, ← or_assoc, ← h2 s]
  show s ≤ max q c ↔ s ≤ q ∨ (s - 1) * ((j : Int) - (n : Int) + 1) < z5.getD (k * S + j - 1) 0 - base
  rw [← c2 s]
  omega

set_option maxHeartbeats 1000000 in
theorem fits_any (B M S k n rows first : Nat) (most base : Int) (vat : Value) (a4 : Option Addr) (len4 cap4 : Nat) (z4 : List Int) (a5 : Option Addr) (len5 cap5 : Nat) (z5 : List Int) (w : World)
    (hfl : Floors w B M S most vat (.slice a4 len4 cap4) (.slice a5 len5 cap5) first)
    (s4 : Sl w a4 len4 z4) (s5 : Sl w a5 len5 z5) (e4 : len4 = M * rows) (e5 : len5 = S * rows) (l4 : len4 ≤ 131072) (l5 : len5 ≤ 131072) (hk : k < rows) (hr : rows ≤ 131072) (hn1 : 1 ≤ n) (hn2 : n ≤ M)
    (hbase : ((n : Int) - 1) * most = base) (hb0 : 0 ≤ base) (hb1 : base ≤ 9223372036854775807) (p5 : NonNeg z5 len5) :
    Calls Try.prog 37 #[.pointer (some ⟨B, 0, none⟩), .int .i64 k, .int .i64 n] w fun e w' => IntOf (IsFit M S base z4 z5 k n) e ∧ Below w.heap.size w w' := by
  have hM : M ≤ 131072 := by
    have := Nat.mul_le_mul_left M (show 1 ≤ rows by omega)
    omega
  have hS : S ≤ 131072 := by
    have := Nat.mul_le_mul_left S (show 1 ≤ rows by omega)
    omega
  have x1 := row_lt M rows k (n - 1) len4 e4 hk (by omega)
  obtain ⟨b, off, rfl, hlt, hc⟩ := s4.cells (by omega)
  obtain ⟨i1, hi1⟩ : ∃ i1, k * M + n - 1 = i1 := ⟨_, rfl⟩
  have j1 : (k : Int) * (M : Int) + (n : Int) - 1 = (i1 : Int) := by
    rw [← hi1]
    have : ((k * M + n - 1 : Nat) : Int) = ((k * M : Nat) : Int) + (n : Int) - 1 := by omega
    rw [this]; simp
  have x1' : i1 < len4 := by omega
  have cl := hc i1 x1'
  have m1 : (0 : Int) ≤ (k : Int) * (M : Int) := Int.mul_nonneg (by omega) (by omega)
  have m2 : (k : Int) * (M : Int) ≤ 131072 := by omega
  have HC1 := hid hi1
  have hget : z4.getD i1 0 = z4[i1]?.getD 0 := by simp
  have HI := hid (show IsFitTo M S base z4 z5 k n n (z4[i1]?.getD 0) from ⟨by rw [← hget]; exact s4.fits i1, fun s => by
    rw [HC1.out, hget]
    exact ⟨fun h => .inl h, fun h => h.elim id fun h => absurd h (SomeTo.zero _ _ _ _ _ _)⟩⟩)
  have E5 := hid e5
  have HF := hid hfl
  obtain ⟨lt, d0, d1, d2, d5, d6, d7, d8⟩ := hfl
  clear hc hi1 x1 hget s4 e4 e5
  go_enter Try.func37, Try.ntmps37
  go_wp2
  go_quiet (fail)
  go_wp2
  go_loopw [7, 8] (fun v i wr => ∃ (j : Nat) (q : Int), n ≤ j ∧ (j ≤ S + 1 ∨ j = n) ∧ i = .int .i64 j ∧ v = .int .i64 q ∧ IsFitTo M S base z4 z5 k n j q ∧ Below w.heap.size w wr) (fun _ i _ => S + 1 - (intOf i).toNat)
  case atStart => exact ⟨n, _, Nat.le_refl _, .inr rfl, rfl, rfl, HI.out, below_drewN (Below.refl _ _) _⟩
  case round =>
    obtain ⟨j, q, hj1, hj2, rfl, rfl, hq, hbel⟩ := hrel
    have HQ := hid hq
    have HB := hid hbel
    have HFr := HF.out.below hbel
    have s5r := s5.below hbel
    obtain ⟨lt', r0, r1, r2, r5, r6, r7, r8⟩ := HFr
    clear d0 d1 d2 d5 d6 d7 d8 hq hbel cl j1
    by_cases hj : j ≤ S
    · have x2 := row_lt S rows k (j - 1) len5 E5.out hk (by omega)
      obtain ⟨b5, off5, rfl, hlt5, hc5⟩ := s5r.cells (by omega)
      obtain ⟨i2, hi2⟩ : ∃ i2, k * S + j - 1 = i2 := ⟨_, rfl⟩
      have j2 : (k : Int) * (S : Int) + (j : Int) - 1 = (i2 : Int) := by
        rw [← hi2]
        have : ((k * S + j - 1 : Nat) : Int) = ((k * S : Nat) : Int) + (j : Int) - 1 := by omega
        rw [this]; simp
      have x2' : i2 < len5 := by omega
      have c2 := hc5 i2 x2'
      have q2 := p5 i2 x2'
      obtain ⟨_, q3⟩ := s5.fits i2
      have m3 : (0 : Int) ≤ (k : Int) * (S : Int) := Int.mul_nonneg (by omega) (by omega)
      have m4 : (k : Int) * (S : Int) ≤ 131072 := by omega
      have hget2 : z5.getD i2 0 = z5[i2]?.getD 0 := by simp
      rw [hget2] at q2 q3
      have HC2 := hid hi2
      have HG2 := hid hget2
      clear hc5 hi2 x2 s5 s5r p5 hget2 HF
      have HCe := hid (ceilV_ok (z5[i2]?.getD 0 - base) ((j : Int) - (n : Int) + 1) ⟨by omega, by omega⟩ (by omega))
      go_wp2
      go_quiet ((go_at_call 41; exact Calls.quiet_of_same (ceil_any _ _ ⟨by omega, by omega⟩ (by omega) (by omega) _)))
      have HST := hid (HQ.out.step hj1 (by rw [HC2.out, HG2.out]; exact HCe.out))
      go_wp2
      go_roundw
      case rel => exact ⟨j + 1, _, by omega, .inl (by omega), by go_num, rfl, by rw [← max_if]; exact HST.out, below_drewN HB.out _⟩
      case measure => simp [intOf]; omega
    · have HE := hid (show IsFit M S base z4 z5 k n q from ⟨HQ.out.1, fun s => by
        rw [HQ.out.2 s]
        constructor
        · rintro (h | h)
          · exact .inl h
          · rcases hj2 with hj2 | rfl
            · exact .inr (h.mono hj2)
            · exact absurd h (SomeTo.zero _ _ _ _ _ _)
        · rintro (h | ⟨i, h1, h2, h3⟩)
          · exact .inl h
          · exact .inr ⟨i, h1, by omega, h3⟩⟩)
      clear s5 s5r p5
      go_wp2
      go_ret
      exact ⟨⟨_, rfl, HE.out⟩, HB.out⟩
end Go.Proofs.Qxb6601373a
