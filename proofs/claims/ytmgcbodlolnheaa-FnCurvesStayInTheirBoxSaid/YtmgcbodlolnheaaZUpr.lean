/-
  Sums of additions over rows and over closed paths, as rational numbers. No program is walked here.
  Vertical edges in 64ths: what they add, exactly, in either kind. No program is walked here.
  Additions of floating numbers that are whole numbers of one place, not too many: everything is exact. No program is walked here.
  Vertical edges in 64ths in floating numbers: what they add, exactly. No program is walked here.
  Closed paths of vertical and horizontal edges: the sums that the masks are made of. No program is walked here.
-/
import Derived.Test.YtmgcbodlolnheaaZFloEdges
import Derived.Test.YtmgcbodlolnheaaZSpec1
namespace Go.Proofs.Ytmgcbodlolnheaa
open Flt Go.RowKit
set_option linter.unusedVariables false

/-- The sum of the additions at places up to p. -/
def sumR : List (Nat × Rat) → Nat → Rat
  | [], _ => 0
  | (k, v) :: t, p => (if k ≤ p then v else 0) + sumR t p
theorem sumR_append : ∀ (s t : List (Nat × Rat)) (p : Nat), sumR (s ++ t) p = sumR s p + sumR t p
  | [], _, _ => by simp only [List.nil_append, sumR]; grind
  | (k, v) :: s, t, p => by rw [List.cons_append, sumR, sumR_append s t, sumR]; grind
/-- All additions. -/
def totR : List (Nat × Rat) → Rat
  | [] => 0
  | (_, v) :: t => v + totR t
theorem totR_append : ∀ (s t : List (Nat × Rat)), totR (s ++ t) = totR s + totR t
  | [], _ => by simp only [List.nil_append, totR]; grind
  | (k, v) :: s, t => by rw [List.cons_append, totR, totR_append s t, totR]; grind
theorem sumR_all : ∀ {s : List (Nat × Rat)} {p : Nat}, (∀ x ∈ s, x.1 ≤ p) → sumR s p = totR s
  | [], _, _ => rfl
  | (k, v) :: s, p, h => by
    rw [sumR, totR, if_pos (h (k, v) (by simp)), sumR_all (fun x hx => h x (by simp [hx]))]
theorem sumR_none : ∀ {s : List (Nat × Rat)} {p : Nat}, (∀ x ∈ s, p < x.1) → sumR s p = 0
  | [], _, _ => rfl
  | (k, v) :: s, p, h => by
    have h1 := h (k, v) (by simp)
    simp only at h1
    rw [sumR, if_neg (by omega), sumR_none (fun x hx => h x (by simp [hx]))]
    grind
/-- Floating numbers, so read. -/
def valL (s : List (Nat × Nat)) : List (Nat × Rat) := s.map fun x => (x.1, V x.2)
theorem valL_append (s t : List (Nat × Nat)) : valL (s ++ t) = valL s ++ valL t := by simp [valL]

/-! ### rows -/
def rowsR (f : Int → Rat) : Int → Nat → Rat
  | _, 0 => 0
  | y, k + 1 => f y + rowsR f (y + 1) k
theorem rowsR_add (f : Int → Rat) : ∀ (i : Nat) (y : Int) (j : Nat), rowsR f y (i + j) = rowsR f y i + rowsR f (y + i) j
  | 0, y, j => by
    have e : y + ((0 : Nat) : Int) = y := by omega
    rw [Nat.zero_add, e, rowsR]
    grind
  | i + 1, y, j => by
    have e : y + ((i + 1 : Nat) : Int) = y + 1 + (i : Int) := by omega
    rw [show i + 1 + j = (i + j) + 1 by omega, rowsR, rowsR_add f i (y + 1) j, rowsR, e]
    grind
theorem rowsR_zero {f : Int → Rat} : ∀ {k : Nat} {y : Int}, (∀ r, y ≤ r → r < y + k → f r = 0) → rowsR f y k = 0
  | 0, _, _ => rfl
  | k + 1, y, h => by
    rw [rowsR, h y (by omega) (by omega), rowsR_zero (fun r h1 h2 => h r (by omega) (by omega))]
    grind
theorem rowsR_congr {f g : Int → Rat} : ∀ {k : Nat} {y : Int}, (∀ r, y ≤ r → r < y + k → f r = g r) → rowsR f y k = rowsR g y k
  | 0, _, _ => rfl
  | k + 1, y, h => by
    rw [rowsR, rowsR, h y (by omega) (by omega), rowsR_congr (fun r h1 h2 => h r (by omega) (by omega))]
/-- More rows, of which nothing comes. -/
theorem rowsR_sup {f : Int → Rat} {a a' : Int} {k k' : Nat} (h1 : a' ≤ a) (h2 : a + k ≤ a' + k') (z1 : ∀ r, a' ≤ r → r < a → f r = 0) (z2 : ∀ r, a + k ≤ r → r < a' + k' → f r = 0) : rowsR f a' k' = rowsR f a k := by
  obtain ⟨i, hi⟩ : ∃ i : Nat, a = a' + i := ⟨(a - a').toNat, by omega⟩
  obtain ⟨j, hj⟩ : ∃ j : Nat, k' = i + (k + j) := ⟨k' - i - k, by omega⟩
  subst hj
  rw [rowsR_add, rowsR_add, ← hi, rowsR_zero (f := f) (k := i) (fun r h3 h4 => z1 r h3 (by omega)), rowsR_zero (f := f) (k := j) (fun r h3 h4 => z2 r h3 (by push_cast; omega))]
  grind
/-- Two stretches of rows that hold all of which something comes. -/
theorem rowsR_same {f : Int → Rat} {a b : Int} {k j : Nat} (z : ∀ r, ¬ (a ≤ r ∧ r < a + k) → f r = 0) (z' : ∀ r, ¬ (b ≤ r ∧ r < b + j) → f r = 0) : rowsR f a k = rowsR f b j := by
  obtain ⟨c, hc⟩ : ∃ c, c = if a ≤ b then a else b := ⟨_, rfl⟩
  obtain ⟨n, hn⟩ : ∃ n : Nat, n = ((if a + k ≤ b + j then b + j else a + k) - c).toNat := ⟨_, rfl⟩
  have e1 : rowsR f c n = rowsR f a k := rowsR_sup (by split at hc <;> omega) (by split at hc <;> split at hn <;> omega) (fun r h1 h2 => z r (by omega)) (fun r h1 h2 => z r (by omega))
  have e2 : rowsR f c n = rowsR f b j := rowsR_sup (by split at hc <;> omega) (by split at hc <;> split at hn <;> omega) (fun r h1 h2 => z' r (by omega)) (fun r h1 h2 => z' r (by omega))
  rw [← e1, e2]
/-- The rows up to Y. -/
theorem rowsR_last (f : Int → Rat) (Y : Nat) : rowsR f 0 (Y + 1) = rowsR f 0 Y + f Y := by
  rw [rowsR_add f Y 0 1, rowsR, rowsR]
  have e : (0 : Int) + (Y : Int) = Y := by omega
  rw [e]
  grind
/-- Sums over edges. -/
def sumE {α : Type} (f : α → Rat) : List α → Rat
  | [] => 0
  | e :: t => f e + sumE f t
theorem sumE_append {α : Type} (f : α → Rat) : ∀ (s t : List α), sumE f (s ++ t) = sumE f s + sumE f t
  | [], _ => by simp only [List.nil_append, sumE]; grind
  | e :: s, t => by rw [List.cons_append, sumE, sumE_append f s t, sumE]; grind
theorem sumE_add {α : Type} (f g : α → Rat) : ∀ (s : List α), sumE (fun e => f e + g e) s = sumE f s + sumE g s
  | [] => by simp only [sumE]; grind
  | e :: s => by rw [sumE, sumE_add f g s, sumE, sumE]; grind
theorem sumE_mul {α : Type} (c : Rat) (f : α → Rat) : ∀ (s : List α), sumE (fun e => c * f e) s = c * sumE f s
  | [] => by simp only [sumE]; grind
  | e :: s => by rw [sumE, sumE_mul c f s, sumE]; grind
theorem sumE_congr {α : Type} {f g : α → Rat} : ∀ {s : List α}, (∀ e ∈ s, f e = g e) → sumE f s = sumE g s
  | [], _ => rfl
  | e :: s, h => by rw [sumE, sumE, h e (by simp), sumE_congr (fun e he => h e (by simp [he]))]
/-! ### closed paths -/
/-- How far down row r a height is, in 64ths. -/
def ph (r t : Int) : Int := imin (imax (t - 64 * r) 0) 64
/-- How much of row r an edge goes down. -/
def dph (r : Int) (e : Pt × Pt) : Int := ph r e.2.2 - ph r e.1.2
end Go.Proofs.Ytmgcbodlolnheaa

namespace Go.Proofs.Ytmgcbodlolnheaa
open Flt Go.RowKit
set_option linter.unusedVariables false

theorem clamp_le_iff {k : Int} {W X : Nat} (hX : X < W) : clampN k W ≤ X ↔ k ≤ X := by
  unfold clampN
  split
  · omega
  · split <;> omega

/-! ### fixed point -/
theorem rowsR_mul (c : Rat) (f : Int → Rat) : ∀ (k : Nat) (y : Int), rowsR (fun r => c * f r) y k = c * rowsR f y k
  | 0, y => by simp only [rowsR]; grind
  | k + 1, y => by simp only [rowsR]; rw [rowsR_mul c f k (y + 1)]; grind
end Go.Proofs.Ytmgcbodlolnheaa

namespace Go.Proofs.Ytmgcbodlolnheaa
open Flt Go.RowKit
set_option linter.unusedVariables false

/-- A float32 that is n times a power of two. -/
def Ex (q : Int) (a : Nat) (n : Int) : Prop := F32 a ∧ V a = n * p2 q
theorem big_ex {q n : Int} (hq : q ≤ 50) (h1 : n ≤ 16777216) (h2 : -16777216 ≤ n) : Flt.ab ((n : Rat) * p2 q) ≤ p2 126 := by
  rw [ab_mul, ab_of_nonneg (Rat.le_of_lt (p2_pos q))]
  have h3 := ab_int_le (n := n) (b := 16777216) (by omega) (by omega)
  have h4 : p2 q ≤ p2 50 := p2_mono hq
  have h5 : ((16777216 : Nat) : Rat) = p2 24 := by
    have : p2 ((24 : Nat) : Int) = ((2 ^ 24 : Nat) : Rat) := p2_nat 24
    rw [show p2 24 = p2 ((24 : Nat) : Int) from rfl, this]
  rw [h5] at h3
  have h6 := Rat.mul_le_mul_of_nonneg_right h3 (Rat.le_of_lt (p2_pos q))
  have h7 := Rat.mul_le_mul_of_nonneg_left h4 (Rat.le_of_lt (p2_pos 24))
  have e50 : p2 24 * p2 50 = p2 74 := (p2_add 24 50).symm
  rw [e50] at h7
  exact Rat.le_trans h6 (Rat.le_trans h7 (p2_mono (by decide)))
section
variable {q q' : Int} {a b : Nat} {m n : Int}
theorem Ex.round {x : Rat} {r : Nat} (h : R32 x r) (hx : x = n * p2 q) (h1 : n ≤ 16777216) (h2 : -16777216 ≤ n) (hq : -149 ≤ q) : Ex q r n := ⟨h.fin, by rw [h.eq hx h1 h2 hq, hx]⟩
theorem Ex.add (ha : Ex q a m) (hb : Ex q b n) (h1 : m + n ≤ 16777216) (h2 : -16777216 ≤ m + n) (hq : -149 ≤ q) (hq' : q ≤ 50) : Ex q (fop .add a b) (m + n) := by
  have hx : V a + V b = ((m + n : Int) : Rat) * p2 q := by rw [ha.2, hb.2]; push_cast; grind
  have := (fadd_ok ha.1 hb.1 (by rw [hx]; exact big_ex hq' h1 h2)).2
  exact Ex.round this hx h1 h2 hq
theorem Ex.mul {p : Int} (ha : Ex p a m) (hb : Ex q b n) (h1 : m * n ≤ 16777216) (h2 : -16777216 ≤ m * n) (hq : -149 ≤ p + q) (hq' : p + q ≤ 50) : Ex (p + q) (fop .mul a b) (m * n) := by
  have hx : V a * V b = ((m * n : Int) : Rat) * p2 (p + q) := by rw [ha.2, hb.2, p2_add]; push_cast; grind
  have := (fmul_ok ha.1 hb.1 (by rw [hx]; exact big_ex hq' h1 h2)).2
  exact Ex.round this hx h1 h2 hq
theorem Q64.ex (h : Q64 a n) : Ex (-6) a n := ⟨h.1, by rw [h.2, p2_m6]; grind⟩
theorem Ex.q64 (h : Ex (-6) a n) : Q64 a n := ⟨h.1, by rw [h.2, p2_m6]; grind⟩
end
end Go.Proofs.Ytmgcbodlolnheaa

namespace Go.Proofs.Ytmgcbodlolnheaa
open Flt Go.RowKit
set_option linter.unusedVariables false

end Go.Proofs.Ytmgcbodlolnheaa

namespace Go.Proofs.Ytmgcbodlolnheaa
open Flt Go.RowKit
set_option linter.unusedVariables false

/-! ### coarser places -/
/-! ### bytes -/
end Go.Proofs.Ytmgcbodlolnheaa
