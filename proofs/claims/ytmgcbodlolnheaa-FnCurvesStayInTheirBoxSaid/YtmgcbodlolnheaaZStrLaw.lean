/-
  What a mask's sums are, of edges whose additions are near their areas: rounding counted by half units. No program is walked here.
  The edges of a path of straight curves, cubic ones: their lines, what they add. No program is walked here.
  What the edges of a path of straight curves add, against their areas. No program is walked here.
  The laws' slack and drift for edges farther out. Contracts of slack and drift.
  The plain law of FnStraightCurvesAreLines. No program is walked here.
-/
import Derived.Test.YtmgcbodlolnheaaZStraight
import Derived.Test.YtmgcbodlolnheaaZWay2
import Derived.Test.YtmgcbodlolnheaaZNearLaw
namespace Go.Proofs.Ytmgcbodlolnheaa
open Flt Go.RowKit
set_option linter.unusedVariables false

/-! ### cells, by half units -/
/-! ### what is in a cell -/
theorem cellR_diff (s : List (Nat × Rat)) (c : Nat) : cellR s c = sumR s c - (if c = 0 then 0 else sumR s (c - 1)) := by
  have h1 := sumN_cellR s c
  rw [sumN] at h1
  by_cases hc : c = 0
  · subst hc
    simp only [sumN] at h1
    rw [if_pos rfl]
    grind
  · have h2 := sumN_cellR s (c - 1)
    rw [show c - 1 + 1 = c by omega] at h2
    rw [if_neg hc]
    grind
/-- Parts of numbers whose sum is small. -/
theorem window {α : Type} {D f : α → Rat} {s : List α} (hf : ∀ e ∈ s, 0 ≤ f e ∧ f e ≤ 1) (hD : ab (sumE D s) ≤ 1) : ab (sumE (fun e => D e * f e) s) ≤ (sumE (fun e => ab (D e)) s + 1) / 2 := by
  have h1 : sumE (fun e => D e * f e) s = sumE (fun e => D e * (f e - 1 / 2)) s + 1 / 2 * sumE D s := by
    rw [← sumE_mul, ← sumE_add]
    exact sumE_congr fun e _ => by grind
  have h2 : ab (sumE (fun e => D e * (f e - 1 / 2)) s) ≤ sumE (fun e => 1 / 2 * ab (D e)) s := sumE_ab fun e he => by
    obtain ⟨a, b⟩ := hf e he
    have := ab_mul_le (x := D e) (y := f e - 1 / 2) Rat.le_refl (ab_le (y := 1 / 2) (by grind) (by grind))
    grind
  rw [sumE_mul] at h2
  have h3 := ab_add_le (sumE (fun e => D e * (f e - 1 / 2)) s) (1 / 2 * sumE D s)
  rw [← h1, ab_mul (1 / 2), ab_of_nonneg (x := (1 / 2 : Rat)) (by decide +kernel)] at h3
  grind
theorem sumE_near2 {α : Type} {f g δ : α → Rat} : ∀ {s : List α}, (∀ e ∈ s, ab (f e - g e) ≤ δ e) → ab (sumE f s - sumE g s) ≤ sumE δ s
  | [], _ => by simp only [sumE]; decide +kernel
  | e :: s, h => by
    have h1 := sumE_near2 (f := f) (g := g) (δ := δ) (s := s) fun e he => h e (by simp [he])
    have h2 := h e (by simp)
    have e1 : f e + sumE f s - (g e + sumE g s) = (f e - g e) + (sumE f s - sumE g s) := by grind
    rw [sumE, sumE, sumE, e1]
    have := ab_add_le (f e - g e) (sumE f s - sumE g s)
    grind
/-- How much of a row an edge goes down, in rows. -/
def dR (r : Int) (e : Pt × Pt) : Rat := (dph r e : Rat) / 64
section
variable {W H : Nat} {q : Rat} {δ len : Pt × Pt → Rat} {Ad : Pt × Pt → List (Nat × Nat)} {gs : List (Pt × Pt)}
  (hE : ∀ e ∈ gs, EG W H e (δ e) (len e) (Ad e)) (hq : ∀ e ∈ gs, ∀ r : Int, ab (dR (r - 1) e) + ab (dR r e) ≤ q)
include hE
include hq
/-! ### all the cells -/
end

/-! ### the sums of a mask -/
section
variable {W H : Nat} {q : Rat} {δ len : Pt × Pt → Rat} {Ad : Pt × Pt → List (Nat × Nat)} {gs : List (Pt × Pt)}
  (hE : ∀ e ∈ gs, EG W H e (δ e) (len e) (Ad e)) (hq : ∀ e ∈ gs, ∀ r : Int, ab (dR (r - 1) e) + ab (dR r e) ≤ q)
include hE
include hq
end
end Go.Proofs.Ytmgcbodlolnheaa

namespace Go.Proofs.Ytmgcbodlolnheaa
open Flt Go.RowKit
set_option linter.unusedVariables false

/-! ### level lines -/
/-! ### a straight cubic curve -/
theorem wqV {n : Int} (h : -100000 ≤ n ∧ n ≤ 100000) : F32 (wq n) ∧ V (wq n) = (n : Rat) / 64 ∧ Grid (-6) (V (wq n)) := by
  have hq := (wq_ok (n := n) (by omega) (by omega)).2
  exact ⟨hq.1, hq.2, hq.grid⟩
theorem p2_m16q : p2 (-16) = 1 / 65536 := by have := p2_neg 16; push_cast at this ⊢; grind
theorem p2_9 : p2 9 = 512 := by have := p2_val 9; simpa using this
/-- How far a straight curve is from a line, one coordinate. -/
theorem dev_st {x y z : Int} (hx : -30720 ≤ x ∧ x ≤ 30720) (hy : -30720 ≤ y ∧ y ≤ 30720) (hz : -30720 ≤ z ∧ z ≤ 30720) :
    FdevOk (wq x) (wq y) (wq z) ∧ F32 (fop .mul (fdev (wq x) (wq y) (wq z)) (fdev (wq x) (wq y) (wq z))) ∧ R32 (((x - 2 * y + z : Int) : Rat) / 64 * (((x - 2 * y + z : Int) : Rat) / 64)) (fop .mul (fdev (wq x) (wq y) (wq z)) (fdev (wq x) (wq y) (wq z))) := by
  have qx := (wq_ok (n := x) (by omega) (by omega)).2
  have qy := (wq_ok (n := y) (by omega) (by omega)).2
  have qz := (wq_ok (n := z) (by omega) (by omega)).2
  have bd : ∀ {a : Nat} {n : Int}, Q64 a n → -200000 ≤ n → n ≤ 200000 → ab (V a) ≤ 5000 := by
    intro a n h h1 h2
    have c1 := castLe h1
    have c2 := castLe h2
    push_cast at c1 c2
    rw [h.2]
    exact ab_le (by grind) (by grind)
  have e2 : Ex 0 1073741824 2 := ⟨c2.1.fin, by rw [c2.2, p2_zero]; push_cast; grind⟩
  have e2y : Ex (0 + -6) (fop .mul 1073741824 (wq y)) (2 * y) := Ex.mul e2 qy.ex (by omega) (by omega) (by decide) (by decide)
  have q2y : Q64 (fop .mul 1073741824 (wq y)) (2 * y) := Ex.q64 e2y
  have b1 := bd qy (by omega) (by omega)
  obtain ⟨k1, _⟩ := fmul_ok c2.1.fin qy.1 (big126 (by
    rw [c2.2]
    have : ab (2 * V (wq y)) ≤ 2 * 5000 := ab_mul_le (a := 2) (b := 5000) (by decide +kernel) b1
    grind))
  obtain ⟨k2, s2⟩ := qx.sub q2y (by omega) (by omega)
  have s3 : Q64 (fop .add (fop .sub (wq x) (fop .mul 1073741824 (wq y))) (wq z)) (x - 2 * y + z) := Ex.q64 (Ex.add s2.ex qz.ex (by omega) (by omega) (by decide) (by decide))
  have b2 := bd s2 (by omega) (by omega)
  have b3 := bd qz (by omega) (by omega)
  obtain ⟨k3, _⟩ := fadd_ok s2.1 qz.1 (big126 (by have := ab_add_le (V (fop .sub (wq x) (fop .mul 1073741824 (wq y)))) (V (wq z)); grind))
  have hdef : fdev (wq x) (wq y) (wq z) = fop .add (fop .sub (wq x) (fop .mul 1073741824 (wq y))) (wq z) := rfl
  rw [← hdef] at s3
  have b4 := bd s3 (by omega) (by omega)
  obtain ⟨k4, r4⟩ := fmul_ok s3.1 s3.1 (big126 (by
    have : ab (V (fdev (wq x) (wq y) (wq z)) * V (fdev (wq x) (wq y) (wq z))) ≤ 5000 * 5000 := ab_mul_le b4 b4
    grind))
  rw [s3.2] at r4
  exact ⟨⟨k1, k2, k3, k4⟩, r4.fin, r4⟩
theorem sq_le {x m : Rat} (h : ab x ≤ m) : 0 ≤ x * x ∧ x * x ≤ m * m := by
  have h1 := ab_mul_le h h
  exact ⟨sq_nn x, Rat.le_trans (le_ab _) h1⟩
end Go.Proofs.Ytmgcbodlolnheaa

namespace Go.Proofs.Ytmgcbodlolnheaa
open Flt Go.RowKit
set_option linter.unusedVariables false

end Go.Proofs.Ytmgcbodlolnheaa

namespace Go.Proofs.Ytmgcbodlolnheaa
open Go.ChangeShapes Go.WideShapes Go.ChangeAt Go.RowKit Go.Deep Flt
set_option linter.unusedVariables false

@[local go_sem ↓] theorem run_maxS31 {P : Program} {w : World} (ts : Array TypeId) (t : TypeId) (k k1 : IntKind) (x y : Int) : (Builtin.max_ ts t #[.int k x, .int k1 y]).run P w = .ok (.int k (imax x y)) w := by
  have e : imax x y = if x < y then y else x := by unfold imax; split <;> split <;> omega
  rw [e]
  simp [Builtin.max_, Builtin.max2]
end Go.Proofs.Ytmgcbodlolnheaa

namespace Go.Proofs.Ytmgcbodlolnheaa
open Flt Go.RowKit
set_option linter.unusedVariables false

/-! ### a line between points in 64ths -/
/-! ### the calls, and what they leave -/
/-! ### how near -/
theorem p2_lev : p2 ((2 : Int) - 25) = 2 * (1 / 16777216) ∧ p2 ((3 : Int) - 25) = 4 * (1 / 16777216) ∧ p2 ((4 : Int) - 25) = 8 * (1 / 16777216) := by
  have h23 : p2 (-23) = 1 / 8388608 := by have := p2_neg 23; push_cast at this ⊢; grind
  have h22 : p2 (-22) = 1 / 4194304 := by have := p2_neg 22; push_cast at this ⊢; grind
  have h21 : p2 (-21) = 1 / 2097152 := by have := p2_neg 21; push_cast at this ⊢; grind
  rw [show (2 : Int) - 25 = -23 by decide, show (3 : Int) - 25 = -22 by decide, show (4 : Int) - 25 = -21 by decide, h23, h22, h21]
  refine ⟨?_, ?_, ?_⟩ <;> grind
/-! ### the whole -/
end Go.Proofs.Ytmgcbodlolnheaa
