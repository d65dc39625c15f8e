/- What is in a cell beside the mask, as a mean over shifts of the mask of what edges have left and right of it. The contents of the cells beside a mask behind some edges of closed paths: bounded by tables of -/
import Derived.Test.YtmgcbodlolnheaaZ17
import Derived.Test.YtmgcbodlolnheaaZ19
namespace Go.Proofs.Ytmgcbodlolnheaa
open Flt Go.RowKit
set_option linter.unusedVariables false
def frP (a b o : Rat) : Rat := if a = b then (if a <= o then 1 else 0) else (pos0 (o - a) - pos0 (o - b)) / (b - a)
def pp0 (z : Rat) : Rat := pos0 z * pos0 z / 2
theorem Fd_cases (z : Rat) {d : Rat} (hd : 0 <= d) : (z <= -d /\ pp0 (z + d) - pp0 z = 0 /\ pos0 (z + d) = 0 /\ pos0 z = 0) ∨ (-d < z /\ z < 0 /\ pp0 (z + d) - pp0 z = (z + d) * (z + d) / 2 /\ pos0 (z + d) = z + d /\ pos0 z = 0) ∨ (0 <= z /\ pp0 (z + d) - pp0 z = d * z + d * d / 2 /\ pos0 (z + d) = z + d /\ pos0 z = z) := by
 unfold pp0
 by_cases h1 : z <= -d
 ·left
  rw [pos0_n (show z + d <= 0 by grind), pos0_n (show z <= 0 by grind)]
  refine ⟨h1, by grind, rfl, rfl⟩
 ·by_cases h2 : z < 0
  ·right; left
   rw [pos0_p (show 0 <= z + d by grind), pos0_n (show z <= 0 by grind)]
   refine ⟨by grind, h2, by grind, rfl, rfl⟩
  ·right; right
   rw [pos0_p (show 0 <= z + d by grind), pos0_p (show 0 <= z by grind)]
   refine ⟨by grind, by grind, rfl, rfl⟩
theorem Fd_diff {x y d : Rat} (hd : 0 <= d) (hxy : y <= x) : d * (pos0 x - pos0 y) <= (pp0 (x + d) - pp0 x) - (pp0 (y + d) - pp0 y) /\ (pp0 (x + d) - pp0 x) - (pp0 (y + d) - pp0 y) <= d * (pos0 (x + d) - pos0 (y + d)) := by
 rcases Fd_cases x hd with ⟨a1, a2, a3, a4⟩ | ⟨a0, a1, a2, a3, a4⟩ | ⟨a1, a2, a3, a4⟩ <;> rcases Fd_cases y hd with ⟨b1, b2, b3, b4⟩ | ⟨b0, b1, b2, b3, b4⟩ | ⟨b1, b2, b3, b4⟩ <;> rw [a2, a3, a4, b2, b3, b4]
 ·constructor <;> grind
 ·exfalso; grind
 ·have d0 : d = 0 := by grind
  have y0 : y = 0 := by grind
  rw [d0, y0]
  constructor <;> grind
 ·have m1 := sq_nn (x + d)
  have m2 := Rat.mul_nonneg (show 0 <= x + d by grind) (show 0 <= d - x by grind)
  constructor <;> grind
 ·have m1 := Rat.mul_nonneg (show 0 <= x - y by grind) (show 0 <= x + d + (y + d) by grind)
  have m2 := Rat.mul_nonneg (show 0 <= x - y by grind) (show 0 <= -(x + y) by grind)
  constructor <;> grind
 ·exfalso; grind
 ·have m1 := sq_nn d
  constructor <;> grind
 ·have m1 := sq_nn y
  have m2 := Rat.mul_nonneg (show 0 <= -y by grind) (show 0 <= y + 2 * d by grind)
  constructor <;> grind
 ·constructor <;> grind
theorem kk_pp (z : Rat) : kk z = pp0 z - pp0 (z - 1) := by
 unfold pp0 pos0
 rcases cl_cases z with ⟨h, _, e⟩ | ⟨h, h', _, e⟩ | ⟨h, _, e⟩ <;> rw [e]
 ·rw [if_pos h, if_pos (by grind)]; grind
 ·rw [if_neg (by grind), if_pos (by grind)]; grind
 ·rw [if_neg (by grind), if_neg (by grind)]; grind
def PP (a b o : Rat) : Rat := if a = b then pos0 (o - a) else (pp0 (o - a) - pp0 (o - b)) / (b - a)
theorem mean_PP (a b : Rat) : mean (1 - a) (1 - b) = PP a b 1 - PP a b 0 := by
 unfold PP
 by_cases h : a = b
 ·subst h
  rw [if_pos rfl, if_pos rfl, mean_self]
  unfold pos0
  rcases cl_cases (1 - a) with ⟨h1, e, _⟩ | ⟨h1, h2, e, _⟩ | ⟨h1, e, _⟩ <;> rw [e]
  ·rw [if_pos (by grind), if_pos (by grind)]; grind
  ·rw [if_neg (by grind), if_pos (by grind)]; grind
  ·rw [if_neg (by grind), if_neg (by grind)]; grind
 ·rw [if_neg h, if_neg h]
  have hm := mean_mul (1 - a) (1 - b)
  rw [kk_pp, kk_pp, show (1 : Rat) - a - 1 = 0 - a by grind, show (1 : Rat) - b - 1 = 0 - b by grind] at hm
  have hd : b - a ≠ 0 := by grind
  have i : (b - a) * (b - a)⁻¹ = 1 := Rat.mul_inv_cancel _ hd
  rw [Rat.div_def, Rat.div_def]
  grind
theorem PP_step {a b o d : Rat} (hd : 0 <= d) : d * frP a b o <= PP a b (o + d) - PP a b o /\ PP a b (o + d) - PP a b o <= d * frP a b (o + d) := by
 unfold PP frP
 by_cases h : a = b
 ·subst h
  simp only [if_true]
  unfold pos0
  constructor <;> (split <;> split <;> split) <;> grind
 ·rw [if_neg h, if_neg h, if_neg h, if_neg h]
  have key : ∀ {a b : Rat}, a < b -> d * ((pos0 (o - a) - pos0 (o - b)) / (b - a)) <= (pp0 (o + d - a) - pp0 (o + d - b)) / (b - a) - (pp0 (o - a) - pp0 (o - b)) / (b - a) /\ (pp0 (o + d - a) - pp0 (o + d - b)) / (b - a) - (pp0 (o - a) - pp0 (o - b)) / (b - a) <= d * ((pos0 (o + d - a) - pos0 (o + d - b)) / (b - a)) := by
   intro a b hab
   have hi : 0 <= (b - a)⁻¹ := Rat.le_of_lt (Rat.inv_pos.2 (by grind))
   obtain ⟨q1, q2⟩ := Fd_diff (x := o - a) (y := o - b) hd (by grind)
   rw [show o - a + d = o + d - a by grind, show o - b + d = o + d - b by grind] at q1 q2
   have m1 := Rat.mul_le_mul_of_nonneg_right q1 hi
   have m2 := Rat.mul_le_mul_of_nonneg_right q2 hi
   simp only [Rat.div_def]
   constructor <;> grind
  rcases Rat.le_total (a := a) (b := b) with c | c
  ·exact key (by grind)
  ·have k := key (a := b) (b := a) (by grind)
   have e : ∀ x y : Rat, (x - y) / (b - a) = (y - x) / (a - b) := fun x y => by
    have i1 : (b - a) * (b - a)⁻¹ = 1 := Rat.mul_inv_cancel _ (by grind)
    have i2 : (a - b) * (a - b)⁻¹ = 1 := Rat.mul_inv_cancel _ (by grind)
    rw [Rat.div_def, Rat.div_def]
    generalize (b - a)⁻¹ = u at *
    generalize (a - b)⁻¹ = v at *
    have e1 : u = u * ((a - b) * v) := by rw [i2, Rat.mul_one]
    have e2 : u * ((a - b) * v) = -((b - a) * u) * v := by grind
    rw [e2, i1] at e1
    rw [e1]
    grind
   rw [e, e, e, e]
   exact k
theorem mean_sum {a b : Rat} {n : Nat} (hn : 0 < n) : ∀ m : Nat, m <= n -> (sumN (fun k => frP a b ((k : Rat) / n)) m) * (1 / (n : Rat)) <= PP a b ((m : Rat) / n) - PP a b 0 /\ PP a b ((m : Rat) / n) - PP a b 0 <= (sumN (fun k => frP a b (((k + 1 : Nat) : Rat) / n)) m) * (1 / (n : Rat))
 | 0, _ => by
  have e : ((0 : Nat) : Rat) / (n : Rat) = 0 := by rw [Rat.div_def]; push_cast; grind
  rw [e]
  simp only [sumN]
  constructor <;> grind
 | m + 1, h => by
  obtain ⟨h1, h2⟩ := mean_sum (a := a) (b := b) hn m (by omega)
  have hnR : (0 : Rat) < n := by exact_mod_cast hn
  have hd : (0 : Rat) <= 1 / n := div_pos0 (by decide) hnR
  obtain ⟨p1, p2⟩ := PP_step (a := a) (b := b) (o := (m : Rat) / n) hd
  have e : (m : Rat) / n + 1 / n = ((m + 1 : Nat) : Rat) / n := by push_cast; rw [Rat.div_def, Rat.div_def, Rat.div_def]; grind
  rw [e] at p1 p2
  rw [sumN, sumN]
  constructor <;> grind
theorem frP_bd (a b o : Rat) : 0 <= frP a b o /\ frP a b o <= 1 := by
 unfold frP
 by_cases h : a = b
 ·rw [if_pos h]; split <;> constructor <;> grind
 ·rw [if_neg h]
  have key : ∀ {a b : Rat}, a < b -> 0 <= (pos0 (o - a) - pos0 (o - b)) / (b - a) /\ (pos0 (o - a) - pos0 (o - b)) / (b - a) <= 1 := by
   intro a b hab
   have h1 : 0 <= pos0 (o - a) - pos0 (o - b) /\ pos0 (o - a) - pos0 (o - b) <= b - a := by
    unfold pos0
    constructor <;> (split <;> split) <;> grind
   exact ⟨div_pos0 h1.1 (by grind), div_le1 h1.2 (by grind)⟩
  rcases Rat.le_total (a := a) (b := b) with c | c
  ·exact key (by grind)
  ·have k := key (a := b) (b := a) (by grind)
   have e : (pos0 (o - a) - pos0 (o - b)) / (b - a) = (pos0 (o - b) - pos0 (o - a)) / (a - b) := by
    have i1 : (b - a) * (b - a)⁻¹ = 1 := Rat.mul_inv_cancel _ (by grind)
    have i2 : (a - b) * (a - b)⁻¹ = 1 := Rat.mul_inv_cancel _ (by grind)
    rw [Rat.div_def, Rat.div_def]
    generalize (b - a)⁻¹ = u at *
    generalize (a - b)⁻¹ = v at *
    have e1 : u = u * ((a - b) * v) := by rw [i2, Rat.mul_one]
    have e2 : u * ((a - b) * v) = -((b - a) * u) * v := by grind
    rw [e2, i1] at e1
    rw [e1]
    grind
   rw [e]
   exact k
theorem sumN_shift (f : Nat -> Rat) : ∀ n : Nat, sumN (fun k => f (k + 1)) n = sumN f n + f n - f 0
 | 0 => by simp only [sumN]; grind
 | n + 1 => by rw [sumN, sumN_shift f n, sumN]; grind
theorem mean_avg {a b : Rat} {n : Nat} (hn : 0 < n) : ab (mean (1 - a) (1 - b) - sumN (fun k => frP a b ((k : Rat) / n)) n * (1 / (n : Rat))) <= 1 / (n : Rat) /\
  ab (mean (1 - a) (1 - b) - sumN (fun k => frP a b (((k + 1 : Nat) : Rat) / n)) n * (1 / (n : Rat))) <= 1 / (n : Rat) := by
 obtain ⟨h1, h2⟩ := mean_sum (a := a) (b := b) hn n (Nat.le_refl _)
 have hnR : (0 : Rat) < n := by exact_mod_cast hn
 have hd : (0 : Rat) <= 1 / n := div_pos0 (by decide) hnR
 have e : (n : Rat) / n = 1 := by
  rw [Rat.div_def]
  exact Rat.mul_inv_cancel _ (by grind)
 rw [e, <- mean_PP] at h1 h2
 have hs : sumN (fun k => frP a b (((k + 1 : Nat) : Rat) / n)) n = sumN (fun k => frP a b ((k : Rat) / n)) n + frP a b ((n : Rat) / n) - frP a b (((0 : Nat) : Rat) / n) := sumN_shift (fun k => frP a b ((k : Rat) / n)) n
 rw [hs] at h2 ⊢
 obtain ⟨b1, b2⟩ := frP_bd a b ((n : Rat) / n)
 obtain ⟨b3, b4⟩ := frP_bd a b (((0 : Nat) : Rat) / n)
 generalize sumN (fun k => frP a b ((k : Rat) / n)) n = S at *
 generalize frP a b ((n : Rat) / n) = f1 at *
 generalize frP a b (((0 : Nat) : Rat) / n) = f0 at *
 have m1 := Rat.mul_le_mul_of_nonneg_right (show f1 - f0 <= 1 by grind) hd
 have m2 := Rat.mul_le_mul_of_nonneg_right (show -1 <= f1 - f0 by grind) hd
 have m0 : 0 <= (f1 - f0) * (1 / (n : Rat)) := by grind
 constructor
 ·exact ab_le (by grind) (by grind)
 ·exact ab_le (by grind) (by grind)
theorem gLe_flip (x0 y0 x1 y1 : Rat) : gLe x0 (1 - y0) x1 (1 - y1) = -gLe x0 y0 x1 y1 := by
 have c : ∀ y, cl (1 - y) = 1 - cl y := fun y => by
  rcases cl_cases y with ⟨h, e, _⟩ | ⟨h, h', e, _⟩ | ⟨h, e, _⟩ <;> rcases cl_cases (1 - y) with ⟨k, e', _⟩ | ⟨k, k', e', _⟩ | ⟨k, e', _⟩ <;> grind
 unfold gLe
 split
 ·rw [c, c]; grind
 ·split
  ·rw [show 1 - y0 + (1 - y1 - (1 - y0)) * (-x0 / (x1 - x0)) = 1 - (y0 + (y1 - y0) * (-x0 / (x1 - x0))) by grind, c, c]; grind
  ·grind
theorem gLe_up {xl yl xr yr o s : Rat} (hx : xl < xr) (hs : 0 < s) (h : s * (yr - yl) = xr - xl) : gLe (xl - o) yl (xr - o) yr = (cl yr - cl yl) * frP (xl + s * (cl yl - yl)) (xl + s * (cl yr - yl)) o := by
 have hy : yl < yr := by
  have : 0 < s * (yr - yl) := by grind
  have := pos_of_mul (a := yr - yl) hs (by grind)
  rcases Rat.le_total (a := yr) (b := yl) with c | c
  ·have := Rat.mul_nonneg (Rat.le_of_lt hs) (show 0 <= yl - yr by grind)
   grind
  ·grind
 obtain ⟨t, ht⟩ : ∃ t, s * (t - yl) = o - xl := by
  have i : s * s⁻¹ = 1 := Rat.mul_inv_cancel _ (by grind)
  exact ⟨yl + (o - xl) * s⁻¹, by grind⟩
 have hcr : yl + (yr - yl) * (-(xl - o) / (xr - o - (xl - o))) = t := by
  have hd : xr - o - (xl - o) = s * (yr - yl) := by grind
  have hn : -(xl - o) = s * (t - yl) := by grind
  rw [hd, hn, Rat.div_def]
  have i : s * (yr - yl) * (s * (yr - yl))⁻¹ = 1 := Rat.mul_inv_cancel _ (by grind)
  generalize (s * (yr - yl))⁻¹ = v at *
  have e : (yr - yl) * (s * (t - yl) * v) = (t - yl) * (s * (yr - yl) * v) := by grind
  rw [e, i]
  grind
 have sgn : ∀ u : Rat, (u <= 0 ↔ s * u <= 0) := fun u => by
  constructor
  ·intro hu
   have := Rat.mul_nonneg (Rat.le_of_lt hs) (show 0 <= -u by grind)
   grind
  ·intro hu
   rcases Rat.le_total (a := u) (b := 0) with c | c
   ·exact c
   ·have m := Rat.mul_nonneg (Rat.le_of_lt hs) c
    have : s * u = 0 := by grind
    rcases Rat.mul_eq_zero.1 this with z | z
    ·grind
    ·grind
 have psc : ∀ u : Rat, pos0 (s * u) = s * pos0 u := fun u => by
  unfold pos0
  by_cases c : u <= 0
  ·rw [if_pos c, if_pos ((sgn u).1 c)]; grind
  ·rw [if_neg c, if_neg (fun h => c ((sgn u).2 h))]
 have k1 : (xr - o <= 0) ↔ yr <= t := by
  have := sgn (yr - t)
  have e : s * (yr - t) = xr - o := by grind
  rw [e] at this
  constructor
  ·intro h; have := this.2 h; grind
  ·intro h; exact this.1 (by grind)
 have k2 : (xl - o <= 0) ↔ yl <= t := by
  have := sgn (yl - t)
  have e : s * (yl - t) = xl - o := by grind
  rw [e] at this
  constructor
  ·intro h; have := this.2 h; grind
  ·intro h; exact this.1 (by grind)
 have fr : (cl yr - cl yl) * frP (xl + s * (cl yl - yl)) (xl + s * (cl yr - yl)) o = pos0 (t - cl yl) - pos0 (t - cl yr) := by
  unfold frP
  by_cases c : cl yl = cl yr
  ·rw [c]; grind
  ·have hne : xl + s * (cl yl - yl) ≠ xl + s * (cl yr - yl) := fun hh => by
    apply c
    have : s * (cl yl - cl yr) = 0 := by grind
    rcases Rat.mul_eq_zero.1 this with z | z
    ·grind
    ·grind
   rw [if_neg hne, show o - (xl + s * (cl yl - yl)) = s * (t - cl yl) by grind, show o - (xl + s * (cl yr - yl)) = s * (t - cl yr) by grind, psc, psc, show xl + s * (cl yr - yl) - (xl + s * (cl yl - yl)) = s * (cl yr - cl yl) by grind, Rat.div_def]
   have hd : s * (cl yr - cl yl) ≠ 0 := fun hh => by
    rcases Rat.mul_eq_zero.1 hh with z | z
    ·grind
    ·apply c; grind
   have i : s * (cl yr - cl yl) * (s * (cl yr - cl yl))⁻¹ = 1 := Rat.mul_inv_cancel _ hd
   generalize (s * (cl yr - cl yl))⁻¹ = v at *
   have e : (cl yr - cl yl) * ((s * pos0 (t - cl yl) - s * pos0 (t - cl yr)) * v) = (pos0 (t - cl yl) - pos0 (t - cl yr)) * (s * (cl yr - cl yl) * v) := by grind
   rw [e, i]
   grind
 rw [fr]
 unfold gLe
 rw [hcr]
 have goal : (if yr <= t then cl yr - cl yl else if yl <= t then cl t - cl yl else 0) = pos0 (t - cl yl) - pos0 (t - cl yr) := by
  unfold pos0 cl
  split <;> (repeat' split) <;> grind
 by_cases c1 : yr <= t
 ·rw [if_pos (k1.2 c1)]
  rw [if_pos c1] at goal
  exact goal
 ·rw [if_neg (fun h => c1 (k1.1 h))]
  rw [if_neg c1] at goal
  by_cases c2 : yl <= t
  ·rw [if_pos (k2.2 c2)]
   rw [if_pos c2] at goal
   exact goal
  ·rw [if_neg (fun h => c2 (k2.1 h))]
   rw [if_neg c2] at goal
   exact goal
theorem cl_flip (y : Rat) : cl (1 - y) = 1 - cl y := by
 rcases cl_cases y with ⟨h, e, _⟩ | ⟨h, h', e, _⟩ | ⟨h, e, _⟩ <;> rcases cl_cases (1 - y) with ⟨k, e', _⟩ | ⟨k, k', e', _⟩ | ⟨k, e', _⟩ <;> grind
theorem gLe_flat (x0 y x1 : Rat) : gLe x0 y x1 y = 0 := by
 unfold gLe
 split
 ·grind
 ·split
  ·rw [show y + (y - y) * (-x0 / (x1 - x0)) = y by grind]; grind
  ·rfl
theorem gLe_fr {xl yl xr yr o s : Rat} (hx : xl <= xr) (h : s * (yr - yl) = xr - xl) : gLe (xl - o) yl (xr - o) yr = (cl yr - cl yl) * frP (xl + s * (cl yl - yl)) (xl + s * (cl yr - yl)) o := by
 by_cases hy : yl = yr
 ·subst hy
  rw [gLe_flat]
  grind
 ·by_cases hxx : xl = xr
  ·subst hxx
   have hs0 : s = 0 := by
    have : s * (yr - yl) = 0 := by grind
    rcases Rat.mul_eq_zero.1 this with z | z
    ·exact z
    ·exfalso; apply hy; grind
   subst hs0
   rw [show xl + 0 * (cl yl - yl) = xl by grind, show xl + 0 * (cl yr - yl) = xl by grind]
   unfold gLe frP
   rw [if_pos (show xl = xl from rfl)]
   by_cases c : xl <= o
   ·rw [if_pos (show xl - o <= 0 by grind), if_pos c]; grind
   ·rw [if_neg (show ¬ xl - o <= 0 by grind), if_neg (show ¬ xl - o <= 0 by grind), if_neg c]; grind
  ·have hlt : xl < xr := by grind
   have hs : s ≠ 0 := fun z => by rw [z] at h; grind
   rcases Rat.le_total (a := 0) (b := s) with c | c
   ·exact gLe_up hlt (by grind) h
   ·have k := gLe_up (xl := xl) (yl := 1 - yl) (xr := xr) (yr := 1 - yr) (o := o) (s := -s) hlt (by grind) (by grind)
    rw [gLe_flip, cl_flip, cl_flip] at k
    have e1 : xl + -s * (1 - cl yl - (1 - yl)) = xl + s * (cl yl - yl) := by grind
    have e2 : xl + -s * (1 - cl yr - (1 - yl)) = xl + s * (cl yr - yl) := by grind
    rw [e1, e2] at k
    grind
theorem gRi_gLe (W x0 y0 x1 y1 : Rat) : gRi W x0 y0 x1 y1 = -gLe (W - x1) (y1 + 1) (W - x0) (y0 + 1) := by
 unfold gRi gLe
 by_cases c1 : W <= x0
 ·rw [if_pos c1, if_pos (show W - x0 <= 0 by grind)]; grind
 ·rw [if_neg c1, if_neg (show ¬ W - x0 <= 0 by grind)]
  by_cases c2 : W <= x1
  ·rw [if_pos c2, if_pos (show W - x1 <= 0 by grind)]
   have hd : x1 - x0 ≠ 0 := by grind
   have i : (x1 - x0) * (x1 - x0)⁻¹ = 1 := Rat.mul_inv_cancel _ hd
   have e : y1 + 1 + (y0 + 1 - (y1 + 1)) * (-(W - x1) / (W - x0 - (W - x1))) = y0 + (y1 - y0) * ((W - x0) / (x1 - x0)) + 1 := by
    rw [show W - x0 - (W - x1) = x1 - x0 by grind, Rat.div_def, Rat.div_def]
    generalize (x1 - x0)⁻¹ = v at *
    have e1 : (x1 - W) * v = 1 - (W - x0) * v := by grind
    have e2 : -(W - x1) * v = (x1 - W) * v := by grind
    rw [e2, e1]
    grind
   rw [e]
   grind
  ·rw [if_neg c2, if_neg (show ¬ W - x1 <= 0 by grind)]; grind
theorem gRi_fr {xl yl xr yr o s W : Rat} (hx : xl <= xr) (h : s * (yr - yl) = xr - xl) : gRi (W - 1) (xl - o) yl (xr - o) yr = (cl (yr + 1) - cl (yl + 1)) * frP (W - (xl + s * (cl (yl + 1) - 1 - yl))) (W - (xl + s * (cl (yr + 1) - 1 - yl))) (1 - o) := by
 rw [gRi_gLe]
 have k := gLe_fr (xl := W - xr) (yl := yr + 1) (xr := W - xl) (yr := yl + 1) (o := 1 - o) (s := -s) (by grind) (by grind)
 rw [show W - 1 - (xr - o) = W - xr - (1 - o) by grind, show W - 1 - (xl - o) = W - xl - (1 - o) by grind, k]
 have e1 : W - xr + -s * (cl (yr + 1) - (yr + 1)) = W - (xl + s * (cl (yr + 1) - 1 - yl)) := by grind
 have e2 : W - xr + -s * (cl (yl + 1) - (yr + 1)) = W - (xl + s * (cl (yl + 1) - 1 - yl)) := by grind
 rw [e1, e2]
 have c : ∀ a b o : Rat, frP a b o = frP b a o := fun a b o => by
  unfold frP
  by_cases hab : a = b
  ·rw [if_pos hab, if_pos hab.symm, hab]
  ·rw [if_neg hab, if_neg (fun h => hab h.symm)]
   have i1 : (b - a) * (b - a)⁻¹ = 1 := Rat.mul_inv_cancel _ (by grind)
   have i2 : (a - b) * (a - b)⁻¹ = 1 := Rat.mul_inv_cancel _ (by grind)
   rw [Rat.div_def, Rat.div_def]
   generalize (b - a)⁻¹ = u at *
   generalize (a - b)⁻¹ = v at *
   have e1 : u = u * ((a - b) * v) := by rw [i2, Rat.mul_one]
   have e2 : u * ((a - b) * v) = -((b - a) * u) * v := by grind
   rw [e2, i1] at e1
   rw [e1]
   grind
 rw [c (W - (xl + s * (cl (yr + 1) - 1 - yl)))]
 grind
theorem mean_flip (a b : Rat) : mean (1 - a) (1 - b) = 1 - mean a b := by
 by_cases h : a = b
 ·subst h
  rw [mean_self, mean_self, cl_flip]
 ·have m1 := mean_mul a b
  have m2 := mean_mul (1 - a) (1 - b)
  have kf : ∀ z, kk (1 - z) = kk z + 1 / 2 - z := fun z => by
   rcases cl_cases z with ⟨h, _, e⟩ | ⟨h, h', _, e⟩ | ⟨h, _, e⟩ <;> rcases cl_cases (1 - z) with ⟨k, _, e'⟩ | ⟨k, k', _, e'⟩ | ⟨k, _, e'⟩ <;> grind
  rw [kf, kf] at m2
  have hne : a - b ≠ 0 := by grind
  have : (mean (1 - a) (1 - b) - (1 - mean a b)) * (a - b) = 0 := by grind
  rcases Rat.mul_eq_zero.1 this with z | z
  ·grind
  ·exact absurd z hne
theorem frP_comm (a b o : Rat) : frP a b o = frP b a o := by
 unfold frP
 by_cases hab : a = b
 ·rw [if_pos hab, if_pos hab.symm, hab]
 ·rw [if_neg hab, if_neg (fun h => hab h.symm)]
  have i1 : (b - a) * (b - a)⁻¹ = 1 := Rat.mul_inv_cancel _ (by grind)
  have i2 : (a - b) * (a - b)⁻¹ = 1 := Rat.mul_inv_cancel _ (by grind)
  rw [Rat.div_def, Rat.div_def]
  generalize (b - a)⁻¹ = u at *
  generalize (a - b)⁻¹ = v at *
  have e1 : u = u * ((a - b) * v) := by rw [i2, Rat.mul_one]
  have e2 : u * ((a - b) * v) = -((b - a) * u) * v := by grind
  rw [e2, i1] at e1
  rw [e1]
  grind
def pxA (e : Pt × Pt) : Rat := (e.1.1 : Rat) / 64
def pyA (e : Pt × Pt) : Rat := (e.1.2 : Rat) / 64
def pxB (e : Pt × Pt) : Rat := (e.2.1 : Rat) / 64
def pyB (e : Pt × Pt) : Rat := (e.2.2 : Rat) / 64
def gEL (r : Nat) (o : Rat) (e : Pt × Pt) : Rat := if pxA e <= pxB e then gLe (pxA e - o) (pyA e - r) (pxB e - o) (pyB e - r) else -gLe (pxB e - o) (pyB e - r) (pxA e - o) (pyA e - r)
def gER (W r : Nat) (o : Rat) (e : Pt × Pt) : Rat := if pxA e <= pxB e then gRi ((W : Rat) - 1) (pxA e - o) (pyA e - r) (pxB e - o) (pyB e - r) else -gRi ((W : Rat) - 1) (pxB e - o) (pyB e - r) (pxA e - o) (pyA e - r)
theorem dR_cl (r : Nat) (e : Pt × Pt) : dR r e = cl (pyB e - r) - cl (pyA e - r) := by
 have h1 := pr_64 (r : Int) e.1.2
 have h2 := pr_64 (r : Int) e.2.2
 unfold pr at h1 h2
 have er : (((r : Nat) : Int) : Rat) = (r : Rat) := by push_cast; rfl
 rw [er] at h1 h2
 unfold dR dph pyA pyB
 rw [h1, h2]
 push_cast
 grind
theorem dR_cl1 (r : Nat) (e : Pt × Pt) : dR ((r : Int) - 1) e = cl (pyB e - r + 1) - cl (pyA e - r + 1) := by
 have h1 := pr_64 ((r : Int) - 1) e.1.2
 have h2 := pr_64 ((r : Int) - 1) e.2.2
 unfold pr at h1 h2
 have er : ((((r : Nat) : Int) - 1 : Int) : Rat) = (r : Rat) - 1 := by push_cast; rfl
 rw [er] at h1 h2
 unfold dR dph pyA pyB
 rw [show (e.2.2 : Rat) / 64 - (r : Rat) + 1 = (e.2.2 : Rat) / 64 - ((r : Rat) - 1) by grind, show (e.1.2 : Rat) / 64 - (r : Rat) + 1 = (e.1.2 : Rat) / 64 - ((r : Rat) - 1) by grind, h1, h2]
 push_cast
 grind
def cutP (s : Rat) (r : Int) (e : Pt × Pt) (y : Rat) : Rat := pxA e + s * (r + cl (y - r) - pyA e)
theorem mEdge_cut {e : Pt × Pt} (X r : Nat) (hne : e.1.2 ≠ e.2.2) {s : Rat} (hs : s * (pyB e - pyA e) = pxB e - pxA e) :
  mEdge X r e = mean ((X : Rat) + 1 - cutP s r e (pyA e)) ((X : Rat) + 1 - cutP s r e (pyB e)) := by
 have h1 := pr_64 (r : Int) e.1.2
 have h2 := pr_64 (r : Int) e.2.2
 unfold pr at h1 h2
 have er : (((r : Nat) : Int) : Rat) = (r : Rat) := by push_cast; rfl
 have hnr : (e.2.2 : Rat) - e.1.2 ≠ 0 := fun h => hne (by
  have : (e.1.2 : Rat) = e.2.2 := by grind
  exact Rat.intCast_inj.1 this)
 have hs64 : s * ((e.2.2 : Rat) - e.1.2) = (e.2.1 : Rat) - e.1.1 := by unfold pxA pxB pyA pyB at hs; grind
 have u : ∀ m1 m2 m3 m4 : Int, (m4 : Rat) - m2 ≠ 0 -> s * ((m4 : Rat) - m2) = (m3 : Rat) - m1 -> (m1 : Rat) / 64 - s * ((m2 : Rat) / 64) = pxA e - s * pyA e -> ∀ m : Int, uE m1 m2 m3 m4 X ((64 * ((r : Nat) : Int) + ph r m : Int) : Rat) = (X : Rat) + 1 - cutP s r e ((m : Rat) / 64) := by
  intro m1 m2 m3 m4 h0 hsl hl m
  have hp := pr_64 (r : Int) m
  unfold pr at hp
  have hsr : slopeR m1 m2 m3 m4 = s := by
   unfold slopeR
   push_cast
   rw [<- hsl, Rat.div_def, Rat.mul_assoc, Rat.mul_inv_cancel _ h0, Rat.mul_one]
  unfold uE xE cutP
  rw [hsr, hp]
  push_cast
  grind
 unfold mEdge
 by_cases hlt : e.1.2 < e.2.2
 ·rw [if_pos hlt]
  unfold mE
  have := u e.1.1 e.1.2 e.2.1 e.2.2 hnr hs64 rfl
  rw [this, this]
  rfl
 ·rw [if_neg hlt]
  unfold mE
  have := u e.2.1 e.2.2 e.1.1 e.1.2 (by grind) (by grind) (by unfold pxA pyA; grind)
  rw [this, this, mean_comm]
  rfl
theorem gEL_fr {e : Pt × Pt} (r : Nat) (o : Rat) {s : Rat} (hs : s * (pyB e - pyA e) = pxB e - pxA e) : gEL r o e = dR r e * frP (cutP s r e (pyA e)) (cutP s r e (pyB e)) o := by
 rw [dR_cl]
 have er : (((r : Nat) : Int) : Rat) = (r : Rat) := by push_cast; rfl
 unfold gEL cutP
 rw [er]
 by_cases hx : pxA e <= pxB e
 ·rw [if_pos hx]
  have k := gLe_fr (o := o) (s := s) (yl := pyA e - r) (yr := pyB e - r) hx (by grind)
  rw [k]
  congr 2 <;> grind
 ·rw [if_neg hx]
  have k := gLe_fr (o := o) (s := s) (xl := pxB e) (xr := pxA e) (yl := pyB e - r) (yr := pyA e - r) (by grind) (by grind)
  rw [k, frP_comm]
  have e1 : pxB e + s * (cl (pyA e - r) - (pyB e - r)) = pxA e + s * (r + cl (pyA e - r) - pyA e) := by grind
  have e2 : pxB e + s * (cl (pyB e - r) - (pyB e - r)) = pxA e + s * (r + cl (pyB e - r) - pyA e) := by grind
  rw [e1, e2]
  grind
theorem gER_fr {e : Pt × Pt} (W r : Nat) (o : Rat) {s : Rat} (hs : s * (pyB e - pyA e) = pxB e - pxA e) : gER W r o e = dR ((r : Int) - 1) e * frP ((W : Rat) - cutP s ((r : Int) - 1) e (pyA e)) ((W : Rat) - cutP s ((r : Int) - 1) e (pyB e)) (1 - o) := by
 rw [dR_cl1]
 have er : ((((r : Nat) : Int) - 1 : Int) : Rat) = (r : Rat) - 1 := by push_cast; rfl
 unfold gER cutP
 rw [er]
 have e3 : ∀ y : Rat, y - ((r : Rat) - 1) = y - r + 1 := fun y => by grind
 rw [e3, e3]
 by_cases hx : pxA e <= pxB e
 ·rw [if_pos hx]
  have k := gRi_fr (o := o) (s := s) (W := W) (yl := pyA e - r) (yr := pyB e - r) hx (by grind)
  rw [k]
  congr 2 <;> grind
 ·rw [if_neg hx]
  have k := gRi_fr (o := o) (s := s) (W := W) (xl := pxB e) (xr := pxA e) (yl := pyB e - r) (yr := pyA e - r) (by grind) (by grind)
  rw [k, frP_comm]
  have e1 : (W : Rat) - (pxB e + s * (cl (pyA e - r + 1) - 1 - (pyB e - r))) = W - (pxA e + s * (r - 1 + cl (pyA e - r + 1) - pyA e)) := by grind
  have e2 : (W : Rat) - (pxB e + s * (cl (pyB e - r + 1) - 1 - (pyB e - r))) = W - (pxA e + s * (r - 1 + cl (pyB e - r + 1) - pyA e)) := by grind
  rw [e1, e2]
  grind
theorem sumN_rev (f : Nat -> Rat) : ∀ n : Nat, sumN (fun k => f (n - k)) n = sumN (fun k => f (k + 1)) n
 | 0 => rfl
 | n + 1 => by
  have h := sumN_split (fun k => f (n + 1 - k)) 1 n
  rw [show 1 + n = n + 1 by omega] at h
  have e2 : sumN (fun k => f (k + 1)) (n + 1) = sumN (fun k => f (k + 1)) n + f (n + 1) := by rw [sumN]
  rw [h, e2]
  have e1 : sumN (fun k => f (n + 1 - (1 + k))) n = sumN (fun k => f (n - k)) n := sumN_congr fun k _ => by rw [show n + 1 - (1 + k) = n - k by omega]
  rw [e1, sumN_rev f n]
  simp only [sumN]
  rw [show n + 1 - 0 = n + 1 by omega]
  grind
theorem gEL_flat {e : Pt × Pt} (r : Nat) (o : Rat) (h : e.1.2 = e.2.2) : gEL r o e = 0 /\ dR r e = 0 := by
 have hp : pyA e = pyB e := by unfold pyA pyB; rw [h]
 refine ⟨?_, by rw [dR_cl, hp]; grind⟩
 unfold gEL
 rw [hp, gLe_flat, gLe_flat]
 split <;> grind
theorem gER_flat {e : Pt × Pt} (W r : Nat) (o : Rat) (h : e.1.2 = e.2.2) : gER W r o e = 0 /\ dR ((r : Int) - 1) e = 0 := by
 have hp : pyA e = pyB e := by unfold pyA pyB; rw [h]
 refine ⟨?_, by rw [dR_cl1, hp]; grind⟩
 unfold gER
 rw [hp, gRi_gLe, gRi_gLe, gLe_flat, gLe_flat]
 split <;> grind
theorem slope_ex {e : Pt × Pt} (h : e.1.2 ≠ e.2.2) : ∃ s : Rat, s * (pyB e - pyA e) = pxB e - pxA e := by
 have hnr : pyB e - pyA e ≠ 0 := fun z => h (by
  unfold pyA pyB at z
  have : (e.1.2 : Rat) = e.2.2 := by grind
  exact Rat.intCast_inj.1 this)
 exact ⟨(pxB e - pxA e) / (pyB e - pyA e), Rat.div_mul_cancel hnr⟩
theorem edge_meanL {e : Pt × Pt} (r : Nat) {n : Nat} (hn : 0 < n) : ab (dR r e * mEdge 0 r e - sumN (fun k => gEL r ((k : Rat) / n) e) n * (1 / (n : Rat))) <= ab (dR r e) * (1 / (n : Rat)) := by
 have hnR : (0 : Rat) < n := by exact_mod_cast hn
 have hd : (0 : Rat) <= 1 / n := div_pos0 (by decide) hnR
 by_cases hf : e.1.2 = e.2.2
 ·have e1 : sumN (fun k => gEL r ((k : Rat) / n) e) n = sumN (fun _ => 0) n := sumN_congr fun k _ => (gEL_flat r _ hf).1
  rw [e1, sumN_const, (gEL_flat r 0 hf).2]
  have : ab (0 * mEdge 0 r e - (n : Rat) * 0 * (1 / (n : Rat))) = 0 := by
   rw [show 0 * mEdge 0 r e - (n : Rat) * 0 * (1 / (n : Rat)) = 0 by grind]
   decide +kernel
  rw [this]
  exact Rat.mul_nonneg (ab_nonneg _) hd
 ·obtain ⟨s, hs⟩ := slope_ex hf
  have e1 : sumN (fun k => gEL r ((k : Rat) / n) e) n = sumN (fun k => dR r e * frP (cutP s r e (pyA e)) (cutP s r e (pyB e)) ((k : Rat) / n)) n := sumN_congr fun k _ => gEL_fr r _ hs
  rw [e1, sumN_mul, mEdge_cut 0 r hf hs]
  have z : ((0 : Nat) : Rat) + 1 = 1 := by push_cast; grind
  rw [z]
  have k := (mean_avg (a := cutP s r e (pyA e)) (b := cutP s r e (pyB e)) hn).1
  have e2 : dR r e * mean (1 - cutP s r e (pyA e)) (1 - cutP s r e (pyB e)) - dR r e * sumN (fun k => frP (cutP s r e (pyA e)) (cutP s r e (pyB e)) ((k : Rat) / n)) n * (1 / (n : Rat)) =
    dR r e * (mean (1 - cutP s r e (pyA e)) (1 - cutP s r e (pyB e)) - sumN (fun k => frP (cutP s r e (pyA e)) (cutP s r e (pyB e)) ((k : Rat) / n)) n * (1 / (n : Rat))) := by grind
  rw [e2, ab_mul]
  exact Rat.mul_le_mul_of_nonneg_left k (ab_nonneg _)
theorem edge_meanR {e : Pt × Pt} {W r : Nat} (hW : 0 < W) {n : Nat} (hn : 0 < n) : ab (dR (((r + 1 : Nat) : Int) - 1) e * (1 - mEdge (W - 1) r e) - sumN (fun k => gER W (r + 1) ((k : Rat) / n) e) n * (1 / (n : Rat))) <= ab (dR (((r + 1 : Nat) : Int) - 1) e) * (1 / (n : Rat)) := by
 have hnR : (0 : Rat) < n := by exact_mod_cast hn
 have hd : (0 : Rat) <= 1 / n := div_pos0 (by decide) hnR
 by_cases hf : e.1.2 = e.2.2
 ·have e1 : sumN (fun k => gER W (r + 1) ((k : Rat) / n) e) n = sumN (fun _ => 0) n := sumN_congr fun k _ => (gER_flat W (r + 1) _ hf).1
  rw [e1, sumN_const, (gER_flat W (r + 1) 0 hf).2]
  have : ab (0 * (1 - mEdge (W - 1) r e) - (n : Rat) * 0 * (1 / (n : Rat))) = 0 := by
   rw [show 0 * (1 - mEdge (W - 1) r e) - (n : Rat) * 0 * (1 / (n : Rat)) = 0 by grind]
   decide +kernel
  rw [this]
  exact Rat.mul_nonneg (ab_nonneg _) hd
 ·obtain ⟨s, hs⟩ := slope_ex hf
  have er : ((r + 1 : Nat) : Int) - 1 = (r : Int) := by push_cast; omega
  obtain ⟨A, hA⟩ : ∃ A, A = (W : Rat) - cutP s r e (pyA e) := ⟨_, rfl⟩
  obtain ⟨B, hB⟩ : ∃ B, B = (W : Rat) - cutP s r e (pyB e) := ⟨_, rfl⟩
  have e1 : sumN (fun k => gER W (r + 1) ((k : Rat) / n) e) n = dR (((r + 1 : Nat) : Int) - 1) e * sumN (fun k => frP A B (((k + 1 : Nat) : Rat) / n)) n := by
   rw [<- sumN_mul, <- sumN_rev (fun j => dR (((r + 1 : Nat) : Int) - 1) e * frP A B ((j : Rat) / n)) n]
   refine sumN_congr fun k hk => ?_
   rw [gER_fr W (r + 1) _ hs, er, <- hA, <- hB]
   congr 2
   have : ((n - k : Nat) : Rat) = (n : Rat) - k := natSub (by omega)
   rw [this, Rat.div_def, Rat.div_def]
   have i : (n : Rat) * (n : Rat)⁻¹ = 1 := Rat.mul_inv_cancel _ (by grind)
   grind
  have hm : 1 - mEdge (W - 1) r e = mean (1 - A) (1 - B) := by
   rw [mEdge_cut (W - 1) r hf hs]
   have : ((W - 1 : Nat) : Rat) + 1 = W := by
    have := natSub (a := W) (b := 1) (by omega)
    push_cast at this
    grind
   rw [this, <- hA, <- hB, mean_flip]
  rw [e1, hm]
  have k := (mean_avg (a := A) (b := B) hn).2
  have e2 : dR (((r + 1 : Nat) : Int) - 1) e * mean (1 - A) (1 - B) - dR (((r + 1 : Nat) : Int) - 1) e * sumN (fun k => frP A B (((k + 1 : Nat) : Rat) / n)) n * (1 / (n : Rat)) =
    dR (((r + 1 : Nat) : Int) - 1) e * (mean (1 - A) (1 - B) - sumN (fun k => frP A B (((k + 1 : Nat) : Rat) / n)) n * (1 / (n : Rat))) := by grind
  rw [e2, ab_mul]
  exact Rat.mul_le_mul_of_nonneg_left k (ab_nonneg _)
theorem tel_from (F : Pt -> Rat) : ∀ (tl : List Pt) (first cur : Pt) (pre t : List (Pt × Pt)), pre ++ t = edgesFrom first cur tl -> ∃ v, (v = first ∨ v = cur ∨ v ∈ tl) /\ sumE (fun e => F e.2 - F e.1) pre = F v - F cur
 | [], first, cur, [], t, _ => ⟨cur, .inr (.inl rfl), by simp only [sumE]; grind⟩
 | [], first, cur, e :: pre, t, h => by
  rw [edgesFrom, List.cons_append] at h
  injection h with h1 h2
  have : pre = [] := (List.append_eq_nil_iff.1 h2).1
  subst this
  subst h1
  exact ⟨first, .inl rfl, by simp only [sumE]; grind⟩
 | q :: tl, first, cur, [], t, _ => ⟨cur, .inr (.inl rfl), by simp only [sumE]; grind⟩
 | q :: tl, first, cur, e :: pre, t, h => by
  rw [edgesFrom, List.cons_append] at h
  injection h with h1 h2
  obtain ⟨v, hv, hy⟩ := tel_from F tl first q pre t h2
  subst h1
  refine ⟨v, ?_, ?_⟩
  ·rcases hv with z | z | z
   ·exact .inl z
   ·exact .inr (.inr (by simp [z]))
   ·exact .inr (.inr (by simp [z]))
  ·rw [sumE, hy]
   simp only
   grind
theorem tel_full (F : Pt -> Rat) : ∀ (tl : List Pt) (first cur : Pt), sumE (fun e => F e.2 - F e.1) (edgesFrom first cur tl) = F first - F cur
 | [], first, cur => by simp only [edgesFrom, sumE]; grind
 | q :: tl, first, cur => by
  rw [edgesFrom, sumE, tel_full F tl first q]
  simp only
  grind
theorem tel_path (F : Pt -> Rat) {p : List Pt} {lo hi : Rat} (hF : ∀ v ∈ p, lo <= F v /\ F v <= hi) (hlh : lo <= hi) {pre t : List (Pt × Pt)} (h : pre ++ t = edges p) : ab (sumE (fun e => F e.2 - F e.1) pre) <= hi - lo := by
 cases p with
 | nil =>
  have : pre = [] := (List.append_eq_nil_iff.1 (by simpa [edges] using h)).1
  subst this
  simp only [sumE]
  rw [ab_of_nonneg (Rat.le_refl)]
  grind
 | cons a tl =>
  obtain ⟨v, hv, e⟩ := tel_from F tl a a pre t h
  rw [e]
  have h1 : lo <= F v /\ F v <= hi := by
   rcases hv with z | z | z
   ·exact hF v (by simp [z])
   ·exact hF v (by simp [z])
   ·exact hF v (by simp [z])
  have h2 := hF a (by simp)
  exact ab_le (by grind) (by grind)
theorem tel_edges (F : Pt -> Rat) (p : List Pt) : sumE (fun e => F e.2 - F e.1) (edges p) = 0 := by
 cases p with
 | nil => rfl
 | cons a tl =>
  have := tel_full F tl a a
  have e : edges (a :: tl) = edgesFrom a a tl := rfl
  rw [e, this]
  grind
theorem sumE_app {α : Type} (f : α -> Rat) : ∀ (s t : List α), sumE f (s ++ t) = sumE f s + sumE f t
 | [], t => by simp only [List.nil_append, sumE]; grind
 | e :: s, t => by rw [List.cons_append, sumE, sumE, sumE_app f s t]; grind
theorem tel_several (F : Pt -> Rat) {lo hi : Rat} (hlh : lo <= hi) : ∀ (ls : List (List Pt)) (pre t : List (Pt × Pt)), (∀ p ∈ ls, ∀ v ∈ p, lo <= F v /\ F v <= hi) -> pre ++ t = ls.flatMap edges -> ab (sumE (fun e => F e.2 - F e.1) pre) <= hi - lo
 | [], pre, t, _, h => by
  have : pre = [] := (List.append_eq_nil_iff.1 (by simpa using h)).1
  subst this
  simp only [sumE]
  rw [ab_of_nonneg (Rat.le_refl)]
  grind
 | p :: ls, pre, t, hF, h => by
  rw [List.flatMap_cons] at h
  rcases List.append_eq_append_iff.1 h with ⟨a, h1, h2⟩ | ⟨c, h1, h2⟩
  ·exact tel_path F (hF p (by simp)) hlh (pre := pre) (t := a) h1.symm
  ·rw [h1, sumE_app, tel_edges]
   have := tel_several F hlh ls c t (fun q hq => hF q (by simp [hq])) h2.symm
   rw [show (0 : Rat) + sumE (fun e => F e.2 - F e.1) c = sumE (fun e => F e.2 - F e.1) c by grind]
   exact this
theorem avg_le {f : Nat -> Rat} {M : Rat} {n : Nat} (hn : 0 < n) (h : ∀ k, k < n -> ab (f k) <= M) : ab (sumN f n * (1 / (n : Rat))) <= M := by
 have hnR : (0 : Rat) < n := by exact_mod_cast hn
 have hd : (0 : Rat) <= 1 / n := div_pos0 (by decide) hnR
 have h1 : sumN f n <= n * M := by
  have := sumN_le (f := f) (g := fun _ => M) (n := n) fun k hk => (ab_iff.1 (h k hk)).1
  rwa [sumN_const] at this
 have h2 : n * (-M) <= sumN f n := by
  have := sumN_le (f := fun _ => -M) (g := f) (n := n) fun k hk => by have := (ab_iff.1 (h k hk)).2; grind
  rwa [sumN_const] at this
 have i : (n : Rat) * (1 / n) = 1 := by
  rw [Rat.div_def, Rat.one_mul]
  exact Rat.mul_inv_cancel _ (by grind)
 have m1 := Rat.mul_le_mul_of_nonneg_right h1 hd
 have m2 := Rat.mul_le_mul_of_nonneg_right h2 hd
 have e1 : ∀ x : Rat, (n : Rat) * x * (1 / n) = x := fun x => by
  have e : (n : Rat) * x * (1 / n) = x * ((n : Rat) * (1 / n)) := by grind
  rw [e, i, Rat.mul_one]
 rw [e1] at m1 m2
 exact ab_le m1 m2
def gEs (W r : Nat) (o : Rat) (e : Pt × Pt) : Rat := gEL r o e + (if 0 < r then gER W r o e else 0)
section
variable {W H : Nat} {δ len : Pt × Pt -> Rat} {Ad : Pt × Pt -> List (Nat × Nat)} {gs : List (Pt × Pt)} (hE : ∀ e ∈ gs, EG W H e (δ e) (len e) (Ad e))
include hE
theorem content_shift (hW : 0 < W) {pre : List (Pt × Pt)} (hpre : ∀ e ∈ pre, e ∈ gs) {r n : Nat} (hr : r < H) (hn : 0 < n) {M : Rat} (hM : ∀ k, k < n -> ab (sumE (gEs W r ((k : Rat) / n)) pre) <= M) :
  ab (cellR (valL (pre.flatMap Ad)) (r * W)) <= M + 2 * sumE δ pre + 2 * pre.length * (1 / (n : Rat)) := by
 have hnR : (0 : Rat) < n := by exact_mod_cast hn
 have hd : (0 : Rat) <= 1 / n := div_pos0 (by decide) hnR
 rw [cellR_flat]
 have one : ∀ e ∈ pre, ab (cellR (valL (Ad e)) (r * W) - sumN (fun k => gEs W r ((k : Rat) / n) e) n * (1 / (n : Rat))) <= 2 * δ e + 2 * (1 / (n : Rat)) := by
  intro e he
  obtain ⟨f, g, _, _, h3, h4, h5⟩ := edge_cell hE hW (hpre e he) (X := 0) (Y := r) hW hr
  rw [if_pos rfl] at h3
  rw [Nat.add_zero] at h5
  have L := edge_meanL (e := e) r hn
  have d1 := dph_le (r : Int) e
  have d2 := dph_le ((r : Int) - 1) e
  have e0 : ab (dR r e) <= 1 := d1
  have e1 : ab (dR ((r : Int) - 1) e) <= 1 := d2
  have m1 := Rat.mul_le_mul_of_nonneg_right e0 hd
  have m2 := Rat.mul_le_mul_of_nonneg_right e1 hd
  rw [<- h3] at L
  by_cases h0 : 0 < r
  ·obtain ⟨r', rfl⟩ : ∃ r', r = r' + 1 := ⟨r - 1, by omega⟩
   rw [if_pos ⟨rfl, h0⟩] at h4
   have Rr := edge_meanR (e := e) (W := W) (r := r') hW hn
   have e3 : r' + 1 - 1 = r' := by omega
   rw [e3] at h4
   rw [<- h4] at Rr
   have es : sumN (fun k => gEs W (r' + 1) ((k : Rat) / n) e) n = sumN (fun k => gEL (r' + 1) ((k : Rat) / n) e) n + sumN (fun k => gER W (r' + 1) ((k : Rat) / n) e) n := by
    rw [<- sumN_add]
    refine sumN_congr fun k _ => ?_
    unfold gEs
    rw [if_pos h0]
   rw [es]
   have k1 := ab_add_le (cellR (valL (Ad e)) ((r' + 1) * W) - (dR ((r' + 1 : Nat) : Int) e * f + dR (((r' + 1 : Nat) : Int) - 1) e * g)) ((dR ((r' + 1 : Nat) : Int) e * f - sumN (fun k => gEL (r' + 1) ((k : Rat) / n) e) n * (1 / (n : Rat))) + (dR (((r' + 1 : Nat) : Int) - 1) e * g - sumN (fun k => gER W (r' + 1) ((k : Rat) / n) e) n * (1 / (n : Rat))))
   have k2 := ab_add_le (dR ((r' + 1 : Nat) : Int) e * f - sumN (fun k => gEL (r' + 1) ((k : Rat) / n) e) n * (1 / (n : Rat))) (dR (((r' + 1 : Nat) : Int) - 1) e * g - sumN (fun k => gER W (r' + 1) ((k : Rat) / n) e) n * (1 / (n : Rat)))
   have ee : cellR (valL (Ad e)) ((r' + 1) * W) - (sumN (fun k => gEL (r' + 1) ((k : Rat) / n) e) n + sumN (fun k => gER W (r' + 1) ((k : Rat) / n) e) n) * (1 / (n : Rat)) =
     cellR (valL (Ad e)) ((r' + 1) * W) - (dR ((r' + 1 : Nat) : Int) e * f + dR (((r' + 1 : Nat) : Int) - 1) e * g) + ((dR ((r' + 1 : Nat) : Int) e * f - sumN (fun k => gEL (r' + 1) ((k : Rat) / n) e) n * (1 / (n : Rat))) + (dR (((r' + 1 : Nat) : Int) - 1) e * g - sumN (fun k => gER W (r' + 1) ((k : Rat) / n) e) n * (1 / (n : Rat)))) := by grind
   rw [ee]
   grind
  ·rw [if_neg (fun h => h0 h.2)] at h4
   have es : sumN (fun k => gEs W r ((k : Rat) / n) e) n = sumN (fun k => gEL r ((k : Rat) / n) e) n := sumN_congr fun k _ => by
    unfold gEs
    rw [if_neg h0]
    grind
   rw [es]
   have k1 := ab_add_le (cellR (valL (Ad e)) (r * W) - (dR r e * f + dR ((r : Int) - 1) e * g)) (dR r e * f - sumN (fun k => gEL r ((k : Rat) / n) e) n * (1 / (n : Rat)))
   have ee : cellR (valL (Ad e)) (r * W) - sumN (fun k => gEL r ((k : Rat) / n) e) n * (1 / (n : Rat)) = cellR (valL (Ad e)) (r * W) - (dR r e * f + dR ((r : Int) - 1) e * g) + (dR r e * f - sumN (fun k => gEL r ((k : Rat) / n) e) n * (1 / (n : Rat))) := by rw [h4]; grind
   rw [ee]
   grind
 have n1 := sumE_near2 (s := pre) one
 have avg := avg_le (f := fun k => sumE (gEs W r ((k : Rat) / n)) pre) hn hM
 have es : sumE (fun e => sumN (fun k => gEs W r ((k : Rat) / n) e) n * (1 / (n : Rat))) pre = sumN (fun k => sumE (gEs W r ((k : Rat) / n)) pre) n * (1 / (n : Rat)) := by
  have h1 := sumN_sumE (fun e k => gEs W r ((k : Rat) / n) e) n pre
  have h2 : sumN (fun k => sumE (gEs W r ((k : Rat) / n)) pre) n = sumE (fun e => sumN (fun k => gEs W r ((k : Rat) / n) e) n) pre := h1
  rw [h2, Rat.mul_comm, <- sumE_mul]
  exact sumE_congr fun e _ => by rw [Rat.mul_comm]
 rw [es] at n1
 have e5 : sumE (fun e => 2 * δ e + 2 * (1 / (n : Rat))) pre = 2 * sumE δ pre + 2 * pre.length * (1 / (n : Rat)) := by
  rw [sumE_add, sumE_mul, sumE_const]
  grind
 rw [e5] at n1
 have k := ab_add_le (sumE (fun e => cellR (valL (Ad e)) (r * W)) pre - sumN (fun k => sumE (gEs W r ((k : Rat) / n)) pre) n * (1 / (n : Rat))) (sumN (fun k => sumE (gEs W r ((k : Rat) / n)) pre) n * (1 / (n : Rat)))
 have e6 : sumE (fun e => cellR (valL (Ad e)) (r * W)) pre - sumN (fun k => sumE (gEs W r ((k : Rat) / n)) pre) n * (1 / (n : Rat)) + sumN (fun k => sumE (gEs W r ((k : Rat) / n)) pre) n * (1 / (n : Rat)) = sumE (fun e => cellR (valL (Ad e)) (r * W)) pre := by grind
 rw [e6] at k
 grind
end
def PtIn (W : Nat) (v : Pt) : Prop := (-(64 * (64 + (W : Int))) <= v.1 /\ v.1 <= 64 * (64 + (W : Int))) /\ In264 v.2
theorem PtIn.px {W : Nat} {v : Pt} (h : PtIn W v) : -(64 + (W : Rat)) <= (v.1 : Rat) / 64 /\ (v.1 : Rat) / 64 <= 64 + W := by
 have h1 := castLe h.1.1
 have h2 := castLe h.1.2
 push_cast at h1 h2
 constructor <;> grind
def lX (e : Pt × Pt) : Rat := if pxA e <= pxB e then pxA e else pxB e
def rX (e : Pt × Pt) : Rat := if pxA e <= pxB e then pxB e else pxA e
def limO (T : Tab) (W : Nat) (o : Rat) (e : Pt × Pt) : Rat := T.P.D - othX T.P ((W : Rat) - 1) (lX e - o) (rX e - o) - T.P.k1 / 65536 * outX ((W : Rat) - 1) (lX e - o) (rX e - o)
def psiP (T : Tab) (W r : Nat) (o : Rat) (v : Pt) : Rat := T.psi ((W : Rat) - 1) ((v.1 : Rat) / 64 - o) ((v.2 : Rat) / 64 - r)
section
variable {T : Tab} (hT : TabOk T) {W r : Nat} {o : Rat} (hw0 : (T.w0 : Rat) <= (W : Rat) - 1) (hw1 : (W : Rat) - 1 <= T.w1) (hr : r <= 200) (ho0 : 0 <= o) (ho1 : o <= 1)
include hT hw0 hw1 hr ho0 ho1
omit hT hw0 hw1 ho0 ho1 in
theorem y_rng {v : Pt} (hv : In264 v.2) : ab ((v.2 : Rat) / 64 - r) <= 500 := by
 have h := hv.px
 obtain ⟨a, b⟩ := ab_iff.1 h
 have h2 : (r : Rat) <= 200 := by exact_mod_cast hr
 have h3 : (0 : Rat) <= r := by exact_mod_cast Nat.zero_le r
 exact ab_le (by grind) (by grind)
theorem psiP_rng {v : Pt} (hv : PtIn W v) : 0 <= psiP T W r o v /\ psiP T W r o v <= (T.R : Rat) / 4294967296 := by
 obtain ⟨a, b⟩ := hv.px
 have hw2 : (W : Rat) - 1 <= 199 := by
  have := natLe hT.w2
  push_cast at this
  grind
 have k := Tab.psi_rng hT hw0 hw1 (x := (v.1 : Rat) / 64 - o) (y := (v.2 : Rat) / 64 - r) (by grind) (by grind) (y_rng hr hv.2)
 unfold psiP
 constructor
 ·exact k.1
 ·grind
theorem tab_edge {e : Pt × Pt} (h1 : PtIn W e.1) (h2 : PtIn W e.2) (hH : hE' e * 65536 <= T.P.H) : ab (T.P.beta * gEL r o e + T.P.betaR * gER W r o e + (psiP T W r o e.2 - psiP T W r o e.1)) <= limO T W o e := by
 obtain ⟨a1, b1⟩ := h1.px
 obtain ⟨a2, b2⟩ := h2.px
 have hyd : ab ((pyB e - r) - (pyA e - r)) = hE' e := by
  unfold hE' pyA pyB
  rw [<- ab_64]
  congr 1
  grind
 have y1 := y_rng hr h1.2
 have y2 := y_rng hr h2.2
 have a1' : -(64 + (W : Rat)) <= pxA e := a1
 have b1' : pxA e <= 64 + W := b1
 have a2' : -(64 + (W : Rat)) <= pxB e := a2
 have b2' : pxB e <= 64 + W := b2
 have y1' : ab (pyA e - r) <= 500 := y1
 have y2' : ab (pyB e - r) <= 500 := y2
 show ab (T.P.beta * gEL r o e + T.P.betaR * gER W r o e + (T.psi ((W : Rat) - 1) (pxB e - o) (pyB e - r) - T.psi ((W : Rat) - 1) (pxA e - o) (pyA e - r))) <= limO T W o e
 unfold limO gEL gER lX rX
 by_cases hx : pxA e <= pxB e
 ·rw [if_pos hx, if_pos hx, if_pos hx, if_pos hx]
  have k := Tab.cer hT hw0 hw1 (x0 := pxA e - o) (y0 := pyA e - r) (x1 := pxB e - o) (y1 := pyB e - r) (by grind) (by grind) (by grind) y1' y2' (by rw [hyd]; exact hH)
  refine Rat.le_trans (rle_eq ?_) k
  congr 1
  grind
 ·rw [if_neg hx, if_neg hx, if_neg hx, if_neg hx]
  have k := Tab.cer hT hw0 hw1 (x0 := pxB e - o) (y0 := pyB e - r) (x1 := pxA e - o) (y1 := pyA e - r) (by grind) (by grind) (by grind) y2' y1' (by
   have : ab (pyA e - r - (pyB e - r)) = hE' e := by rw [<- hyd, show pyA e - r - (pyB e - r) = -(pyB e - r - (pyA e - r)) by grind, ab_neg]
   rw [this]; exact hH)
  refine Rat.le_trans (rle_eq ?_) k
  rw [<- ab_neg]
  congr 1
  grind
theorem tab_sum {ls : List (List Pt)} (hls : ∀ p ∈ ls, ∀ v ∈ p, PtIn W v) {pre t : List (Pt × Pt)} (h : pre ++ t = ls.flatMap edges) (hends : ∀ e ∈ pre, PtIn W e.1 /\ PtIn W e.2 /\ hE' e * 65536 <= T.P.H) :
  ab (sumE (fun e => T.P.beta * gEL r o e + T.P.betaR * gER W r o e) pre) <= sumE (limO T W o) pre + (T.R : Rat) / 4294967296 := by
 have hR : (0 : Rat) <= (T.R : Rat) / 4294967296 := by
  have := natNn T.R
  grind
 have k1 := tel_several (psiP T W r o) hR ls pre t (fun p hp v hv => psiP_rng hT hw0 hw1 hr ho0 ho1 (hls p hp v hv)) h
 have k2 : ab (sumE (fun e => T.P.beta * gEL r o e + T.P.betaR * gER W r o e + (psiP T W r o e.2 - psiP T W r o e.1)) pre) <= sumE (limO T W o) pre := sumE_ab fun e he => tab_edge hT hw0 hw1 hr ho0 ho1 (hends e he).1 (hends e he).2.1 (hends e he).2.2
 rw [sumE_add] at k2
 have e1 : sumE (fun e => T.P.beta * gEL r o e + T.P.betaR * gER W r o e) pre = (sumE (fun e => T.P.beta * gEL r o e + T.P.betaR * gER W r o e) pre + sumE (fun e => psiP T W r o e.2 - psiP T W r o e.1) pre) + -(sumE (fun e => psiP T W r o e.2 - psiP T W r o e.1) pre) := by grind
 have k3 := ab_add_le (sumE (fun e => T.P.beta * gEL r o e + T.P.betaR * gER W r o e) pre + sumE (fun e => psiP T W r o e.2 - psiP T W r o e.1) pre) (-(sumE (fun e => psiP T W r o e.2 - psiP T W r o e.1) pre))
 rw [<- e1, ab_neg] at k3
 grind
end
end Go.Proofs.Ytmgcbodlolnheaa
