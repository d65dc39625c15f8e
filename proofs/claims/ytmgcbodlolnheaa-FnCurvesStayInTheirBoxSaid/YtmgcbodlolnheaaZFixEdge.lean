/-
  The mean of a cut number between two places: what a line covers of a pixel in a row. No program is walked here.
  In the numbers of fixed point: what a row's additions come to, cell by cell, against the mean of the cut number. No program is walked here.
  The area that a closed path goes round in a pixel, edge by edge, row by row. No program is walked here.
  In the numbers of fixed point: what an edge gives to the sum up to a pixel is its area, but for so much. No program is walked here.
-/
import Derived.Test.YtmgcbodlolnheaaRows
import Derived.Test.YtmgcbodlolnheaaZUpr
namespace Go.Proofs.Ytmgcbodlolnheaa
set_option linter.unusedVariables false

/-- A number, cut to be from 0 to 1. -/
def cl (z : Rat) : Rat := if z ≤ 0 then 0 else if z ≤ 1 then z else 1
/-- The sum of 'cl' up to there. -/
def kk (z : Rat) : Rat := if z ≤ 0 then 0 else if z ≤ 1 then z * z / 2 else z - 1 / 2
theorem cl_cases (z : Rat) : (z ≤ 0 ∧ cl z = 0 ∧ kk z = 0) ∨ (0 < z ∧ z ≤ 1 ∧ cl z = z ∧ kk z = z * z / 2) ∨ (1 < z ∧ cl z = 1 ∧ kk z = z - 1 / 2) := by
  unfold cl kk
  by_cases h : z ≤ 0
  · left; simp [h]
  · by_cases h1 : z ≤ 1
    · right; left; simp [h, h1]; grind
    · right; right; simp [h, h1]; grind
theorem cl_bd (z : Rat) : 0 ≤ cl z ∧ cl z ≤ 1 := by rcases cl_cases z with h | h | h <;> grind
theorem cl_mono {x y : Rat} (h : x ≤ y) : cl x ≤ cl y := by rcases cl_cases x with h | h | h <;> rcases cl_cases y with k | k | k <;> grind
theorem cl_lip {x y : Rat} (h : x ≤ y) : cl y - cl x ≤ y - x := by rcases cl_cases x with h | h | h <;> rcases cl_cases y with k | k | k <;> grind
theorem sq_nn (x : Rat) : 0 ≤ x * x := by
  rcases Rat.le_total (a := 0) (b := x) with h | h
  · exact Rat.mul_nonneg h h
  · have := Rat.mul_nonneg (a := -x) (b := -x) (by grind) (by grind)
    grind
theorem kk_tan (x y : Rat) : cl x * (y - x) ≤ kk y - kk x := by
  have h1 := sq_nn (y - x)
  have h2 := sq_nn (1 - x)
  have h3 := sq_nn y
  have h4 := sq_nn (y - 1)
  rcases cl_cases x with ⟨a, e1, e2⟩ | ⟨a, b, e1, e2⟩ | ⟨a, e1, e2⟩ <;> rcases cl_cases y with ⟨c, e3, e4⟩ | ⟨c, d, e3, e4⟩ | ⟨c, e3, e4⟩ <;> rw [e1, e2, e4]
  · grind
  · grind
  · grind
  · have := Rat.mul_nonneg (a := x) (b := -y) (by grind) (by grind); have := sq_nn x; grind
  · grind
  · have := Rat.mul_nonneg (a := 1 - x) (b := y - 1) (by grind) (by grind); grind
  · grind
  · grind
  · grind
theorem kk_tan2 (x y : Rat) : kk y - kk x ≤ cl x * (y - x) + (y - x) * (y - x) / 2 := by
  have h1 := sq_nn (y - x)
  have h2 := sq_nn (1 - y)
  have h3 := sq_nn x
  have h4 := sq_nn (x - 1)
  have h5 := sq_nn y
  rcases cl_cases x with ⟨a, e1, e2⟩ | ⟨a, b, e1, e2⟩ | ⟨a, e1, e2⟩ <;> rcases cl_cases y with ⟨c, e3, e4⟩ | ⟨c, d, e3, e4⟩ | ⟨c, e3, e4⟩ <;> rw [e1, e2, e4]
  · grind
  · have := Rat.mul_nonneg (a := -x) (b := y) (by grind) (by grind); grind
  · have := Rat.mul_nonneg (a := -x) (b := y - 1) (by grind) (by grind); grind
  · grind
  · grind
  · grind
  · have := Rat.mul_nonneg (a := x - 1) (b := -y) (by grind) (by grind); have := sq_nn y; grind
  · have := Rat.mul_nonneg (a := x - 1) (b := 1 - y) (by grind) (by grind); grind
  · grind
/-- The mean of 'cl' between two places. -/
def mean (a b : Rat) : Rat := if a = b then cl a else (kk b - kk a) / (b - a)
theorem mean_mul (a b : Rat) : mean a b * (b - a) = kk b - kk a := by
  unfold mean
  by_cases h : a = b
  · subst h; simp; grind
  · rw [if_neg h]
    have : b - a ≠ 0 := by grind
    exact Rat.div_mul_cancel this
theorem mean_comm (a b : Rat) : mean a b = mean b a := by
  unfold mean
  by_cases h : a = b
  · subst h; rfl
  · rw [if_neg h, if_neg (fun e => h e.symm)]
    have : b - a ≠ 0 := by grind
    have : a - b ≠ 0 := by grind
    grind
theorem le_of_mul {x y z : Rat} (hz : 0 < z) (h : x * z ≤ y * z) : x ≤ y := Rat.le_of_mul_le_mul_right h hz
theorem lt_or_eq {a b : Rat} (h : a ≤ b) : a < b ∨ a = b := by
  by_cases e : a = b
  · exact .inr e
  · left; grind
theorem mean_between {a b : Rat} (h : a ≤ b) : cl a ≤ mean a b ∧ mean a b ≤ cl b := by
  rcases lt_or_eq h with hlt | rfl
  · have h0 := mean_mul a b
    have h1 := kk_tan a b
    have h2 := kk_tan b a
    have hp : 0 < b - a := by grind
    exact ⟨le_of_mul hp (by grind), le_of_mul hp (by grind)⟩
  · have e : mean a a = cl a := by simp [mean]
    rw [e]; exact ⟨Rat.le_refl, Rat.le_refl⟩
theorem mean_bd (a b : Rat) : 0 ≤ mean a b ∧ mean a b ≤ 1 := by
  have h1 := cl_bd a
  have h2 := cl_bd b
  rcases Rat.le_total (a := a) (b := b) with h | h
  · have := mean_between h; grind
  · have := mean_between h; rw [mean_comm]; grind
theorem mean_mono_r {a b b' : Rat} (h : b ≤ b') : mean a b ≤ mean a b' := by
  have m1 := mean_mul a b
  have m2 := mean_mul a b'
  have m3 := mean_mul b b'
  have c3 := mean_between h
  have := cl_mono h
  rcases Rat.le_total (a := a) (b := b) with k | k
  · have c1 := mean_between k
    have c2 := mean_between (Rat.le_trans k h)
    by_cases e : b' = a
    · have : b = a := by grind
      subst this; subst e; exact Rat.le_refl
    · refine le_of_mul (z := b' - a) (by grind) ?_
      have q := Rat.mul_le_mul_of_nonneg_right (show mean a b ≤ mean b b' by grind) (show 0 ≤ b' - b by grind)
      grind
  · rcases Rat.le_total (a := a) (b := b') with k2 | k2
    · have c1 := mean_between k
      have c2 := mean_between k2
      rw [mean_comm a b]
      grind
    · have c1 := mean_between k
      have c2 := mean_between k2
      by_cases e : b = a
      · have : b' = a := by grind
        subst this; subst e; exact Rat.le_refl
      · have e1 := mean_comm a b
        have e2 := mean_comm a b'
        refine le_of_mul (z := a - b) (by grind) ?_
        have q := Rat.mul_le_mul_of_nonneg_right (show mean b b' ≤ mean a b' by grind) (show 0 ≤ b' - b by grind)
        grind
theorem mean_mono {a b a' b' : Rat} (h : a ≤ a') (h' : b ≤ b') : mean a b ≤ mean a' b' := by
  have h1 := mean_mono_r (a := a) h'
  have h2 := mean_mono_r (a := b') h
  rw [mean_comm b' a, mean_comm b' a'] at h2
  exact Rat.le_trans h1 h2
/-- What is lacking to the whole number. -/
theorem kk_inc {a b t : Rat} (h : a ≤ b) (ht : 0 ≤ t) : kk (b + t) - kk b - (kk (a + t) - kk a) ≤ t * (b - a) := by
  -- F z = z*z/2 - kk z is convex
  have tan (x y : Rat) : (x - cl x) * (y - x) ≤ (y * y / 2 - kk y) - (x * x / 2 - kk x) := by
    have := kk_tan2 x y
    grind
  have mono {x y : Rat} (h : x ≤ y) : x - cl x ≤ y - cl y := by have := cl_lip h; grind
  rcases Rat.le_total (a := a + t) (b := b) with k | k
  · have h1 := tan b (b + t)
    have h2 := tan (a + t) a
    have h3 := Rat.mul_le_mul_of_nonneg_right (mono k) ht
    grind
  · have h1 := tan (a + t) (b + t)
    have h2 := tan b a
    have h3 := Rat.mul_le_mul_of_nonneg_right (mono k) (show 0 ≤ b - a by grind)
    grind
theorem mean_shift {a b t : Rat} (ht : 0 ≤ t) : mean (a + t) (b + t) ≤ mean a b + t := by
  have key {a b : Rat} (h : a ≤ b) : mean (a + t) (b + t) ≤ mean a b + t := by
    rcases lt_or_eq h with hlt | rfl
    · have m1 := mean_mul a b
      have m2 := mean_mul (a + t) (b + t)
      have k := kk_inc h ht
      exact le_of_mul (z := b - a) (by grind) (by grind)
    · have e1 : mean a a = cl a := by simp [mean]
      have e2 : mean (a + t) (a + t) = cl (a + t) := by simp [mean]
      have := cl_lip (show a ≤ a + t by grind)
      grind
  rcases Rat.le_total (a := a) (b := b) with h | h
  · exact key h
  · rw [mean_comm, mean_comm a b]; exact key h
/-- Ends moved by at most t. -/
theorem mean_lip {a b a' b' t : Rat} (h1 : a' ≤ a + t) (h2 : b' ≤ b + t) (ht : 0 ≤ t) : mean a' b' ≤ mean a b + t := Rat.le_trans (mean_mono h1 h2) (mean_shift ht)
theorem mean_zero {a b : Rat} (h1 : a ≤ 0) (h2 : b ≤ 0) : mean a b = 0 := by
  have := mean_bd a b
  have := mean_mono h1 h2
  have e : mean 0 0 = 0 := by decide +kernel
  grind
theorem mean_one {a b : Rat} (h1 : 1 ≤ a) (h2 : 1 ≤ b) : mean a b = 1 := by
  have := mean_bd a b
  have := mean_mono h1 h2
  have e : mean 1 1 = 1 := by decide +kernel
  grind
theorem mean_self (a : Rat) : mean a a = cl a := by simp [mean]
theorem cl_id {a : Rat} (h0 : 0 ≤ a) (h1 : a ≤ 1) : cl a = a := by rcases cl_cases a with h | h | h <;> grind
/-- Both in the middle piece. -/
theorem mean_mid {a b : Rat} (ha : 0 ≤ a) (ha1 : a ≤ 1) (hb : 0 ≤ b) (hb1 : b ≤ 1) : mean a b = (a + b) / 2 := by
  by_cases h : a = b
  · subst h; rw [mean_self, cl_id ha ha1]; grind
  · have m := mean_mul a b
    have ka : kk a = a * a / 2 := by rcases cl_cases a with h | h | h <;> grind
    have kb : kk b = b * b / 2 := by rcases cl_cases b with h | h | h <;> grind
    have hne : b - a ≠ 0 := by grind
    have e : mean a b * (b - a) = (a + b) / 2 * (b - a) := by rw [m, ka, kb]; grind
    have := congrArg (fun x => x / (b - a)) e
    simpa [Rat.mul_div_cancel, hne] using this
end Go.Proofs.Ytmgcbodlolnheaa

namespace Go.Proofs.Ytmgcbodlolnheaa
open Go.RowKit
set_option linter.unusedVariables false

theorem kk_low {z : Rat} (h : z ≤ 0) : kk z = 0 := by rcases cl_cases z with c | c | c <;> grind
theorem kk_mid {z : Rat} (h : 0 ≤ z) (h1 : z ≤ 1) : kk z = z * z / 2 := by rcases cl_cases z with c | c | c <;> grind
theorem kk_high {z : Rat} (h : 1 ≤ z) : kk z = z - 1 / 2 := by rcases cl_cases z with c | c | c <;> grind
theorem castLe {a b : Int} (h : a ≤ b) : (a : Rat) ≤ (b : Rat) := Rat.intCast_le_intCast.2 h
end Go.Proofs.Ytmgcbodlolnheaa

namespace Go.Proofs.Ytmgcbodlolnheaa
open Flt Go.RowKit
set_option linter.unusedVariables false

theorem ab_add_le (x y : Rat) : ab (x + y) ≤ ab x + ab y := by unfold Flt.ab; split <;> split <;> split <;> grind
theorem ab_sub_le (x y : Rat) : ab (x - y) ≤ ab x + ab y := by unfold Flt.ab; split <;> split <;> split <;> grind
theorem ab_iff {x y : Rat} : ab x ≤ y ↔ x ≤ y ∧ -y ≤ x := ⟨fun h => ab_bounds h, fun h => ab_le h.1 (by grind)⟩
theorem ab_mul_le {x y a b : Rat} (hx : ab x ≤ a) (hy : ab y ≤ b) : ab (x * y) ≤ a * b := by
  rw [ab_mul]
  have h1 := ab_nonneg x
  have h2 := ab_nonneg y
  have h3 := Rat.mul_le_mul_of_nonneg_right hx h2
  have h4 := Rat.mul_le_mul_of_nonneg_left hy (Rat.le_trans h1 hx)
  exact Rat.le_trans h3 h4
/-- Where an edge is at a height, in 64ths. -/
def xE (m1 m2 m3 m4 : Int) (y : Rat) : Rat := m1 + slopeR m1 m2 m3 m4 * (y - m2)
/-- How far the right side of the pixel's column is from the edge, in pixels. -/
def uE (m1 m2 m3 m4 : Int) (X : Nat) (y : Rat) : Rat := X + 1 - xE m1 m2 m3 m4 y / 64
/-- The part of a pixel's row that is right of an edge, on the edge's mean. -/
def mE (X Y : Nat) (m1 m2 m3 m4 : Int) : Rat := mean (uE m1 m2 m3 m4 X ((64 * (Y : Int) + ph Y m2 : Int) : Rat)) (uE m1 m2 m3 m4 X ((64 * (Y : Int) + ph Y m4 : Int) : Rat))
def mEdge (X Y : Nat) (e : Pt × Pt) : Rat := if e.1.2 < e.2.2 then mE X Y e.1.1 e.1.2 e.2.1 e.2.2 else mE X Y e.2.1 e.2.2 e.1.1 e.1.2
/-- What an edge gives to a pixel's area. -/
def areaE (X Y : Nat) (e : Pt × Pt) : Rat := (dph Y e : Int) / 64 * mEdge X Y e
end Go.Proofs.Ytmgcbodlolnheaa

namespace Go.Proofs.Ytmgcbodlolnheaa
open Flt Go.RowKit
set_option linter.unusedVariables false

section
variable {m1 m2 m3 m4 : Int}
end
end Go.Proofs.Ytmgcbodlolnheaa
