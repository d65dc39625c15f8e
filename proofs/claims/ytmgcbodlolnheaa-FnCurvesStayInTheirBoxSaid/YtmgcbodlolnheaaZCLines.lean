/-
  A cubic curve's coordinate at increasing times: how far it goes in all, and how often it turns. No program is walked here.
  How near a row's additions come to the row's height in all: sharper. No program is walked here.
  Lines between any floats within 128 pixels: where they are, counted by half units, and what they add. No program is walked here.
  What lines between any floats within 128 pixels add: totals of rows sharply, how many additions, all of one sign. No program is walked here.
  What any line within 128 pixels adds to a mask of at most 64 pixels' height, drawn or not. No program is walked here.
  A mask's sums: roundings counted by half units, where the first addition into a cell is exact and an empty cell costs nothing. No program is walked here.
-/
import Derived.Test.YtmgcbodlolnheaaZStraight
namespace Go.Proofs.Ytmgcbodlolnheaa
open Flt Go.RowKit
set_option linter.unusedVariables false

theorem mul_nn {a b : Rat} (h : 0 ≤ a) (k : 0 ≤ b) : 0 ≤ a * b := Rat.mul_nonneg h k
theorem ab_four {a b c d A B C D : Rat} (h1 : ab a ≤ A) (h2 : ab b ≤ B) (h3 : ab c ≤ C) (h4 : ab d ≤ D) : ab (a + b + c + d) ≤ A + B + C + D := by
  have n1 := ab_add_le (a + b + c) d
  have n2 := ab_add_le (a + b) c
  have n3 := ab_add_le a b
  grind
/-- A cubic curve's coordinate. -/
def bz (c0 c1 c2 c3 t : Rat) : Rat := c0 * ((1 - t) * (1 - t) * (1 - t)) + c1 * (3 * ((1 - t) * (1 - t) * t)) + c2 * (3 * ((1 - t) * t * t)) + c3 * (t * t * t)
def b1 (t : Rat) : Rat := 3 * ((1 - t) * (1 - t) * t)
def v1 (t : Rat) : Rat := if 3 * t ≤ 1 then b1 t else 8 / 9 - b1 t
/-- How far the four weights have gone together. -/
def vr (t : Rat) : Rat := (1 - (1 - t) * (1 - t) * (1 - t)) + v1 t + (8 / 9 - v1 (1 - t)) + t * t * t
theorem b1_diff (s t : Rat) : b1 t - b1 s = (t - s) * (3 * ((1 - s - t) * (1 - s - t) - s * t)) := by unfold b1; grind
theorem b1_up {s t : Rat} (h0 : 0 ≤ s) (h1 : s ≤ t) (h2 : 3 * t ≤ 1) : b1 s ≤ b1 t := by
  have e := b1_diff s t
  have k1 := mul_nn (show (0 : Rat) ≤ (1 - s - t) - 1 / 3 by grind) (show (0 : Rat) ≤ (1 - s - t) + 1 / 3 by grind)
  have k2 := mul_nn (show (0 : Rat) ≤ 1 / 3 - s by grind) (show 0 ≤ t by grind)
  have k3 := mul_nn (show (0 : Rat) ≤ t - s by grind) (show 0 ≤ 3 * ((1 - s - t) * (1 - s - t) - s * t) by grind)
  grind
theorem b1_down {s t : Rat} (h0 : 1 ≤ 3 * s) (h1 : s ≤ t) (h2 : t ≤ 1) : b1 t ≤ b1 s := by
  have e := b1_diff s t
  have k : (1 - s - t) * (1 - s - t) ≤ s * t := by
    rcases Rat.le_total (a := 0) (b := 1 - s - t) with c | c
    · have k1 := mul_nn (show (0 : Rat) ≤ 1 / 3 - (1 - s - t) by grind) (show (0 : Rat) ≤ 1 / 3 + (1 - s - t) by grind)
      have k2 := mul_nn (show (0 : Rat) ≤ s - 1 / 3 by grind) (show (0 : Rat) ≤ t - 1 / 3 by grind)
      grind
    · have k1 := mul_nn (show (0 : Rat) ≤ s - (s + t - 1) by grind) (show (0 : Rat) ≤ s + t - 1 by grind)
      have k2 := mul_nn (show (0 : Rat) ≤ s by grind) (show (0 : Rat) ≤ t - (s + t - 1) by grind)
      grind
  have k3 := mul_nn (show (0 : Rat) ≤ t - s by grind) (show 0 ≤ 3 * (s * t - (1 - s - t) * (1 - s - t)) by grind)
  grind
theorem b1_third : b1 (1 / 3) = 4 / 9 := by unfold b1; grind
theorem v1_diff {s t : Rat} (h0 : 0 ≤ s) (h1 : s ≤ t) (h2 : t ≤ 1) : ab (b1 t - b1 s) ≤ v1 t - v1 s := by
  unfold v1
  by_cases hs : 3 * s ≤ 1
  · by_cases ht : 3 * t ≤ 1
    · rw [if_pos hs, if_pos ht]
      have := b1_up h0 h1 ht
      exact ab_le (by grind) (by grind)
    · rw [if_pos hs, if_neg ht]
      have k1 := b1_up h0 (show s ≤ 1 / 3 by grind) (by grind)
      have k2 := b1_down (show 1 ≤ 3 * (1 / 3 : Rat) by grind) (show 1 / 3 ≤ t by grind) h2
      rw [b1_third] at k1 k2
      exact ab_le (by grind) (by grind)
  · rw [if_neg hs, if_neg (by grind)]
    have := b1_down (show 1 ≤ 3 * s by grind) h1 h2
    exact ab_le (by grind) (by grind)
theorem cube_up {s t : Rat} (h0 : 0 ≤ s) (h1 : s ≤ t) : s * s * s ≤ t * t * t := by
  have k1 := mul_nn (show 0 ≤ t - s by grind) (show 0 ≤ t * t + s * t + s * s by
    have a := mul_nn (show 0 ≤ t by grind) (show 0 ≤ t by grind)
    have b := mul_nn h0 (show 0 ≤ t by grind)
    have c := mul_nn h0 h0
    grind)
  grind
/-- How far a curve's coordinate goes between two times. -/
theorem bz_vr {c0 c1 c2 c3 m h s t : Rat} (k0 : ab (c0 - m) ≤ h) (k1 : ab (c1 - m) ≤ h) (k2 : ab (c2 - m) ≤ h) (k3 : ab (c3 - m) ≤ h) (h0 : 0 ≤ s) (h1 : s ≤ t) (h2 : t ≤ 1) :
    ab (bz c0 c1 c2 c3 t - bz c0 c1 c2 c3 s) ≤ h * (vr t - vr s) := by
  have e : bz c0 c1 c2 c3 t - bz c0 c1 c2 c3 s = (c0 - m) * ((1 - t) * (1 - t) * (1 - t) - (1 - s) * (1 - s) * (1 - s)) + (c1 - m) * (b1 t - b1 s) + (c2 - m) * (b1 (1 - t) - b1 (1 - s)) + (c3 - m) * (t * t * t - s * s * s) := by
    unfold bz b1; grind
  have a0 := cube_up (s := 1 - t) (t := 1 - s) (by grind) (by grind)
  have a3 := cube_up h0 h1
  have a1 := v1_diff h0 h1 h2
  have a2 := v1_diff (s := 1 - t) (t := 1 - s) (by grind) (by grind) (by grind)
  have e2 : b1 (1 - t) - b1 (1 - s) = -(b1 (1 - s) - b1 (1 - t)) := by grind
  have m0 := ab_mul_le k0 (ab_le (x := (1 - t) * (1 - t) * (1 - t) - (1 - s) * (1 - s) * (1 - s)) (y := (1 - s) * (1 - s) * (1 - s) - (1 - t) * (1 - t) * (1 - t)) (by grind) (by grind))
  have m1 := ab_mul_le k1 a1
  have m2 := ab_mul_le k2 (show ab (b1 (1 - t) - b1 (1 - s)) ≤ v1 (1 - s) - v1 (1 - t) by rw [e2, ab_neg]; exact a2)
  have m3 := ab_mul_le k3 (ab_le (x := t * t * t - s * s * s) (y := t * t * t - s * s * s) (by grind) (by grind))
  rw [e]
  have e4 : h * (vr t - vr s) = h * ((1 - s) * (1 - s) * (1 - s) - (1 - t) * (1 - t) * (1 - t)) + h * (v1 t - v1 s) + h * (v1 (1 - s) - v1 (1 - t)) + h * (t * t * t - s * s * s) := by unfold vr; grind
  rw [e4]
  exact ab_four m0 m1 m2 m3
theorem vr_01 : vr 0 = 0 ∧ vr 1 = 34 / 9 := by
  constructor <;> decide +kernel
/-- Second differences of a cubic curve: linear in the times' sum. -/
theorem bz_second (c0 c1 c2 c3 r s t : Rat) : (bz c0 c1 c2 c3 t - bz c0 c1 c2 c3 s) * (s - r) - (bz c0 c1 c2 c3 s - bz c0 c1 c2 c3 r) * (t - s) =
    (t - s) * (s - r) * (t - r) * ((c3 - 3 * c2 + 3 * c1 - c0) * (r + s + t) + 3 * (c2 - 2 * c1 + c0)) := by
  unfold bz; grind

/-! ### turns -/
/-- How far a function goes along times. -/
def tvL (G : Rat → Rat) : Rat → List Rat → Rat
  | _, [] => 0
  | s, t :: l => ab (G t - G s) + tvL G t l
def Inc : Rat → List Rat → Prop
  | _, [] => True
  | s, t :: l => s < t ∧ Inc t l
/-- What bends a cubic curve: linear in the times' sum. -/
def bend (A K r s t : Rat) : Rat := A * (r + s + t) + K
/-- A function whose second differences are as a cubic's. -/
def Cub (A K : Rat) (f : Rat → Rat) : Prop := ∀ r s t : Rat, (f t - f s) * (s - r) - (f s - f r) * (t - s) = (t - s) * (s - r) * (t - r) * bend A K r s t
theorem bz_cub (c0 c1 c2 c3 : Rat) : Cub (c3 - 3 * c2 + 3 * c1 - c0) (3 * (c2 - 2 * c1 + c0)) (bz c0 c1 c2 c3) := fun r s t => bz_second c0 c1 c2 c3 r s t
theorem pos_of_mul {a b : Rat} (hb : 0 < b) (h : 0 ≤ a * b) : 0 ≤ a := by
  rcases Rat.le_total (a := 0) (b := a) with c | c
  · exact c
  · have k := Rat.mul_le_mul_of_nonneg_right c (Rat.le_of_lt hb)
    rw [Rat.zero_mul] at k
    have e : a * b = 0 := Rat.le_antisymm k h
    rcases Rat.mul_eq_zero.1 e with e | e
    · rw [e]; exact Rat.le_refl
    · rw [e] at hb; exact absurd hb (by decide)
theorem Cub.up {A K r s t : Rat} {f : Rat → Rat} (hf : Cub A K f) (h1 : r < s) (h2 : s < t) (hb : 0 ≤ bend A K r s t) (hu : f r ≤ f s) : f s ≤ f t := by
  have e := hf r s t
  have k1 := mul_nn (mul_nn (mul_nn (show 0 ≤ t - s by grind) (show 0 ≤ s - r by grind)) (show 0 ≤ t - r by grind)) hb
  have k2 := mul_nn (show 0 ≤ f s - f r by grind) (show 0 ≤ t - s by grind)
  have := pos_of_mul (a := f t - f s) (b := s - r) (by grind) (by grind)
  grind
theorem Cub.down {A K r s t : Rat} {f : Rat → Rat} (hf : Cub A K f) (h1 : r < s) (h2 : s < t) (hb : bend A K r s t ≤ 0) (hu : f s ≤ f r) : f t ≤ f s := by
  have e := hf r s t
  have k1 := mul_nn (mul_nn (mul_nn (show 0 ≤ t - s by grind) (show 0 ≤ s - r by grind)) (show 0 ≤ t - r by grind)) (show 0 ≤ -bend A K r s t by grind)
  have k2 := mul_nn (show 0 ≤ f r - f s by grind) (show 0 ≤ t - s by grind)
  have := pos_of_mul (a := f s - f t) (b := s - r) (by grind) (by grind)
  grind
theorem bend_mono {A K r s t u : Rat} (hA : 0 ≤ A) (h1 : r < s) (h2 : s < t) (h3 : t < u) (h : 0 ≤ bend A K r s t) : 0 ≤ bend A K s t u := by
  unfold bend at *
  have := mul_nn hA (show 0 ≤ u - r by grind)
  grind
/-- Grows from 0 to 1. -/
structure Cut (g : Rat → Rat) : Prop where
  mono : ∀ {a b : Rat}, a ≤ b → g a ≤ g b
  low : ∀ a, 0 ≤ g a
  high : ∀ a, g a ≤ 1
section
variable {A K : Rat} {f g : Rat → Rat} (hf : Cub A K f) (hg : Cut g) (hA : 0 ≤ A)
include hf hg hA
theorem tv_up : ∀ (l : List Rat) (r s : Rat), Inc r (s :: l) → f r ≤ f s → (∀ t l', l = t :: l' → 0 ≤ bend A K r s t) → tvL (fun t => g (f t)) r (s :: l) ≤ 1 - g (f r)
  | [], r, s, hi, hu, _ => by
    have := hg.mono hu
    have := hg.high (f s)
    simp only [tvL]
    rw [ab_of_nonneg (by grind)]
    grind
  | t :: l, r, s, hi, hu, hb => by
    have hb0 := hb t l rfl
    have h2 := hf.up hi.1 hi.2.1 hb0 hu
    have ih := tv_up l s t hi.2 h2 fun u l' e => by
      subst e
      exact bend_mono hA hi.1 hi.2.1 hi.2.2.1 hb0
    have := hg.mono hu
    rw [tvL, ab_of_nonneg (by grind)]
    grind
theorem tv_cv : ∀ (l : List Rat) (r s : Rat), Inc r (s :: l) → (∀ t l', l = t :: l' → 0 ≤ bend A K r s t) → tvL (fun t => g (f t)) r (s :: l) ≤ 1 + g (f r)
  | [], r, s, hi, _ => by
    have := hg.high (f s)
    have := hg.low (f s)
    have := hg.high (f r)
    have := hg.low (f r)
    simp only [tvL]
    have := ab_le (x := g (f s) - g (f r)) (y := 1) (by grind) (by grind)
    grind
  | t :: l, r, s, hi, hb => by
    have hb0 := hb t l rfl
    rcases Rat.le_total (a := f r) (b := f s) with c | c
    · have := tv_up hf hg hA (t :: l) r s hi c hb
      have := hg.low (f r)
      grind
    · have ih := tv_cv l s t hi.2 fun u l' e => by
        subst e
        exact bend_mono hA hi.1 hi.2.1 hi.2.2.1 hb0
      have := hg.mono c
      rw [tvL, ab_of_nonpos (by grind)]
      grind
theorem tv_both : ∀ (l : List Rat) (r s : Rat), Inc r (s :: l) → (f s ≤ f r → tvL (fun t => g (f t)) r (s :: l) ≤ 1 + g (f r)) ∧ tvL (fun t => g (f t)) r (s :: l) ≤ 3 - g (f r)
  | [], r, s, hi => by
    have k := tv_cv hf hg hA [] r s hi fun t l' e => by simp at e
    have := hg.high (f r)
    exact ⟨fun _ => k, by grind⟩
  | t :: l, r, s, hi => by
    have h1 := hg.high (f r)
    rcases Rat.le_total (a := 0) (b := bend A K r s t) with c | c
    · have k := tv_cv hf hg hA (t :: l) r s hi fun u l' e => by
        obtain ⟨rfl, rfl⟩ := List.cons.inj e
        exact c
      exact ⟨fun _ => k, by grind⟩
    · obtain ⟨i1, i2⟩ := tv_both l s t hi.2
      have kA : f s ≤ f r → tvL (fun t => g (f t)) r (s :: t :: l) ≤ 1 + g (f r) := fun hd => by
        have h2 := i1 (hf.down hi.1 hi.2.1 c hd)
        have := hg.mono hd
        rw [tvL, ab_of_nonpos (by grind)]
        grind
      refine ⟨kA, ?_⟩
      rcases Rat.le_total (a := f s) (b := f r) with d | d
      · have := kA d
        grind
      · have := hg.mono d
        rw [tvL, ab_of_nonneg (by grind)]
        grind
end
/-- A cubic curve crosses a row at most three times. -/
theorem tv_three {A K : Rat} {f g : Rat → Rat} (hf : Cub A K f) (hg : Cut g) (l : List Rat) (r : Rat) (hi : Inc r l) : tvL (fun t => g (f t)) r l ≤ 3 := by
  cases l with
  | nil => simp only [tvL]; decide +kernel
  | cons s l =>
    rcases Rat.le_total (a := 0) (b := A) with c | c
    · have := (tv_both hf hg c l r s hi).2
      have := hg.low (f r)
      grind
    · have hf' : Cub (-A) (-K) (fun t => -f t) := fun r s t => by
        have := hf r s t
        have e : bend (-A) (-K) r s t = -bend A K r s t := by unfold bend; grind
        rw [e]
        grind
      have hg' : Cut (fun x => 1 - g (-x)) := ⟨fun h => by have := hg.mono (show -_ ≤ -_ from Rat.neg_le_neg h); grind, fun a => by have := hg.high (-a); grind, fun a => by have := hg.low (-a); grind⟩
      have k := (tv_both hf' hg' (by grind) l r s hi).2
      have e : ∀ (l : List Rat) (r : Rat), tvL (fun t => 1 - g (- -f t)) r l = tvL (fun t => g (f t)) r l := by
        intro l
        induction l with
        | nil => intro r; rfl
        | cons t l ih =>
          intro r
          rw [tvL, tvL, ih t]
          have e1 : 1 - g (- -f t) - (1 - g (- -f r)) = -(g (f t) - g (f r)) := by rw [Rat.neg_neg, Rat.neg_neg]; grind
          rw [e1, ab_neg]
      rw [e] at k
      have := hg.high (- -f r)
      grind
end Go.Proofs.Ytmgcbodlolnheaa

namespace Go.Proofs.Ytmgcbodlolnheaa
open Flt Go.RowKit
set_option linter.unusedVariables false

theorem tot_T {d x0 x1 x2 A T1 T2 M A0 AM u τ : Rat} (hu : u = 1 / 16777216) (hτ : τ = 1 / 1000000000000000000000000000000) (hd : ab d ≤ 1) (a0 : 0 ≤ A) (m0 : 0 ≤ M) (hA : ab (A - A0) ≤ 18 * u) (hM : ab (M - AM) ≤ 18 * u) (p0 : 0 ≤ A0) (p1 : 0 ≤ AM) (p2 : A0 + AM ≤ 1)
    (k1 : ab (T1 - (1 - A)) ≤ ab (1 - A) * u + τ) (k2 : ab (T2 - (T1 - M)) ≤ ab (T1 - M) * u + τ) (w0 : ab (x0 - d * A) ≤ ab (d * A) * u + τ) (w1 : ab (x1 - d * T2) ≤ ab (d * T2) * u + τ) (w2 : ab (x2 - d * M) ≤ ab (d * M) * u + τ) :
    ab (x0 + (x1 + (x2 + 0)) - d) ≤ ab d * (4 * u) + 1 / 100000000000000000000000000 := by
  have hd0 := ab_nonneg d
  obtain ⟨a1, a2⟩ := ab_iff.1 hA
  obtain ⟨b1, b2⟩ := ab_iff.1 hM
  have c1 : ab (1 - A) ≤ 101 / 100 := by subst hu; exact ab_le (by grind) (by grind)
  have d1 : ab (T1 - (1 - A)) ≤ 102 / 100 * u := by
    have := Rat.mul_le_mul_of_nonneg_right c1 (show 0 ≤ u by subst hu; decide +kernel)
    subst hu hτ; grind
  obtain ⟨e1, e2⟩ := ab_iff.1 d1
  have c2 : ab (T1 - M) ≤ 101 / 100 := by subst hu; exact ab_le (by grind) (by grind)
  have d2 : ab (T2 - (T1 - M)) ≤ 102 / 100 * u := by
    have := Rat.mul_le_mul_of_nonneg_right c2 (show 0 ≤ u by subst hu; decide +kernel)
    subst hu hτ; grind
  obtain ⟨f1, f2⟩ := ab_iff.1 d2
  have g2 : ab (T2 - (1 - A - M)) ≤ 204 / 100 * u := ab_le (by grind) (by grind)
  have hT : ab T2 ≤ 1 - A0 - AM + 39 * u := ab_le (by grind) (by grind)
  have z0 : ab (d * A) ≤ ab d * (A0 + 18 * u) := ab_mul_le Rat.le_refl (by rw [ab_of_nonneg a0]; grind)
  have z1 : ab (d * T2) ≤ ab d * (1 - A0 - AM + 39 * u) := ab_mul_le Rat.le_refl hT
  have z2 : ab (d * M) ≤ ab d * (AM + 18 * u) := ab_mul_le Rat.le_refl (by rw [ab_of_nonneg m0]; grind)
  have z3 : ab (d * (T2 - (1 - A - M))) ≤ ab d * (204 / 100 * u) := ab_mul_le Rat.le_refl g2
  have e : x0 + (x1 + (x2 + 0)) - d = (x0 - d * A) + (x1 - d * T2) + (x2 - d * M) + d * (T2 - (1 - A - M)) := by grind
  have n1 := ab_add_le ((x0 - d * A) + (x1 - d * T2) + (x2 - d * M)) (d * (T2 - (1 - A - M)))
  have n2 := ab_add_le ((x0 - d * A) + (x1 - d * T2)) (x2 - d * M)
  have n3 := ab_add_le (x0 - d * A) (x1 - d * T2)
  rw [e]
  have s1 : ab (d * A) + ab (d * T2) + ab (d * M) ≤ ab d * (1 + 75 * u) := by
    have : ab d * (A0 + 18 * u) + ab d * (1 - A0 - AM + 39 * u) + ab d * (AM + 18 * u) = ab d * (1 + 75 * u) := by grind
    grind
  have s2 : ab d * (1 + 75 * u) ≤ ab d * (101 / 100) := Rat.mul_le_mul_of_nonneg_left (by subst hu; decide +kernel) hd0
  generalize ab (d * A) = y0 at *
  generalize ab (d * T2) = y1 at *
  generalize ab (d * M) = y2 at *
  subst hu hτ
  grind
set_option maxHeartbeats 1000000 in
/-- Three cells. -/
theorem rowT_totS {W base d lo hi : Nat} (hl : XsG lo) (hh : XsG hi) (hd : Bd d 0) (hlt : V lo < V hi) (hw110 : p2 (-110) ≤ V hi - V lo) (hc : fce hi = ffl lo + 2) :
    ab (totR (valL (frowT W base d lo hi)) - V d) ≤ ab (V d) * (4 / 16777216) + 1 / 100000000000000000000000000 := by
  obtain ⟨_, el, l1, l2⟩ := hl.fl
  obtain ⟨_, eh, h1, h2⟩ := hh.ce
  obtain ⟨fl1, fl2⟩ := floor_near (V lo)
  obtain ⟨ce1, ce2⟩ := ceil_near (V hi)
  rw [← el] at fl1 fl2
  rw [← eh] at ce1 ce2
  have G := low_partG hl
  have H := high_partG hh
  obtain ⟨s1, s2, s3, s4⟩ := inv_partG hl hh hw110
  have hcr : (fce hi : Rat) = (ffl lo : Rat) + 2 := by rw [hc]; push_cast; rfl
  obtain ⟨g, hg⟩ : ∃ g, g = (ffl lo : Rat) + 1 - V lo := ⟨_, rfl⟩
  obtain ⟨h, hhh⟩ : ∃ h, h = V hi - ((fce hi : Rat) - 1) := ⟨_, rfl⟩
  obtain ⟨w, hw⟩ : ∃ w, w = V hi - V lo := ⟨_, rfl⟩
  rw [← hg] at G
  rw [← hhh] at H
  rw [← hw] at s4
  have hw0 : 0 < w := by grind
  have hwgh : w = g + h := by grind
  have hwb : w ≤ 100000 := by have := G.g1; have := H.g1; grind
  obtain ⟨s, hs, hs0⟩ := inv_of hw0
  obtain ⟨p1, p2', p3⟩ := half_partG s1 s2 s3 hw0 hwb s4
  have p4 : V (fop .mul 1056964608 (fop .quo 1065353216 (fop .sub hi lo))) ≤ 1500000000000000000000000000000000 := by
    obtain ⟨_, r⟩ := fmul_ok fhalf.1.fin s1 (big126G (by rw [fhalf.2]; exact ab_le (by grind) (by grind)))
    rw [fhalf.2] at r
    have n := r.near5.2
    rw [ab_of_nonneg (x := 1 / 2 * V (fop .quo 1065353216 (fop .sub hi lo))) (by grind)] at n
    obtain ⟨a, _⟩ := ab_iff.1 n
    grind
  obtain ⟨a1, a2, a3⟩ := quad_partG (w := w) (s := s) G p1 p2' p4 hw0 hs p3 (by have := H.g0; grind)
  obtain ⟨b1, b2, b3⟩ := quad_partG (w := w) (s := s) H p1 p2' p4 hw0 hs p3 (by have := G.g0; grind)
  obtain ⟨t1, t2, t3, t4, t5⟩ := tri_rat (Rat.le_of_lt G.g0) G.g1 (Rat.le_of_lt H.g0) H.g1 hs hs0 (by rw [hwgh]; exact Rat.le_refl)
  have hg0 := G.g0
  have hg1 := G.g1
  have hh0 := H.g0
  have hh1 := H.g1
  unfold frowT
  generalize fop .mul (fop .mul (fop .mul 1056964608 (fop .quo 1065353216 (fop .sub hi lo))) (fop .sub 1065353216 (fop .sub lo (floatOfInt .f32 (ffl lo))))) (fop .sub 1065353216 (fop .sub lo (floatOfInt .f32 (ffl lo)))) = A at *
  generalize fop .mul (fop .mul (fop .mul 1056964608 (fop .quo 1065353216 (fop .sub hi lo))) (fop .add (fop .sub hi (floatOfInt .f32 (fce hi))) 1065353216)) (fop .add (fop .sub hi (floatOfInt .f32 (fce hi))) 1065353216) = M at *
  have hAM : s * (g + 1 / 2 - (1 - h) * (1 - h) / 2) = 1 - h * h / 2 * s := by
    have : s * (g + h) = 1 := by rw [← hwgh]; exact hs
    grind
  have hA0 : s * (g * g / 2) = g * g / 2 * s := by grind
  generalize g * g / 2 * s = A0 at *
  generalize h * h / 2 * s = AM at *
  have hone : ab (V 1065353216 - 1) ≤ 0 := by rw [fone.2]; decide +kernel
  obtain ⟨f1, n1⟩ := subE (X := 1) (E := 18 / 16777216) fone.1.fin a1 hone a3 (ab_le (by grind) (by grind)) (by grind) (by grind)
  obtain ⟨f2, n2⟩ := subE (X := 1) (E := 36 / 16777216) f1 b1 n1 b3 (ab_le (by grind) (by grind)) (by grind) (by grind)
  have habA : ab (V A) ≤ 2 := by obtain ⟨x, y⟩ := ab_iff.1 a3; exact ab_le (by grind) (by grind)
  have habM : ab (V M) ≤ 2 := by obtain ⟨x, y⟩ := ab_iff.1 b3; exact ab_le (by grind) (by grind)
  have hD : ab (V d) ≤ 1 := by have := hd.ab; rwa [p2_zero] at this
  have habA : ab (V A) ≤ 2 := by obtain ⟨x, y⟩ := ab_iff.1 a3; exact ab_le (by grind) (by grind)
  have habM : ab (V M) ≤ 2 := by obtain ⟨x, y⟩ := ab_iff.1 b3; exact ab_le (by grind) (by grind)
  obtain ⟨_, r1⟩ := fsub_ok fone.1.fin a1 (big126G (by rw [fone.2]; obtain ⟨x, y⟩ := ab_iff.1 a3; exact ab_le (by grind) (by grind)))
  rw [fone.2] at r1
  have k1 := r1.near5.2
  generalize hT1 : fop .sub 1065353216 A = T1 at *
  obtain ⟨_, r2⟩ := fsub_ok f1 b1 (big126G (by obtain ⟨x, y⟩ := ab_iff.1 n1; obtain ⟨x2, y2⟩ := ab_iff.1 b3; exact ab_le (by grind) (by grind)))
  have k2 := r2.near5.2
  generalize hT2 : fop .sub T1 M = T2 at *
  have habT : ab (V T2) ≤ 2 := by obtain ⟨x, y⟩ := ab_iff.1 n2; exact ab_le (by grind) (by grind)
  have mul2 : ∀ z : Rat, ab z ≤ 2 → ab (V d * z) ≤ 10000000000000000000000000000000000000 := fun z hz => by
    have := ab_mul_le hD hz
    grind
  have w0 := (fmul_ok hd.fin a1 (big126G (mul2 _ habA))).2.near5.2
  have w1 := (fmul_ok hd.fin f2 (big126G (mul2 _ habT))).2.near5.2
  have w2 := (fmul_ok hd.fin b1 (big126G (mul2 _ habM))).2.near5.2
  have e : totR (valL [(base + clampN (ffl lo) W, fop .mul d A), (base + clampN (ffl lo + 1) W, fop .mul d T2), (base + clampN (fce hi) W, fop .mul d M)]) = V (fop .mul d A) + (V (fop .mul d T2) + (V (fop .mul d M) + 0)) := rfl
  rw [e]
  have := tot_T (u := 1 / 16777216) (τ := 1 / 1000000000000000000000000000000) rfl rfl hD a2 b2 (A0 := A0) (AM := AM) (by grind) (by grind) t1 t2 t3 k1 k2 w0 w1 w2
  grind

theorem tot_M {d x0 x1 xN x3 x4 A C CA SN Z A2 U1 U2 M A0 AM c0 sN u τ : Rat} (hu : u = 1 / 16777216) (hτ : τ = 1 / 1000000000000000000000000000000) (hd : ab d ≤ 1) (hA : ab (A - A0) ≤ 18 * u) (hC : ab (C - c0) ≤ 11 * u) (hZ : ab (Z - sN) ≤ 5 * u) (hM : ab (M - AM) ≤ 18 * u)
    (p0 : 0 ≤ A0) (p1 : A0 ≤ c0) (p2 : 0 ≤ sN) (p3 : 0 ≤ AM) (p4 : c0 + sN + AM ≤ 1) (kN : ab (Z - SN) ≤ ab SN * u + τ) (hSN : ab (SN - sN) ≤ 3 * u)
    (k1 : ab (CA - (C - A)) ≤ ab (C - A) * u + τ) (k2 : ab (A2 - (C + Z)) ≤ ab (C + Z) * u + τ) (k3 : ab (U1 - (1 - A2)) ≤ ab (1 - A2) * u + τ) (k4 : ab (U2 - (U1 - M)) ≤ ab (U1 - M) * u + τ)
    (w0 : ab (x0 - d * A) ≤ ab (d * A) * u + τ) (w1 : ab (x1 - d * CA) ≤ ab (d * CA) * u + τ) (wN : ab (xN - d * SN) ≤ ab d * (2 * u) + 1 / 400000000000000000000000000) (w3 : ab (x3 - d * U2) ≤ ab (d * U2) * u + τ) (w4 : ab (x4 - d * M) ≤ ab (d * M) * u + τ) :
    ab (x0 + x1 + xN + x3 + x4 - d) ≤ ab d * (6 * u) + 1 / 100000000000000000000000000 := by
  have hd0 := ab_nonneg d
  have hu0 : 0 ≤ u := by subst hu; decide +kernel
  obtain ⟨a1, a2⟩ := ab_iff.1 hA
  obtain ⟨b1, b2⟩ := ab_iff.1 hC
  obtain ⟨c1, c2⟩ := ab_iff.1 hZ
  obtain ⟨d1, d2⟩ := ab_iff.1 hM
  obtain ⟨e1, e2⟩ := ab_iff.1 hSN
  have rel : ∀ {e z b : Rat}, ab e ≤ ab z * u + τ → ab z ≤ b → b ≤ 11 / 10 → ab e ≤ b * u + τ ∧ ab e ≤ 12 / 10 * u := by
    intro e z b h1 h2 h3
    have m1 := Rat.mul_le_mul_of_nonneg_right h2 hu0
    have m2 := Rat.mul_le_mul_of_nonneg_right h3 hu0
    refine ⟨by grind, ?_⟩
    subst hu hτ
    grind
  obtain ⟨f1, f2⟩ := rel kN (b := sN + 3 * u) (ab_le (by grind) (by grind)) (by subst hu; grind)
  obtain ⟨g1, g2⟩ := rel k1 (b := c0 - A0 + 29 * u) (ab_le (by grind) (by grind)) (by subst hu; grind)
  obtain ⟨h1, h2⟩ := rel k2 (b := c0 + sN + 16 * u) (ab_le (by grind) (by grind)) (by subst hu; grind)
  obtain ⟨i1, i2⟩ := ab_iff.1 h2
  obtain ⟨j1, j2⟩ := rel k3 (b := 1 - c0 - sN + 18 * u) (ab_le (by grind) (by grind)) (by subst hu; grind)
  obtain ⟨l1, l2⟩ := ab_iff.1 j2
  obtain ⟨m1, m2⟩ := rel k4 (b := 1 - c0 - sN + 38 * u) (ab_le (by grind) (by grind)) (by subst hu; grind)
  obtain ⟨n1, n2⟩ := ab_iff.1 m2
  obtain ⟨o1, o2⟩ := ab_iff.1 g2
  -- the whole of the sums' errors
  have q : ab ((CA - (C - A)) + (U2 - (U1 - M)) + (U1 - (1 - A2)) - (A2 - (C + Z)) - (Z - SN)) ≤ 205 / 100 * u := by
    obtain ⟨r1, r2⟩ := ab_iff.1 f1
    obtain ⟨r3, r4⟩ := ab_iff.1 g1
    obtain ⟨r5, r6⟩ := ab_iff.1 h1
    obtain ⟨r7, r8⟩ := ab_iff.1 j1
    obtain ⟨r9, r10⟩ := ab_iff.1 m1
    have e9 : (sN + 3 * u) * u + (c0 - A0 + 29 * u) * u + (c0 + sN + 16 * u) * u + (1 - c0 - sN + 18 * u) * u + (1 - c0 - sN + 38 * u) * u = (2 - A0) * u + 104 * u * u := by grind
    have e10 := Rat.mul_nonneg p0 hu0
    have e11 : 104 * u * u ≤ 1 / 100 * u := Rat.mul_le_mul_of_nonneg_right (by subst hu; decide +kernel) hu0
    have e12 : 5 * τ ≤ 1 / 100 * u := by subst hu hτ; decide +kernel
    have e13 : (2 - A0) * u = 2 * u - A0 * u := by grind
    exact ab_le (by grind) (by grind)
  have hCA : ab CA ≤ c0 - A0 + 31 * u := ab_le (by grind) (by grind)
  have hU2 : ab U2 ≤ 1 - c0 - sN - AM + 40 * u := ab_le (by grind) (by grind)
  have z0 : ab (d * A) ≤ ab d * (A0 + 18 * u) := ab_mul_le Rat.le_refl (ab_le (by grind) (by grind))
  have z1 : ab (d * CA) ≤ ab d * (c0 - A0 + 31 * u) := ab_mul_le Rat.le_refl hCA
  have z3 : ab (d * U2) ≤ ab d * (1 - c0 - sN - AM + 40 * u) := ab_mul_le Rat.le_refl hU2
  have z4 : ab (d * M) ≤ ab d * (AM + 18 * u) := ab_mul_le Rat.le_refl (ab_le (by grind) (by grind))
  have z5 := ab_mul_le (x := d) (a := ab d) Rat.le_refl q
  have e : x0 + x1 + xN + x3 + x4 - d = (x0 - d * A) + (x1 - d * CA) + (x3 - d * U2) + (x4 - d * M) + (xN - d * SN) + d * ((CA - (C - A)) + (U2 - (U1 - M)) + (U1 - (1 - A2)) - (A2 - (C + Z)) - (Z - SN)) := by grind
  rw [e]
  have s1 : ab (d * A) + ab (d * CA) + ab (d * U2) + ab (d * M) ≤ ab d * (1 + 107 * u) := by
    have m3 := Rat.mul_nonneg hd0 p2
    have : ab d * (A0 + 18 * u) + ab d * (c0 - A0 + 31 * u) + ab d * (1 - c0 - sN - AM + 40 * u) + ab d * (AM + 18 * u) = ab d * (1 + 107 * u) - ab d * sN := by grind
    grind
  have s2 : ab d * (1 + 107 * u) ≤ ab d * (101 / 100) := Rat.mul_le_mul_of_nonneg_left (by subst hu; decide +kernel) hd0
  have n6 := ab_add_le ((x0 - d * A) + (x1 - d * CA) + (x3 - d * U2) + (x4 - d * M) + (xN - d * SN)) (d * ((CA - (C - A)) + (U2 - (U1 - M)) + (U1 - (1 - A2)) - (A2 - (C + Z)) - (Z - SN)))
  have n7 := ab_add_le ((x0 - d * A) + (x1 - d * CA) + (x3 - d * U2) + (x4 - d * M)) (xN - d * SN)
  have n8 := ab_four w0 w1 w3 w4
  refine Rat.le_trans n6 ?_
  generalize ab (d * A) = y0 at *
  generalize ab (d * CA) = y1 at *
  generalize ab (d * U2) = y2 at *
  generalize ab (d * M) = y3 at *
  subst hu hτ
  grind
set_option maxHeartbeats 2000000 in
/-- Many cells. -/
theorem rowM_totS {W base d lo hi N : Nat} {B : Rat} (hl : XsG lo) (hh : XsG hi) (hd : Bd d 0) (hB0 : 120 ≤ B) (hB1 : B ≤ 1024) (hbl : ab (V lo) ≤ B) (hbh : ab (V hi) ≤ B) (hlt : V lo < V hi) (hw110 : p2 (-110) ≤ V hi - V lo) (hN : fce hi = ffl lo + 3 + (N : Int)) :
    ab (totR (valL (frowM W base d lo hi N)) - V d) ≤ ab (V d) * (6 / 16777216) + 1 / 100000000000000000000000000 := by
  obtain ⟨_, el, l1, l2⟩ := hl.fl
  obtain ⟨_, eh, h1, h2⟩ := hh.ce
  obtain ⟨fl1, fl2⟩ := floor_near (V lo)
  obtain ⟨ce1, ce2⟩ := ceil_near (V hi)
  rw [← el] at fl1 fl2
  rw [← eh] at ce1 ce2
  have G := low_partG hl
  have H := high_partG hh
  obtain ⟨fr1, fr2⟩ := frac_nearG hl
  obtain ⟨s1, s2, s3, s4⟩ := inv_partG hl hh hw110
  have hcr : (fce hi : Rat) = (ffl lo : Rat) + 3 + (N : Rat) := by rw [hN]; push_cast; rfl
  obtain ⟨g, hg⟩ : ∃ g, g = (ffl lo : Rat) + 1 - V lo := ⟨_, rfl⟩
  obtain ⟨h, hhh⟩ : ∃ h, h = V hi - ((fce hi : Rat) - 1) := ⟨_, rfl⟩
  obtain ⟨w, hw⟩ : ∃ w, w = V hi - V lo := ⟨_, rfl⟩
  rw [← hg] at G
  rw [← hhh] at H
  rw [← hw] at s4
  have hg0 := G.g0
  have hg1 := G.g1
  have hh0 := H.g0
  have hh1 := H.g1
  have hNn : (0 : Rat) ≤ (N : Rat) := by exact_mod_cast Nat.zero_le N
  have hwgh : w = g + h + (N + 1) := by grind
  have hw0 : 0 < w := by grind
  have hw2 : w ≤ 2048 := by
    obtain ⟨x, y⟩ := ab_iff.1 hbl
    obtain ⟨x2, y2⟩ := ab_iff.1 hbh
    grind
  have hwb : w ≤ 100000 := by grind
  have hN2 : (N : Rat) ≤ 2048 := by grind
  obtain ⟨s, hs, hs0⟩ := inv_of hw0
  obtain ⟨p1, p2', p3⟩ := half_partG s1 s2 s3 hw0 hwb s4
  have p4 : V (fop .mul 1056964608 (fop .quo 1065353216 (fop .sub hi lo))) ≤ 1500000000000000000000000000000000 := by
    obtain ⟨_, r⟩ := fmul_ok fhalf.1.fin s1 (big126G (by rw [fhalf.2]; exact ab_le (by grind) (by grind)))
    rw [fhalf.2] at r
    have n := r.near5.2
    rw [ab_of_nonneg (x := 1 / 2 * V (fop .quo 1065353216 (fop .sub hi lo))) (by grind)] at n
    obtain ⟨a, _⟩ := ab_iff.1 n
    grind
  obtain ⟨a1, a2, a3⟩ := quad_partG (w := w) (s := s) G p1 p2' p4 hw0 hs p3 (by grind)
  obtain ⟨b1, b2, b3⟩ := quad_partG (w := w) (s := s) H p1 p2' p4 hw0 hs p3 (by grind)
  obtain ⟨t1, t2, t3, t4, t5⟩ := tri_rat (Rat.le_of_lt hg0) hg1 (Rat.le_of_lt hh0) hh1 hs hs0 (by grind)
  -- products with s
  have hsN0 : 0 ≤ s * N := Rat.mul_nonneg (Rat.le_of_lt hs0) hNn
  have hsum : g * s + h * s + s * N + s = 1 := by
    have : s * (g + h + (N + 1)) = 1 := by rw [← hwgh]; exact hs
    grind
  have hgs0 : 0 ≤ g * s := Rat.mul_nonneg (Rat.le_of_lt hg0) (Rat.le_of_lt hs0)
  have hhs0 : 0 ≤ h * s := Rat.mul_nonneg (Rat.le_of_lt hh0) (Rat.le_of_lt hs0)
  have hAle : g * g / 2 * s ≤ g * s := by
    have m1 := Rat.mul_le_mul_of_nonneg_left hg1 hgs0
    have e : g * g / 2 * s = 1 / 2 * (g * s * g) := by grind
    have m2 := Rat.mul_nonneg hgs0 (Rat.le_of_lt hg0)
    rw [e]
    grind
  have hMle : h * h / 2 * s ≤ h * s := by
    have m1 := Rat.mul_le_mul_of_nonneg_left hh1 hhs0
    have e : h * h / 2 * s = 1 / 2 * (h * s * h) := by grind
    have m2 := Rat.mul_nonneg hhs0 (Rat.le_of_lt hh0)
    rw [e]
    grind
  -- the reciprocal itself
  have hS : ab (V (fop .quo 1065353216 (fop .sub hi lo)) - s) ≤ s * (3 / 16777216) := by
    have e : V (fop .quo 1065353216 (fop .sub hi lo)) - s = (V (fop .quo 1065353216 (fop .sub hi lo)) * w - 1) * s := by
      have : (V (fop .quo 1065353216 (fop .sub hi lo)) * w - 1) * s = V (fop .quo 1065353216 (fop .sub hi lo)) * (s * w) - s := by grind
      rw [this, hs]
      grind
    rw [e, ab_mul, ab_of_nonneg (Rat.le_of_lt hs0)]
    have := Rat.mul_le_mul_of_nonneg_right s4 (Rat.le_of_lt hs0)
    grind
  have hs1 : s ≤ 1 := by grind
  have hS3 : ab (V (fop .quo 1065353216 (fop .sub hi lo)) - s) ≤ 3 / 16777216 := by grind
  obtain ⟨k1, k2⟩ := ofInt_bd (n := fce hi - ffl lo - 3) (k := 17) (by decide) (by omega) (by omega)
  have k3 : V (floatOfInt .f32 (fce hi - ffl lo - 3)) = N := by
    rw [k2]
    have : fce hi - ffl lo - 3 = (N : Int) := by omega
    rw [this]
    push_cast
    rfl
  unfold frowM
  generalize fop .mul (fop .mul (fop .mul 1056964608 (fop .quo 1065353216 (fop .sub hi lo))) (fop .sub 1065353216 (fop .sub lo (floatOfInt .f32 (ffl lo))))) (fop .sub 1065353216 (fop .sub lo (floatOfInt .f32 (ffl lo)))) = A at *
  generalize fop .mul (fop .mul (fop .mul 1056964608 (fop .quo 1065353216 (fop .sub hi lo))) (fop .add (fop .sub hi (floatOfInt .f32 (fce hi))) 1065353216)) (fop .add (fop .sub hi (floatOfInt .f32 (fce hi))) 1065353216) = M at *
  generalize fop .quo 1065353216 (fop .sub hi lo) = S at *
  generalize fop .sub lo (floatOfInt .f32 (ffl lo)) = F at *
  generalize floatOfInt .f32 (fce hi - ffl lo - 3) = K at *
  have hAM : s * (g + N + 3 / 2 - (1 - h) * (1 - h) / 2) = 1 - h * h / 2 * s := by grind
  have hA0 : s * (g * g / 2) = g * g / 2 * s := by grind
  have hone : ab (V 1065353216 - 1) ≤ 0 := by rw [fone.2]; decide +kernel
  have h15 : ab (V 1069547520 - 3 / 2) ≤ 0 := by
    rw [f15.2]
    have : (3 : Rat) / 2 - 3 / 2 = 0 := by grind
    rw [this]; decide +kernel
  have zz : ∀ z : Nat, ab (V z - V z) ≤ 0 := fun z => by have : V z - V z = 0 := by grind
                                                         rw [this]; decide +kernel
  -- 3/2 - f
  obtain ⟨c1, c2⟩ := subE (X := 3 / 2) (E := 4 / 16777216) f15.1.fin fr1 h15 fr2 (ab_le (by grind) (by grind)) (by grind) (by grind)
  have e15 : (3 : Rat) / 2 - (V lo - (ffl lo : Rat)) = g + 1 / 2 := by grind
  rw [e15] at c2
  generalize fop .sub 1069547520 F = L at *
  -- a1
  obtain ⟨d1, d2⟩ := mulE (X := 1) (Y := 3 / 2) (e := 3 / 16777216) (f := 4 / 16777216) (E := 11 / 16777216) s1 c1 hS3 c2 (ab_le hs1 (by grind)) (ab_le (by grind) (by grind)) (by decide +kernel) (by decide +kernel) (by decide +kernel) (by decide +kernel)
  have ea1 : s * (g + 1 / 2) = g * s + s / 2 := by grind
  rw [ea1] at d2
  generalize fop .mul S L = C at *
  generalize hgA : g * g / 2 * s = A0 at *
  generalize hgM : h * h / 2 * s = AM at *
  generalize hgs : g * s = gs at *
  generalize hhs : h * s = hs' at *
  generalize hsN : s * (N : Rat) = sN at *
  -- a1 - a0
  obtain ⟨g1', g2'⟩ := subE (X := 3 / 2) (E := 29 / 16777216) d1 a1 d2 a3 (ab_le (by grind) (by grind)) (by grind) (by grind)
  obtain ⟨_, g3'⟩ := subE (X := 8 / 5) (E := 2 / 16777216) d1 a1 (zz C) (zz A) (by obtain ⟨x, y⟩ := ab_iff.1 a3; obtain ⟨x2, y2⟩ := ab_iff.1 d2; exact ab_le (by grind) (by grind)) (by grind) (by grind)
  generalize hCA : fop .sub C A = CA at *
  -- s * N
  have hSN : ab (V S * N) ≤ 11 / 10 := by
    have e : V S * N = (V S - s) * N + sN := by rw [← hsN]; grind
    have j1 : ab ((V S - s) * N) ≤ s * (3 / 16777216) * N := ab_mul_le hS (by rw [ab_of_nonneg hNn]; exact Rat.le_refl)
    have j2 : s * (3 / 16777216) * N = sN * (3 / 16777216) := by rw [← hsN]; grind
    have j3 := ab_add_le ((V S - s) * N) sN
    rw [ab_of_nonneg hsN0] at j3
    rw [e]
    grind
  obtain ⟨_, rN⟩ := fmul_ok s1 k1.fin (big126G (by rw [k3]; grind))
  rw [k3] at rN
  have nN := rN.near5.2
  have hSNd : ab (V S * N - sN) ≤ 3 / 16777216 := by
    have e : V S * N - sN = (V S - s) * N := by rw [← hsN]; grind
    have j1 : ab ((V S - s) * N) ≤ s * (3 / 16777216) * N := ab_mul_le hS (by rw [ab_of_nonneg hNn]; exact Rat.le_refl)
    have j2 : s * (3 / 16777216) * N = sN * (3 / 16777216) := by rw [← hsN]; grind
    rw [e]
    grind
  have fN := rN.fin
  generalize fop .mul S K = Z at *
  have nN2 : ab (V Z - V S * N) ≤ 2 / 16777216 := by grind
  have nN1 : ab (V Z - sN) ≤ 5 / 16777216 := by
    have e : V Z - sN = (V Z - V S * N) + (V S * N - sN) := by grind
    have j := ab_add_le (V Z - V S * N) (V S * N - sN)
    rw [← e] at j
    grind
  -- a2
  obtain ⟨i1, i2⟩ := addE (X := 1) (E := 18 / 16777216) d1 fN d2 nN1 (ab_le (by grind) (by grind)) (by grind) (by grind)
  obtain ⟨_, i3⟩ := addE (X := 11 / 10) (E := 2 / 16777216) d1 fN (zz C) (zz Z) (by obtain ⟨x, y⟩ := ab_iff.1 nN1; obtain ⟨x2, y2⟩ := ab_iff.1 d2; exact ab_le (by grind) (by grind)) (by grind) (by grind)
  generalize hA2 : fop .add C Z = A2 at *
  obtain ⟨j1, j2⟩ := subE (X := 1) (E := 20 / 16777216) fone.1.fin i1 hone i2 (ab_le (by grind) (by grind)) (by grind) (by grind)
  obtain ⟨_, j3⟩ := subE (X := 11 / 10) (E := 2 / 16777216) fone.1.fin i1 hone (zz A2) (by obtain ⟨x, y⟩ := ab_iff.1 i2; exact ab_le (by grind) (by grind)) (by grind) (by grind)
  generalize hU1 : fop .sub 1065353216 A2 = U1 at *
  obtain ⟨o1, o2⟩ := subE (X := 1) (E := 38 / 16777216) j1 b1 j2 b3 (ab_le (by grind) (by grind)) (by grind) (by grind)
  obtain ⟨_, o3⟩ := subE (X := 11 / 10) (E := 2 / 16777216) j1 b1 (zz U1) (zz M) (by obtain ⟨x, y⟩ := ab_iff.1 j2; obtain ⟨x2, y2⟩ := ab_iff.1 b3; exact ab_le (by grind) (by grind)) (by grind) (by grind)
  generalize hU2 : fop .sub U1 M = U2 at *
  have hD : ab (V d) ≤ 1 := by have := hd.ab; rwa [p2_zero] at this
  have hD0 := ab_nonneg (V d)
  have big : ∀ z : Rat, ab z ≤ 3 → ab z ≤ p2 126 := fun z hz => big126G (by grind)
  have r1 := (fsub_ok d1 a1 (big _ (by obtain ⟨x, y⟩ := ab_iff.1 a3; obtain ⟨x2, y2⟩ := ab_iff.1 d2; exact ab_le (by grind) (by grind)))).2.near5.2
  rw [hCA] at r1
  have r2 := (fadd_ok d1 fN (big _ (by obtain ⟨x, y⟩ := ab_iff.1 nN1; obtain ⟨x2, y2⟩ := ab_iff.1 d2; exact ab_le (by grind) (by grind)))).2.near5.2
  rw [hA2] at r2
  have r3 := (fsub_ok fone.1.fin i1 (big _ (by rw [fone.2]; obtain ⟨x, y⟩ := ab_iff.1 i2; exact ab_le (by grind) (by grind)))).2.near5.2
  rw [hU1, fone.2] at r3
  have r4 := (fsub_ok j1 b1 (big _ (by obtain ⟨x, y⟩ := ab_iff.1 j2; obtain ⟨x2, y2⟩ := ab_iff.1 b3; exact ab_le (by grind) (by grind)))).2.near5.2
  rw [hU2] at r4
  have mul2 : ∀ z : Rat, ab z ≤ 2 → ab (V d * z) ≤ p2 126 := fun z hz => by
    have := ab_mul_le hD hz
    exact big _ (by grind)
  have w0 := (fmul_ok hd.fin a1 (mul2 _ (by obtain ⟨x, y⟩ := ab_iff.1 a3; exact ab_le (by grind) (by grind)))).2.near5.2
  have w1 := (fmul_ok hd.fin g1' (mul2 _ (by obtain ⟨x, y⟩ := ab_iff.1 g2'; exact ab_le (by grind) (by grind)))).2.near5.2
  have w3 := (fmul_ok hd.fin o1 (mul2 _ (by obtain ⟨x, y⟩ := ab_iff.1 o2; exact ab_le (by grind) (by grind)))).2.near5.2
  have w4 := (fmul_ok hd.fin b1 (mul2 _ (by obtain ⟨x, y⟩ := ab_iff.1 b3; exact ab_le (by grind) (by grind)))).2.near5.2
  have hVS : 0 ≤ V S ∧ V S ≤ s * (1001 / 1000) := by
    obtain ⟨x, y⟩ := ab_iff.1 hS
    exact ⟨by grind, by grind⟩
  have hmS : ab (V d * V S) ≤ ab (V d) * (s * (1001 / 1000)) := ab_mul_le Rat.le_refl (by rw [ab_of_nonneg hVS.1]; exact hVS.2)
  have hmS2 : ab (V d) * (s * (1001 / 1000)) ≤ 1 * (s * (1001 / 1000)) := Rat.mul_le_mul_of_nonneg_right hD (by grind)
  obtain ⟨_, rS⟩ := fmul_ok hd.fin s1 (big _ (by grind))
  have nS := rS.near5.2
  obtain ⟨ft, _, _⟩ := totR_fill base W (ffl lo + 2) (fop .mul d S) N
  have hval : totR (valL ([(base + clampN (ffl lo) W, fop .mul d A), (base + clampN (ffl lo + 1) W, fop .mul d CA)] ++ ffill base W (ffl lo + 2) (fop .mul d S) N ++ [(base + clampN (fce hi - 1) W, fop .mul d U2), (base + clampN (fce hi) W, fop .mul d M)])) =
      V (fop .mul d A) + V (fop .mul d CA) + V (fop .mul d S) * N + V (fop .mul d U2) + V (fop .mul d M) := by
    rw [valL_append, valL_append, totR_append, totR_append, ft]
    show V (fop .mul d A) + (V (fop .mul d CA) + 0) + V (fop .mul d S) * N + (V (fop .mul d U2) + (V (fop .mul d M) + 0)) = _
    grind
  rw [hval]
  have wN : ab (V (fop .mul d S) * N - V d * (V S * N)) ≤ ab (V d) * (2 * (1 / 16777216)) + 1 / 400000000000000000000000000 := by
    have e1 : V (fop .mul d S) * N - V d * (V S * N) = (V (fop .mul d S) - V d * V S) * N := by grind
    have m1 : ab ((V (fop .mul d S) - V d * V S) * N) ≤ (ab (V d * V S) * (1 / 16777216) + 1 / 1000000000000000000000000000000) * N := ab_mul_le nS (by rw [ab_of_nonneg hNn]; exact Rat.le_refl)
    have m2 : ab (V d * V S) * N ≤ ab (V d) * (s * (1001 / 1000)) * N := Rat.mul_le_mul_of_nonneg_right hmS hNn
    have e2 : ab (V d) * (s * (1001 / 1000)) * N = ab (V d) * sN * (1001 / 1000) := by rw [← hsN]; grind
    have m3 : ab (V d) * sN ≤ ab (V d) * 1 := Rat.mul_le_mul_of_nonneg_left (by grind) hD0
    have e3 : (ab (V d * V S) * (1 / 16777216) + 1 / 1000000000000000000000000000000) * N = ab (V d * V S) * N * (1 / 16777216) + N * (1 / 1000000000000000000000000000000) := by grind
    rw [e1]
    generalize ab ((V (fop .mul d S) - V d * V S) * N) = z1 at *
    generalize ab (V d * V S) * N = z2 at *
    generalize ab (V d) * sN = z3 at *
    grind
  have := tot_M (u := 1 / 16777216) (τ := 1 / 1000000000000000000000000000000) rfl rfl hD (A0 := A0) (AM := AM) (c0 := gs + s / 2) (sN := sN) (by grind) (by grind) (by grind) (by grind) t1 (by grind) hsN0 t2 (by grind) nN (by grind) r1 r2 r3 r4 w0 w1 wN w3 w4
  grind

theorem rowN_totS {W base x xn d lo : Nat} {B : Rat} (h : RowNear (frowN W base x xn d lo) W base (V d) (V x) (V xn) B) (hd : Bd d 0) (hq : F32 (fop .mul d (fop .sub (fop .mul 1056964608 (fop .add x xn)) (floatOfInt .f32 (ffl lo))))) :
    ab (totR (valL (frowN W base x xn d lo)) - V d) ≤ ab (V d) * (6 / 16777216) + 1 / 100000000000000000000000000 := by
  have hD : ab (V d) ≤ 1 := by have := hd.ab; rwa [p2_zero] at this
  have hD0 := ab_nonneg (V d)
  have habs := h.abs
  have e0 : valL (frowN W base x xn d lo) = [(base + clampN (ffl lo) W, V (fop .sub d (fop .mul d (fop .sub (fop .mul 1056964608 (fop .add x xn)) (floatOfInt .f32 (ffl lo)))))), (base + clampN (ffl lo + 1) W, V (fop .mul d (fop .sub (fop .mul 1056964608 (fop .add x xn)) (floatOfInt .f32 (ffl lo)))))] := rfl
  rw [e0] at habs ⊢
  generalize fop .mul d (fop .sub (fop .mul 1056964608 (fop .add x xn)) (floatOfInt .f32 (ffl lo))) = q at *
  simp only [totR]
  simp only [absR] at habs
  have hv0 := ab_nonneg (V (fop .sub d q))
  have hq0 := ab_nonneg (V q)
  have hdq : ab (V d - V q) ≤ ab (V d) * 3 + 1 / 100000000000000000000000000 := by
    have := ab_sub_le (V d) (V q)
    grind
  obtain ⟨_, r⟩ := fsub_ok hd.fin hq (big126G (by grind))
  have n := r.near5.2
  have e : V (fop .sub d q) + (V q + 0) - V d = V (fop .sub d q) - (V d - V q) := by grind
  rw [e]
  grind
theorem rowT_totAny {W base d lo hi : Nat} (hl : XsG lo) (hh : XsG hi) (hd : Bd d 0) (hlt : V lo < V hi) (hw : V lo < 0 ∧ 0 < V hi → p2 (-125) ≤ V hi - V lo) (hc : fce hi = ffl lo + 2) :
    ab (totR (valL (frowT W base d lo hi)) - V d) ≤ ab (V d) * (6 / 16777216) + 1 / 100000000000000000000000000 := by
  have hD0 := ab_nonneg (V d)
  by_cases h110 : p2 (-110) ≤ V hi - V lo
  · have := rowT_totS (W := W) (base := base) hl hh hd hlt h110 hc
    grind
  · obtain ⟨_, el, l1, l2⟩ := hl.fl
    obtain ⟨_, eh, k1, k2⟩ := hh.ce
    obtain ⟨fl1, fl2⟩ := floor_near (V lo)
    obtain ⟨ce1, ce2⟩ := ceil_near (V hi)
    rw [← el] at fl1 fl2
    rw [← eh] at ce1 ce2
    have hcr : (fce hi : Rat) = (ffl lo : Rat) + 2 := by rw [hc]; push_cast; rfl
    have h0 : ffl lo + 1 = 0 := by
      apply Classical.byContradiction
      intro hk
      have := gap_int hl.bd.fin (k := ffl lo + 1) hk (by push_cast; exact fl2)
      push_cast at this
      grind
    have h1 : (ffl lo : Rat) = -1 := by
      have : ffl lo = -1 := by omega
      rw [this]; push_cast; rfl
    rw [(rowT_tinyA hl hh hd (by grind) (by grind) (by grind) (hw ⟨by grind, by grind⟩) hc).2.2 W base]
    have e : V d - V d = 0 := by grind
    rw [e]
    have : ab (0 : Rat) = 0 := by decide +kernel
    rw [this]
    grind
/-- What a row adds in all. -/
theorem frow_totG {W base x xn d : Nat} {B : Rat} (hx : XsG x) (hn : XsG xn) (hd : Bd d 0) (hw : WideAt0 x xn) (hB0 : 120 ≤ B) (hB1 : B ≤ 1024) (hbx : ab (V x) ≤ B) (hbn : ab (V xn) ≤ B) :
    ab (totR (valL (frow W base x xn d)) - V d) ≤ ab (V d) * (6 / 16777216) + 1 / 100000000000000000000000000 := by
  have h110 := one_110
  unfold frow
  split
  · rename_i hc
    refine rowN_totS (rowN_nearG hx hn hd rfl hB0 hB1 hbx hbn hc) hd ?_
    have hl : XsG (flo x xn) := by rcases flo_fhi hx.bd.fin hn.bd.fin with ⟨e1, _, _⟩ | ⟨e1, _, _⟩ <;> rw [e1] <;> assumption
    have := (rowN_okG hx hn hl hd).2 W base (base + clampN (ffl (flo x xn) + 1) W, fop .mul d (fop .sub (fop .mul 1056964608 (fop .add x xn)) (floatOfInt .f32 (ffl (flo x xn))))) (by unfold frowN; simp)
    exact this
  · rename_i hc
    rcases flo_fhi hx.bd.fin hn.bd.fin with ⟨e1, e2, h⟩ | ⟨e1, e2, h⟩
    · rw [e1, e2] at hc ⊢
      obtain ⟨_, el, l1, l2⟩ := hx.fl
      obtain ⟨_, eh, h1, h2⟩ := hn.ce
      obtain ⟨fl1, fl2⟩ := floor_near (V x)
      obtain ⟨ce1, ce2⟩ := ceil_near (V xn)
      rw [← el] at fl1 fl2
      rw [← eh] at ce1 ce2
      have h3 := castLe (show ffl x + 2 ≤ fce xn by omega)
      push_cast at h3
      split
      · exact rowT_totAny hx hn hd (by grind) hw.1 (by omega)
      · have h4 := castLe (show ffl x + 3 ≤ fce xn by omega)
        push_cast at h4
        exact rowM_totS hx hn hd hB0 hB1 hbx hbn (by grind) (by grind) (by omega)
    · rw [e1, e2] at hc ⊢
      obtain ⟨_, el, l1, l2⟩ := hn.fl
      obtain ⟨_, eh, h1, h2⟩ := hx.ce
      obtain ⟨fl1, fl2⟩ := floor_near (V xn)
      obtain ⟨ce1, ce2⟩ := ceil_near (V x)
      rw [← el] at fl1 fl2
      rw [← eh] at ce1 ce2
      have h3 := castLe (show ffl xn + 2 ≤ fce x by omega)
      push_cast at h3
      split
      · exact rowT_totAny hn hx hd (by grind) hw.2 (by omega)
      · have h4 := castLe (show ffl xn + 3 ≤ fce x by omega)
        push_cast at h4
        exact rowM_totS hn hx hd hB0 hB1 hbn hbx (by grind) (by grind) (by omega)

theorem ceil_floor (a : Rat) : ceilR a ≤ a.floor + 1 := by
  obtain ⟨f1, f2⟩ := floor_near a
  obtain ⟨c1, c2⟩ := ceil_near a
  have h : ((ceilR a : Int) : Rat) < ((a.floor + 2 : Int) : Rat) := by push_cast; grind
  have := Rat.intCast_lt_intCast.1 h
  omega
/-- How many additions a row makes. -/
theorem frow_lenG {W base x xn d : Nat} (hx : XsG x) (hn : XsG xn) : ((frow W base x xn d).length : Int) ≤ 2 + (ceilR (V xn) - ceilR (V x)).natAbs := by
  have key : ∀ {lo hi : Nat}, XsG lo → XsG hi → (2 + (fce hi - ffl lo - 1) : Int) ≤ 2 + (ceilR (V hi) - ceilR (V lo)) := by
    intro lo hi h1 h2
    rw [h1.fl.2.1, h2.ce.2.1]
    have := ceil_floor (V lo)
    omega
  unfold frow
  split
  · unfold frowN
    simp only [List.length_cons, List.length_nil]
    omega
  · rename_i hc
    rcases flo_fhi hx.bd.fin hn.bd.fin with ⟨e1, e2, h⟩ | ⟨e1, e2, h⟩
    · rw [e1, e2] at hc ⊢
      have k := key hx hn
      split
      · unfold frowT
        simp only [List.length_cons, List.length_nil]
        omega
      · obtain ⟨_, _, fl⟩ := totR_fill base W (ffl x + 2) (fop .mul d (fop .quo 1065353216 (fop .sub xn x))) (fce xn - ffl x - 3).toNat
        unfold frowM
        simp only [List.length_append, List.length_cons, List.length_nil, fl]
        omega
    · rw [e1, e2] at hc ⊢
      have k := key hn hx
      split
      · unfold frowT
        simp only [List.length_cons, List.length_nil]
        omega
      · obtain ⟨_, _, fl⟩ := totR_fill base W (ffl xn + 2) (fop .mul d (fop .quo 1065353216 (fop .sub x xn))) (fce x - ffl xn - 3).toNat
        unfold frowM
        simp only [List.length_append, List.length_cons, List.length_nil, fl]
        omega
end Go.Proofs.Ytmgcbodlolnheaa

namespace Go.Proofs.Ytmgcbodlolnheaa
open Flt Go.RowKit
set_option linter.unusedVariables false

/-! ### rounding does not pass a float -/
theorem R32.geF {x : Rat} {r a : Nat} (h : R32 x r) (ha : F32 a) (hx : V a ≤ x) : V a ≤ V r := Rounds.dn h _ (val_rep ha) hx
theorem R32.leF {x : Rat} {r a : Nat} (h : R32 x r) (ha : F32 a) (hx : x ≤ V a) : V r ≤ V a := Rounds.up h _ (val_rep ha) hx
theorem cTinyC : 1 / 1000000000 * (999999997 / 1000000) ≤ V 897988541 := by
  obtain ⟨h1, h2⟩ := read_V (a := 897988541) (s := false) (m := 8796093) (e := -43) (by decide)
  rw [h2]
  have := p2_neg 43
  simp only [sgn]
  push_cast at this ⊢
  grind
/-- A line's span, from grids: such a line is drawn. -/
theorem GSpan.ofC {ax ay bx ey : Nat} (f1 : F32 ax) (f2 : F32 ay) (f3 : F32 bx) (f4 : F32 ey) (h1 : ab (V ax) ≤ 128) (h2 : ab (V bx) ≤ 128) (h3 : ab (V ay) ≤ 128) (h4 : ab (V ey) ≤ 128)
    (hlive : fle (fop .sub ey ay) 897988541 = false) (g1 : Grid (-93) (V ax)) (g2 : Grid (-93) (V bx)) : GSpan ax ay bx ey 129 := by
  obtain ⟨y1, y2⟩ := ab_iff.1 h3
  obtain ⟨y3, y4⟩ := ab_iff.1 h4
  obtain ⟨x1, x2⟩ := ab_iff.1 h1
  obtain ⟨x3, x4⟩ := ab_iff.1 h2
  obtain ⟨_, r1⟩ := fsub_ok f4 f2 (big126 (ab_le (by grind) (by grind)))
  obtain ⟨_, r2⟩ := fsub_ok f3 f1 (big126 (ab_le (by grind) (by grind)))
  have hgt : V 897988541 < V (fop .sub ey ay) := by
    have : ¬ (V (fop .sub ey ay) ≤ V 897988541) := fun hc => by
      rw [← fle_iff r1.fin cTiny.1] at hc
      rw [hc] at hlive
      exact absurd hlive (by decide)
    grind
  have hc := cTinyC
  have n1 := r1.nearG.2
  obtain ⟨d1, d2⟩ := ab_iff.1 n1
  have hpos : 0 ≤ V ey - V ay := by
    rcases Rat.le_total (a := 0) (b := V ey - V ay) with c | c
    · exact c
    · have := r1.nonpos c
      grind
  rw [ab_of_nonneg hpos] at d1 d2
  have hgap : 1 / 1000001 ≤ V ey - V ay := by grind
  have p256 : p2 8 = 256 := by have : p2 ((8 : Nat) : Int) = ((2 ^ 8 : Nat) : Rat) := p2_nat 8
                               simpa using this
  have hD2 : V (fop .sub ey ay) ≤ p2 8 := by
    have := r1.leInt (n := 256) (by push_cast; grind) (by decide) (by decide)
    rw [p256]
    exact this
  have hgr : Grid (-93) (V (fop .sub bx ax)) := (g2.sub g1).round r2 (by decide)
  refine ⟨f1, f2, f3, f4, by grind, by grind, by grind, by grind, hgap, hlive, g1.up (by decide), ?_⟩
  have hX2 : ab (V (fop .sub bx ax)) ≤ 1000 := by
    have := r2.near5.1
    have := ab_sub_le (V bx) (V ax)
    grind
  obtain ⟨_, r3⟩ := fquo_ok r2.fin r1.fin (by grind) (by
    rw [ab_of_nonneg (x := V (fop .sub ey ay)) (by grind)]
    have h4 : (1000000000000000000000000000000 : Rat) ≤ p2 125 := big125 Rat.le_refl
    have m1 := Rat.mul_le_mul_of_nonneg_right h4 (show 0 ≤ V (fop .sub ey ay) by grind)
    grind)
  have hD0 : 0 < V (fop .sub ey ay) := by grind
  have pw : p2 (-93) = p2 (-101) * p2 8 := by rw [← p2_add]; rfl
  have pp := p2_pos (-101)
  rcases Rat.le_total (a := V (fop .sub bx ax)) (b := 0) with hs | hs
  · rcases lt_or_eq hs with hlt | heq
    · right
      have hge : p2 (-93) ≤ -V (fop .sub bx ax) := by
        refine Grid.pos ?_ (by grind)
        obtain ⟨k, hk⟩ := hgr
        exact ⟨-k, by rw [hk]; push_cast; grind⟩
      have hq : V (fop .sub bx ax) / V (fop .sub ey ay) ≤ ((-1 : Int) : Rat) * p2 (-101) := by
        refine Rat.le_of_mul_le_mul_right (c := V (fop .sub ey ay)) ?_ hD0
        rw [Rat.div_mul_cancel (by grind)]
        have m := Rat.mul_le_mul_of_nonneg_left hD2 (Rat.le_of_lt pp)
        push_cast
        grind
      have := r3.le (n := -1) hq (by decide) (by decide) (by decide)
      push_cast at this
      rw [ab_of_nonpos (by grind)]
      grind
    · left
      have hq : V (fop .sub bx ax) / V (fop .sub ey ay) = 0 := by rw [heq, Rat.div_def]; grind
      rw [hq] at r3
      exact r3.eq (n := 0) (q := 0) (by rw [p2_zero, cast_zero]; grind) (by decide) (by decide) (by decide)
  · rcases lt_or_eq hs with hlt | heq
    · right
      have hge : p2 (-93) ≤ V (fop .sub bx ax) := hgr.pos hlt
      have hq : ((1 : Int) : Rat) * p2 (-101) ≤ V (fop .sub bx ax) / V (fop .sub ey ay) := by
        refine Rat.le_of_mul_le_mul_right (c := V (fop .sub ey ay)) ?_ hD0
        rw [Rat.div_mul_cancel (by grind)]
        have m := Rat.mul_le_mul_of_nonneg_left hD2 (Rat.le_of_lt pp)
        push_cast
        grind
      have := r3.ge (n := 1) hq (by decide) (by decide) (by decide)
      push_cast at this
      rw [ab_of_nonneg (by grind)]
      grind
    · left
      have hq : V (fop .sub bx ax) / V (fop .sub ey ay) = 0 := by rw [← heq, Rat.div_def]; grind
      rw [hq] at r3
      exact r3.eq (n := 0) (q := 0) (by rw [p2_zero, cast_zero]; grind) (by decide) (by decide) (by decide)

/-! ### where the line is, by half units -/
section
variable {ax ay bx ey : Nat} {B : Rat} (h : GSpan ax ay bx ey B) (hB0 : 120 ≤ B) (hB1 : B ≤ 1024)
include h hB0 hB1
/-- A step: what is added to x. -/
theorem OnG.part {n : Nat} {y : Int} {x dir : Nat} (ho : OnG ax ay bx ey B n y x) (h1 : (V ay).floor ≤ y) (h2 : y < ceilR (V ey)) (hn : n + 1 ≤ 2000) :
    ∃ p : Rat, R32 (V x + p) ((lnG dir ax ay bx ey).nx y x) ∧ ab (p - slG ax ay bx ey * (pr y (V ey) - pr y (V ay))) ≤ ab (slG ax ay bx ey) * (pr y (V ey) - pr y (V ay)) * (6 / 16777216) + 1 / 1000000000000000000000000000 ∧
      (0 ≤ V (slW ax ay bx ey) → 0 ≤ p) ∧ (V (slW ax ay bx ey) ≤ 0 → p ≤ 0) := by
  obtain ⟨sl1, _, hlt⟩ := h.rows hB1
  obtain ⟨g1, g2, g3, g4, g5, g6⟩ := hg_row hlt h1 h2
  obtain ⟨q1, r1⟩ := h.dyR dir hB1 h1 h2
  obtain ⟨_, _, _, fS, _, s1, s2⟩ := h.slope_ok hB1
  have hbo := ho.bd h hB0 hB1 (by omega)
  have hdir : (lnG dir ax ay bx ey).nx y x = fop .add x (fop .mul ((lnG dir ax ay bx ey).dy y) (slW ax ay bx ey)) := rfl
  rw [hdir]
  generalize (lnG dir ax ay bx ey).dy y = dy at *
  obtain ⟨k, hk⟩ : ∃ k, k = pr y (V ey) - pr y (V ay) := ⟨_, rfl⟩
  rw [← hk] at g3 g4 r1 ⊢
  obtain ⟨x3, x4⟩ := h.exact_bd hB1 (t := k) g3 (by grind)
  have nD := r1.nearG.2
  rw [ab_of_nonneg g3] at nD
  have hdy0 := r1.nonneg g3
  have hSb : ab (V (slW ax ay bx ey)) ≤ 3000000000 := by
    have k1 := ab_add_le (V (slW ax ay bx ey) - slG ax ay bx ey) (slG ax ay bx ey)
    have e1 : V (slW ax ay bx ey) - slG ax ay bx ey + slG ax ay bx ey = V (slW ax ay bx ey) := by grind
    rw [e1] at k1
    grind
  have hdyb : ab (V dy) ≤ 2 := by
    obtain ⟨c1, c2⟩ := ab_iff.1 nD
    rw [ab_of_nonneg hdy0]
    grind
  obtain ⟨q2, r2⟩ := fmul_ok r1.fin fS (big126 (by
    have : ab (V dy * V (slW ax ay bx ey)) ≤ 2 * 3000000000 := ab_mul_le hdyb hSb
    grind))
  have nP := r2.nearG.2
  have hpr := prod_ratG rfl g3 g4 s2 s1 nD nP
  have hPb : ab (V (fop .mul dy (slW ax ay bx ey))) ≤ 3 * B := by
    have k1 := ab_add_le (V (fop .mul dy (slW ax ay bx ey)) - slG ax ay bx ey * k) (slG ax ay bx ey * k)
    have e1 : V (fop .mul dy (slW ax ay bx ey)) - slG ax ay bx ey * k + slG ax ay bx ey * k = V (fop .mul dy (slW ax ay bx ey)) := by grind
    rw [e1, ab_mul (slG ax ay bx ey) k, ab_of_nonneg g3] at k1
    grind
  obtain ⟨q3, r3⟩ := fadd_ok ho.xs.bd.fin r2.fin (big126 (by
    have := ab_add_le (V x) (V (fop .mul dy (slW ax ay bx ey)))
    grind))
  refine ⟨_, r3, by grind, fun c => r2.nonneg (Rat.mul_nonneg hdy0 c), fun c => r2.nonpos ?_⟩
  have := Rat.mul_nonneg hdy0 (show 0 ≤ -V (slW ax ay bx ey) by grind)
  grind
end
/-- A half unit below 128, and a little. -/
def kC : Rat := 64 / 16777216 + 1 / 100000000000000000000
theorem p2_7 : p2 7 = 128 := by have : p2 ((7 : Nat) : Int) = ((2 ^ 7 : Nat) : Rat) := p2_nat 7
                                simpa using this
theorem p2_m18 : p2 (7 - 25) = 64 / 16777216 := by
  have := p2_neg 18
  rw [show (7 - 25 : Int) = -((18 : Nat) : Int) by decide]
  push_cast at this ⊢
  grind
/-- Where the line is behind n rows, by half units. -/
structure OnC (ax ay bx ey n : Nat) (y : Int) (x : Nat) : Prop where
  on : OnG ax ay bx ey 129 n y x
  lim : (0 ≤ V (slW ax ay bx ey) → -128 ≤ V x) ∧ (V (slW ax ay bx ey) ≤ 0 → V x ≤ 128)
  near : ab (V x - (V ax + slG ax ay bx ey * (hg (V ay) (V ey) y - V ay))) ≤ ab (slG ax ay bx ey) * (hg (V ay) (V ey) y - V ay) * (6 / 16777216) + n * kC ∨
    (0 ≤ V (slW ax ay bx ey) ∧ 128 ≤ V x) ∨ (V (slW ax ay bx ey) ≤ 0 ∧ V x ≤ -128)
theorem side_up {x e st w nk c : Rat} (h : st ≤ w) (he : e ≤ c) (hx : ab (x - e) ≤ st * (6 / 16777216) + nk) : x ≤ c + (w * (6 / 16777216) + nk) := by
  obtain ⟨a, b⟩ := ab_iff.1 hx
  grind
theorem side_dn {x e st w nk c : Rat} (h : st ≤ w) (he : c ≤ e) (hx : ab (x - e) ≤ st * (6 / 16777216) + nk) : c - (w * (6 / 16777216) + nk) ≤ x := by
  obtain ⟨a, b⟩ := ab_iff.1 hx
  grind
theorem side_far1 {x e st w nB c : Rat} (h : st ≤ w) (hw : w ≤ 256) (hn : nB ≤ 1) (he : e ≤ c) (hc : c ≤ 100) (hx : ab (x - e) ≤ st * (6 / 16777216) + nB) : ¬ 128 ≤ x := by
  obtain ⟨a, b⟩ := ab_iff.1 hx
  grind
theorem side_far2 {x e st w nB c : Rat} (h : st ≤ w) (hw : w ≤ 256) (hn : nB ≤ 1) (he : c ≤ e) (hc : -100 ≤ c) (hx : ab (x - e) ≤ st * (6 / 16777216) + nB) : ¬ x ≤ -128 := by
  obtain ⟨a, b⟩ := ab_iff.1 hx
  grind
theorem side_low {x w nk c : Rat} (hw : 0 ≤ w) (hk : 0 ≤ nk) (hc : -100 ≤ c) (hx : x ≤ -128) : x ≤ c + (w * (6 / 16777216) + nk) := by grind
theorem side_high {x w nk c : Rat} (hw : 0 ≤ w) (hk : 0 ≤ nk) (hc : c ≤ 100) (hx : 128 ≤ x) : c - (w * (6 / 16777216) + nk) ≤ x := by grind
section
variable {ax ay bx ey : Nat} (h : GSpan ax ay bx ey 129)
include h
theorem OnC.start : OnC ax ay bx ey 0 (V ay).floor ax := by
  have hs := OnG.start h (by decide)
  obtain ⟨x1, x2⟩ := ab_iff.1 h.hax
  refine ⟨hs, ⟨fun _ => by grind, fun _ => by grind⟩, .inl ?_⟩
  have := hs.near
  push_cast at this ⊢
  grind
theorem OnC.next {n : Nat} {y : Int} {x dir : Nat} (ho : OnC ax ay bx ey n y x) (h1 : (V ay).floor ≤ y) (h2 : y < ceilR (V ey)) (hn : n + 1 ≤ 2000) :
    OnC ax ay bx ey (n + 1) (y + 1) ((lnG dir ax ay bx ey).nx y x) ∧ (0 ≤ V (slW ax ay bx ey) → V x ≤ V ((lnG dir ax ay bx ey).nx y x)) ∧ (V (slW ax ay bx ey) ≤ 0 → V ((lnG dir ax ay bx ey).nx y x) ≤ V x) := by
  obtain ⟨_, hon, _⟩ := ho.on.next h (by decide) (by decide) (dir := dir) h1 h2 hn
  obtain ⟨p, r, e1, e2, e3⟩ := ho.on.part h (by decide) (by decide) (dir := dir) h1 h2 hn
  obtain ⟨_, _, hlt⟩ := h.rows (by decide)
  obtain ⟨g1, g2, g3, g4, g5, g6⟩ := hg_row hlt h1 h2
  generalize (lnG dir ax ay bx ey).nx y x = xn at *
  have fx := ho.on.xs.bd.fin
  have up : 0 ≤ V (slW ax ay bx ey) → V x ≤ V xn := fun c => r.geF fx (by have := e2 c; grind)
  have dn : V (slW ax ay bx ey) ≤ 0 → V xn ≤ V x := fun c => r.leF fx (by have := e3 c; grind)
  refine ⟨⟨hon, ⟨fun c => ?_, fun c => ?_⟩, ?_⟩, up, dn⟩
  · have := up c; have := ho.lim.1 c; grind
  · have := dn c; have := ho.lim.2 c; grind
  · rcases ho.near with hA | ⟨hb1, hb2⟩ | ⟨hc1, hc2⟩
    · have hq : ∀ c : Rat, c ≤ V x + p → -c ≤ -(V x + p) → True := fun _ _ _ => trivial
      by_cases c1 : V x + p ≤ 128
      · by_cases c2 : -128 ≤ V x + p
        · left
          have hh := r.half (e := 7) (by rw [p2_7]; exact ab_le c1 (by grind)) (by decide) (by decide)
          rw [p2_m18] at hh
          have hstep : hg (V ay) (V ey) (y + 1) = hg (V ay) (V ey) y + (pr y (V ey) - pr y (V ay)) := by rw [g1, g2]; grind
          rw [hstep]
          generalize pr y (V ey) - pr y (V ay) = k at *
          have k1 := ab_add_le (V xn - (V x + p)) ((V x - (V ax + slG ax ay bx ey * (hg (V ay) (V ey) y - V ay))) + (p - slG ax ay bx ey * k))
          have k2 := ab_add_le (V x - (V ax + slG ax ay bx ey * (hg (V ay) (V ey) y - V ay))) (p - slG ax ay bx ey * k)
          have e : V xn - (V ax + slG ax ay bx ey * (hg (V ay) (V ey) y + k - V ay)) = (V xn - (V x + p)) + ((V x - (V ax + slG ax ay bx ey * (hg (V ay) (V ey) y - V ay))) + (p - slG ax ay bx ey * k)) := by grind
          have e4 : ab (slG ax ay bx ey) * (hg (V ay) (V ey) y + k - V ay) = ab (slG ax ay bx ey) * (hg (V ay) (V ey) y - V ay) + ab (slG ax ay bx ey) * k := by grind
          rw [e, e4]
          unfold kC at *
          push_cast
          grind
        · rcases Rat.le_total (a := 0) (b := V (slW ax ay bx ey)) with d | d
          · have := ho.lim.1 d; have := e2 d; grind
          · refine .inr (.inr ⟨d, ?_⟩)
            have := r.leInt (n := -128) (by push_cast; grind) (by decide) (by decide)
            push_cast at this
            exact this
      · rcases Rat.le_total (a := 0) (b := V (slW ax ay bx ey)) with d | d
        · refine .inr (.inl ⟨d, ?_⟩)
          have := r.geInt (n := 128) (by push_cast; grind) (by decide) (by decide)
          push_cast at this
          exact this
        · have := ho.lim.2 d; have := e3 d; grind
    · exact .inr (.inl ⟨hb1, by have := up hb1; grind⟩)
    · exact .inr (.inr ⟨hc1, by have := dn hc1; grind⟩)
/-- A line stays on a side of what its ends are on, but for so much. -/
theorem OnC.side {n : Nat} {y : Int} {x : Nat} (ho : OnC ax ay bx ey n y x) (hn : n ≤ 2000) {c : Rat} (c0 : -100 ≤ c) (c1 : c ≤ 100) :
    (V ax ≤ c → V bx ≤ c → V x ≤ c + (ab (V bx - V ax) * (6 / 16777216) + n * kC)) ∧ (c ≤ V ax → c ≤ V bx → c - (ab (V bx - V ax) * (6 / 16777216) + n * kC) ≤ V x) := by
  obtain ⟨sl1, sl2, hlt⟩ := h.rows (by decide)
  obtain ⟨u1, u2⟩ := hg_bd (Rat.le_of_lt hlt) y
  have hn' : (n : Rat) ≤ 2000 := by exact_mod_cast hn
  have hn0 : (0 : Rat) ≤ n := by exact_mod_cast Nat.zero_le n
  have hk : (0 : Rat) ≤ kC := by decide +kernel
  have hnk := Rat.mul_nonneg hn0 hk
  have hs0 := ab_nonneg (slG ax ay bx ey)
  have habs : ab (slG ax ay bx ey) * (V ey - V ay) = ab (V bx - V ax) := by rw [← sl1, ab_mul, ab_of_nonneg (x := V ey - V ay) (by grind)]
  have m1 := Rat.mul_le_mul_of_nonneg_left (show hg (V ay) (V ey) y - V ay ≤ V ey - V ay by grind) hs0
  rw [habs] at m1
  have w0 := ab_nonneg (V bx - V ax)
  have hB : (n : Rat) * (129 / 16777216) ≤ 1 := by grind
  obtain ⟨o1, o2⟩ := ab_iff.1 ho.on.near
  have hw2 : ab (V bx - V ax) ≤ 256 := by grind
  -- the exact place
  have ex : ∀ d : Rat, (V ax ≤ d → V bx ≤ d → V ax + slG ax ay bx ey * (hg (V ay) (V ey) y - V ay) ≤ d) ∧ (d ≤ V ax → d ≤ V bx → d ≤ V ax + slG ax ay bx ey * (hg (V ay) (V ey) y - V ay)) := by
    intro d
    generalize slG ax ay bx ey = S at *
    rcases Rat.le_total (a := 0) (b := S) with hS | hS
    · have c1 := Rat.mul_nonneg hS (show 0 ≤ hg (V ay) (V ey) y - V ay by grind)
      have c2 := Rat.mul_le_mul_of_nonneg_left (show hg (V ay) (V ey) y - V ay ≤ V ey - V ay by grind) hS
      exact ⟨fun a b => by grind, fun a b => by grind⟩
    · have c1 := Rat.mul_nonneg (a := -S) (by grind) (show 0 ≤ hg (V ay) (V ey) y - V ay by grind)
      have c2 := Rat.mul_le_mul_of_nonneg_left (c := -S) (show hg (V ay) (V ey) y - V ay ≤ V ey - V ay by grind) (by grind)
      exact ⟨fun a b => by grind, fun a b => by grind⟩
  refine ⟨fun a b => ?_, fun a b => ?_⟩
  · have e := (ex c).1 a b
    rcases ho.near with hA | ⟨hb1, hb2⟩ | ⟨hc1, hc2⟩
    · exact side_up m1 e hA
    · exact absurd hb2 (side_far1 m1 hw2 hB e c1 ho.on.near)
    · exact side_low w0 hnk c0 hc2
  · have e := (ex c).2 a b
    rcases ho.near with hA | ⟨hb1, hb2⟩ | ⟨hc1, hc2⟩
    · exact side_dn m1 e hA
    · exact side_high w0 hnk c1 hb2
    · exact absurd hc2 (side_far2 m1 hw2 hB e c0 ho.on.near)
end
end Go.Proofs.Ytmgcbodlolnheaa

namespace Go.Proofs.Ytmgcbodlolnheaa
open Flt Go.RowKit
set_option linter.unusedVariables false

def errC (Y : Nat) (k : Rat) (r : Int) : Rat := if r < 0 then 0 else if r < Y then k * (8 / 16777216) else if r = Y then k * (139 / 16777216) else 0
theorem tot_ratC {A D k σ : Rat} (hk0 : 0 ≤ k) (hD : ab (D - σ * k) ≤ k * (1 / 16777216) + 1 / 100000000000000000000000000000000000000000000) (hb : ab D ≤ k * (1000001 / 1000000) + 1 / 100000000000000000000000000000000000000000000)
    (h : ab (A - D) ≤ ab D * (6 / 16777216) + 1 / 100000000000000000000000000) : ab (A - σ * k) ≤ k * (8 / 16777216) + 1 / 10000000000000000000000000 := by
  have e : A - σ * k = (A - D) + (D - σ * k) := by grind
  rw [e]
  have := ab_add_le (A - D) (D - σ * k)
  grind
theorem neg_ratC {A T D k σ : Rat} (hσ : σ = 1 ∨ σ = -1) (hk0 : 0 ≤ k) (hb : ab D ≤ k * (1000001 / 1000000) + 1 / 100000000000000000000000000000000000000000000) (hA : A ≤ ab D * (5001 / 5000) + 1 / 100000000000000000000000000)
    (h : ab (T - σ * k) ≤ k * (8 / 16777216) + 1 / 10000000000000000000000000) : A - σ * T ≤ k * (3 / 10000) + 1 / 1000000000000000000000000 := by
  obtain ⟨a1, a2⟩ := ab_iff.1 h
  rcases hσ with e | e <;> subst e <;> grind
section
variable {ax ay bx ey dir : Nat} {σ : Rat} (h : GSpan ax ay bx ey 129) (hd : DirW dir σ)
include h hd
theorem OnC.tot {n : Nat} {y : Int} {x : Nat} (ho : OnC ax ay bx ey n y x) (h1 : (V ay).floor ≤ y) (h2 : y < ceilR (V ey)) (hn : n + 1 ≤ 2000) (W base : Nat) :
    ab (totR (valL (frow W base x ((lnG dir ax ay bx ey).nx y x) (fop .mul ((lnG dir ax ay bx ey).dy y) dir))) - σ * (pr y (V ey) - pr y (V ay))) ≤ (pr y (V ey) - pr y (V ay)) * (8 / 16777216) + 1 / 10000000000000000000000000 ∧
    absR (valL (frow W base x ((lnG dir ax ay bx ey).nx y x) (fop .mul ((lnG dir ax ay bx ey).dy y) dir))) - σ * totR (valL (frow W base x ((lnG dir ax ay bx ey).nx y x) (fop .mul ((lnG dir ax ay bx ey).dy y) dir))) ≤ (pr y (V ey) - pr y (V ay)) * (3 / 10000) + 1 / 1000000000000000000000000 ∧
    (((frow W base x ((lnG dir ax ay bx ey).nx y x) (fop .mul ((lnG dir ax ay bx ey).dy y) dir)).length : Nat) : Int) ≤ 2 + (ceilR (V ((lnG dir ax ay bx ey).nx y x)) - ceilR (V x)).natAbs := by
  obtain ⟨_, _, hlt⟩ := h.rows (by decide)
  obtain ⟨_, _, g3, g4, _, _⟩ := hg_row hlt h1 h2
  obtain ⟨⟨_, _, _, r⟩, hn', hw, _⟩ := ho.on.next h (by decide) (by decide) (dir := dir) h1 h2 hn
  obtain ⟨d1, d2, d3, d4⟩ := hd.mul g3 g4 r
  have b1 := ho.on.bd h (by decide) (by decide) (by omega)
  have b2 := hn'.bd h (by decide) (by decide) (by omega)
  have T := tot_ratC g3 d3 d4 (frow_totG (W := W) (base := base) (B := 129) ho.on.xs hn'.xs d2 hw (by decide) (by decide) (by grind) (by grind))
  have RN := (ho.on.row h (by decide) (by decide) hd h1 h2 hn W base).2.2.1
  exact ⟨T, neg_ratC hd.one g3 d4 RN.abs T, frow_lenG ho.on.xs hn'.xs⟩
theorem adds_cumC {W Y : Nat} : ∀ (k n : Nat) (y : Int) (x : Nat), OnC ax ay bx ey n y x → (V ay).floor ≤ y → y + k ≤ ceilR (V ey) → n + k ≤ 2000 →
    ∃ p q : Rat, (y ≤ Y → (Y : Int) < y + k → ∃ n' xa xb : Nat, (n' : Int) = n + (Y - y) ∧ OnC ax ay bx ey n' Y xa ∧ OnC ax ay bx ey (n' + 1) (Y + 1) xb ∧ p = V xa ∧ q = V xb) ∧
      ∀ X, X < W → ab (sumR (valL ((lnG dir ax ay bx ey).adds W k y x)) (Y * W + X) - σ * rowsR (fun r => rowG Y (mean ((X : Rat) + 1 - p) ((X : Rat) + 1 - q)) (pr r (V ey) - pr r (V ay)) r) y k) ≤
        rowsR (fun r => errC Y (pr r (V ey) - pr r (V ay)) r) y k + k * (1 / 10000000000000000000000000)
  | 0, n, y, x, ho, h1, h2, h3 => by
    refine ⟨0, 0, fun a b => by omega, fun X hX => ?_⟩
    simp only [GL.adds, valL, List.map_nil, sumR, rowsR]
    have : ab ((0 : Rat) - σ * 0) = 0 := by rw [show (0 : Rat) - σ * 0 = 0 by grind]; decide +kernel
    rw [this]
    push_cast
    grind
  | k + 1, n, y, x, ho, h1, h2, h3 => by
    have hn := (ho.next h (dir := dir) h1 (by omega) (by omega)).1
    obtain ⟨p, q, e3, e4⟩ := adds_cumC (Y := Y) k (n + 1) (y + 1) _ hn (by omega) (by omega) (by omega)
    have hk : ((k + 1 : Nat) : Rat) * (1 / 10000000000000000000000000) = (k : Rat) * (1 / 10000000000000000000000000) + 1 / 10000000000000000000000000 := by push_cast; grind
    have other : ∀ (X : Nat) m', (Y : Int) < y + 1 → rowsR (fun r => rowG Y m' (pr r (V ey) - pr r (V ay)) r) (y + 1) k = rowsR (fun r => rowG Y (mean ((X : Rat) + 1 - p) ((X : Rat) + 1 - q)) (pr r (V ey) - pr r (V ay)) r) (y + 1) k := by
      intro X m' hy
      refine rowsR_congr fun r r1 r2 => ?_
      unfold rowG
      split
      · rfl
      · rw [if_neg (by omega), if_neg (by omega), if_neg (by omega), if_neg (by omega)]
    by_cases hy : y < 0
    · refine ⟨p, q, fun a b => ?_, fun X hX => ?_⟩
      · obtain ⟨n', xa, xb, q1, q2⟩ := e3 (by omega) (by omega)
        exact ⟨n', xa, xb, by omega, q2⟩
      · have e4 := e4 X hX
        rw [GL.adds]
        simp only [rowsR]
        rw [hk, valL_append, sumR_append, if_pos hy]
        have z1 : ∀ m d, rowG Y m d y = 0 := fun m d => by unfold rowG; rw [if_pos hy]
        have z2 : ∀ d, errC Y d y = 0 := fun d => by unfold errC; rw [if_pos hy]
        rw [z1, z2]
        have z3 : sumR (valL []) (Y * W + X) = 0 := rfl
        rw [z3]
        have e : ∀ a b : Rat, 0 + a - σ * (0 + b) = a - σ * b := fun a b => by grind
        rw [e]
        grind
    · obtain ⟨yn, rfl⟩ : ∃ yn : Nat, y = yn := ⟨y.toNat, by omega⟩
      have ey' : ((yn : Int)).toNat = yn := by omega
      obtain ⟨_, _, RN, dn, db, hk0⟩ := ho.on.row h (by decide) (by decide) hd h1 (by omega) (by omega) W (yn * W)
      have RT := (ho.tot h hd h1 (by omega) (by omega) W (yn * W)).1
      have hpl : ∀ q ∈ valL (frow W (yn * W) x ((lnG dir ax ay bx ey).nx yn x) (fop .mul ((lnG dir ax ay bx ey).dy yn) dir)), yn * W ≤ q.1 ∧ q.1 ≤ yn * W + W := by
        intro q hq
        obtain ⟨p, hp, rfl⟩ := List.mem_map.1 hq
        exact RN.place p hp
      rcases Nat.lt_trichotomy yn Y with hlt | heq | hgt
      · refine ⟨p, q, fun a b => ?_, fun X hX => ?_⟩
        · obtain ⟨n', xa, xb, q1, q2⟩ := e3 (by omega) (by omega)
          exact ⟨n', xa, xb, by omega, q2⟩
        · have e4 := e4 X hX
          rw [GL.adds]
          simp only [rowsR]
          rw [hk, valL_append, sumR_append, if_neg hy, ey']
          have z1 : ∀ m d, rowG Y m d yn = d := fun m d => by unfold rowG; rw [if_neg (by omega), if_pos (by omega)]
          have z2 : ∀ d, errC Y d yn = d * (8 / 16777216) := fun d => by unfold errC; rw [if_neg (by omega), if_pos (by omega)]
          have hle : yn * W + W ≤ Y * W + X := by
            have := Nat.mul_le_mul_right W (show yn + 1 ≤ Y by omega)
            rw [Nat.add_mul, Nat.one_mul] at this
            omega
          rw [z1, z2, sumR_all (fun q hq => by have := (hpl q hq).2; omega)]
          exact join_ratG RT e4
      · subst heq
        refine ⟨V x, V ((lnG dir ax ay bx ey).nx yn x), fun a b => ⟨n, x, _, by omega, ho, hn, rfl, rfl⟩, fun X hX => ?_⟩
        have e4 := e4 X hX
        rw [GL.adds]
        simp only [rowsR]
        rw [hk, valL_append, sumR_append, if_neg hy, ey', other X _ (by omega)]
        have z1 : ∀ m d, rowG yn m d yn = d * m := fun m d => by unfold rowG; rw [if_neg (by omega), if_neg (by omega), if_pos rfl]
        have z2 : ∀ d, errC yn d yn = d * (139 / 16777216) := fun d => by unfold errC; rw [if_neg (by omega), if_neg (by omega), if_pos rfl]
        rw [z1, z2]
        have mb := mean_bd ((X : Rat) + 1 - V x) ((X : Rat) + 1 - V ((lnG dir ax ay bx ey).nx yn x))
        have := cum_ratG (B := 129) hk0 mb.1 mb.2 (by decide) (by decide) dn db (RN.cum X hX)
        rw [show ((129 : Rat) + 10) / 16777216 = 139 / 16777216 by decide +kernel] at this
        exact join_ratG this e4
      · refine ⟨p, q, fun a b => by omega, fun X hX => ?_⟩
        have e4 := e4 X hX
        rw [GL.adds]
        simp only [rowsR]
        rw [hk, valL_append, sumR_append, if_neg hy, ey']
        have z1 : ∀ m d, rowG Y m d yn = 0 := fun m d => by unfold rowG; rw [if_neg (by omega), if_neg (by omega), if_neg (by omega)]
        have z2 : ∀ d, errC Y d yn = 0 := fun d => by unfold errC; rw [if_neg (by omega), if_neg (by omega), if_neg (by omega)]
        have hle : Y * W + X < yn * W := by
          have := Nat.mul_le_mul_right W (show Y + 1 ≤ yn by omega)
          rw [Nat.add_mul, Nat.one_mul] at this
          omega
        rw [z1, z2, sumR_none (fun q hq => by have := (hpl q hq).1; omega)]
        have e : ∀ a b : Rat, 0 + a - σ * (0 + b) = a - σ * b := fun a b => by grind
        rw [e]
        grind
/-- How many additions, and that they are of one sign but for a little. -/
theorem adds_lenC {W : Nat} : ∀ (k n : Nat) (y : Int) (x : Nat), OnC ax ay bx ey n y x → (V ay).floor ≤ y → y + k ≤ ceilR (V ey) → n + k ≤ 2000 →
    ∃ xe : Nat, OnC ax ay bx ey (n + k) (y + k) xe ∧ (0 ≤ V (slW ax ay bx ey) → V x ≤ V xe ∧ (((lnG dir ax ay bx ey).adds W k y x).length : Int) ≤ 2 * ((y + k).toNat - y.toNat : Nat) + (ceilR (V xe) - ceilR (V x))) ∧
      (V (slW ax ay bx ey) ≤ 0 → V xe ≤ V x ∧ (((lnG dir ax ay bx ey).adds W k y x).length : Int) ≤ 2 * ((y + k).toNat - y.toNat : Nat) + (ceilR (V x) - ceilR (V xe))) ∧
      absR (valL ((lnG dir ax ay bx ey).adds W k y x)) - σ * totR (valL ((lnG dir ax ay bx ey).adds W k y x)) ≤ ((y + k).toNat - y.toNat : Nat) * (31 / 100000)
  | 0, n, y, x, ho, h1, h2, h3 => by
    refine ⟨x, by simpa using ho, fun _ => ⟨Rat.le_refl, ?_⟩, fun _ => ⟨Rat.le_refl, ?_⟩, ?_⟩
    · simp only [GL.adds, List.length_nil]; omega
    · simp only [GL.adds, List.length_nil]; omega
    · simp only [GL.adds, valL, List.map_nil, absR, totR]
      have e : y + ((0 : Nat) : Int) = y := by omega
      rw [e, Nat.sub_self]
      grind
  | k + 1, n, y, x, ho, h1, h2, h3 => by
    obtain ⟨hn, up, dn⟩ := ho.next h (dir := dir) h1 (by omega) (by omega)
    obtain ⟨T, N, Ln⟩ := ho.tot h hd h1 (by omega) (by omega) W (y.toNat * W)
    obtain ⟨xe, e1, e2, e3, e4⟩ := adds_lenC (W := W) k (n + 1) (y + 1) _ hn (by omega) (by omega) (by omega)
    obtain ⟨_, _, hlt⟩ := h.rows (by decide)
    obtain ⟨_, _, g3, g4, _, _⟩ := hg_row hlt h1 (show y < ceilR (V ey) by omega)
    have en : n + (k + 1) = n + 1 + k := by omega
    have ey' : y + ((k + 1 : Nat) : Int) = y + 1 + k := by omega
    rw [en, ey', GL.adds, show (lnG dir ax ay bx ey).dir = dir from rfl]
    generalize (lnG dir ax ay bx ey).nx y x = xn at *
    have cm : ∀ {a b : Rat}, a ≤ b → ceilR a ≤ ceilR b := by
      intro a b hab
      have c1 := (ceil_near a).2
      have c2 := (ceil_near b).1
      have : ((ceilR a : Int) : Rat) < ((ceilR b + 1 : Int) : Rat) := by push_cast; grind
      have := Rat.intCast_lt_intCast.1 this
      omega
    refine ⟨xe, e1, fun s => ?_, fun s => ?_, ?_⟩
    · obtain ⟨m1, m2⟩ := e2 s
      have u := up s
      have c := cm u
      refine ⟨by grind, ?_⟩
      rw [List.length_append]
      push_cast
      by_cases hy : y < 0
      · rw [if_pos hy, List.length_nil]
        omega
      · rw [if_neg hy]
        omega
    · obtain ⟨m1, m2⟩ := e3 s
      have u := dn s
      have c := cm u
      refine ⟨by grind, ?_⟩
      rw [List.length_append]
      push_cast
      by_cases hy : y < 0
      · rw [if_pos hy, List.length_nil]
        omega
      · rw [if_neg hy]
        omega
    · rw [valL_append, absR_append, totR_append]
      by_cases hy : y < 0
      · rw [if_pos hy]
        have z1 : absR (valL []) = 0 := rfl
        have z2 : totR (valL []) = 0 := rfl
        rw [z1, z2]
        have e : (y + 1 + (k : Int)).toNat - y.toNat = (y + 1 + (k : Int)).toNat - (y + 1).toNat := by omega
        rw [e]
        grind
      · rw [if_neg hy]
        have e : (y + 1 + (k : Int)).toNat - y.toNat = ((y + 1 + (k : Int)).toNat - (y + 1).toNat) + 1 := by omega
        rw [e]
        push_cast
        grind
end
theorem err_uptoC {A E : Rat} {H : Int} {Y : Nat} (hAE : A < E) (hY : (Y : Int) < H) :
    rowsR (fun r => errC Y (pr r E - pr r A) r) A.floor ((if H < ceilR E then H else ceilR E) - A.floor).toNat = (GY Y E - GY Y A) * (8 / 16777216) + (pr Y E - pr Y A) * (139 / 16777216) := by
  rw [rowsR_same (b := 0) (j := Y + 1), rowsR_last]
  · unfold GY
    rw [← rowsR_sub, ← rowsR_scale]
    congr 1
    · refine rowsR_congr fun r h1 h2 => ?_
      unfold errC
      rw [if_neg (by omega), if_pos (by omega)]
    · unfold errC
      rw [if_neg (by omega), if_neg (by omega), if_pos rfl]
  · intro r hr
    unfold errC
    by_cases hin : r < A.floor ∨ ceilR E ≤ r
    · rw [pr_zero_out hAE hin]
      split
      · rfl
      · split
        · grind
        · split
          · grind
          · rfl
    · have hH : H ≤ r := by split at hr <;> omega
      split
      · rfl
      · rw [if_neg (by omega), if_neg (by omega)]
  · intro r hr
    unfold errC
    split
    · rfl
    · rw [if_neg (by omega), if_neg (by omega)]
end Go.Proofs.Ytmgcbodlolnheaa

namespace Go.Proofs.Ytmgcbodlolnheaa
open Flt Go.RowKit
set_option linter.unusedVariables false

/-- A place of the line from p to q in row Y: on a side of what its ends are on, but for so much. -/
def SideC (Y px py qx qy : Nat) (p : Rat) : Prop :=
  ∃ n : Nat, n ≤ Y + 129 ∧ (n : Rat) ≤ ab (V qy - V py) + 2 ∧ ∀ c : Rat, -100 ≤ c → c ≤ 100 →
    (V px ≤ c → V qx ≤ c → p ≤ c + (ab (V qx - V px) * (6 / 16777216) + n * kC)) ∧ (c ≤ V px → c ≤ V qx → c - (ab (V qx - V px) * (6 / 16777216) + n * kC) ≤ p)
theorem SideC.own (Y px py qx qy : Nat) : SideC Y px py qx qy (V px) := by
  have := ab_nonneg (V qy - V py)
  have := ab_nonneg (V qx - V px)
  refine ⟨0, by omega, by push_cast; grind, fun c _ _ => ⟨fun _ _ => ?_, fun _ _ => ?_⟩⟩ <;> push_cast <;> grind
theorem SideC.turn {Y px py qx qy : Nat} {p : Rat} (h : SideC Y qx qy px py p) : SideC Y px py qx qy p := by
  obtain ⟨n, h1, h2, h3⟩ := h
  have e1 : ab (V py - V qy) = ab (V qy - V py) := by rw [show V py - V qy = -(V qy - V py) by grind, ab_neg]
  have e2 : ab (V px - V qx) = ab (V qx - V px) := by rw [show V px - V qx = -(V qx - V px) by grind, ab_neg]
  rw [e1] at h2
  rw [e2] at h3
  exact ⟨n, h1, h2, fun c c0 c1 => ⟨fun a b => (h3 c c0 c1).1 b a, fun a b => (h3 c c0 c1).2 b a⟩⟩
/-- What a line adds: κ is what it does not say else. -/
structure LnC (W H px py qx qy : Nat) (κ : Rat) (L : List (Nat × Nat)) : Prop where
  bd : ∀ p ∈ L, Bd p.2 1
  κ0 : 0 ≤ κ ∧ κ ≤ 1 / 900000
  len : (L.length : Rat) + κ * 4194304 ≤ 2 * ab (GY H (V qy) - GY H (V py)) + ab (V qx - V px) + (5 + 1 / 100)
  neg : ∃ σ : Rat, (σ = 1 ∨ σ = -1) ∧ absR (valL L) - σ * totR (valL L) ≤ 1 / 50
  cum : ∀ Y, Y < H → ∃ p q : Rat, SideC Y px py qx qy p ∧ SideC Y px py qx qy q ∧ ∀ X, X < W →
    ab (sumR (valL L) (Y * W + X) - ((GY Y (V qy) - GY Y (V py)) + (pr Y (V qy) - pr Y (V py)) * mean ((X : Rat) + 1 - p) ((X : Rat) + 1 - q))) ≤
      ab (GY Y (V qy) - GY Y (V py)) * (8 / 16777216) + ab (pr Y (V qy) - pr Y (V py)) * (139 / 16777216) + κ
/-- The rows of a mask that a line is in. -/
theorem rows_in {A E : Rat} (hAE : A < E) (H : Nat) {y1 : Int} (h1 : y1 ≤ H) (h2 : y1 ≤ ceilR E) (h3 : A.floor ≤ y1) : ((y1.toNat - A.floor.toNat : Nat) : Rat) ≤ GY H E - GY H A + 2 ∧ y1.toNat - A.floor.toNat ≤ H := by
  have hH0 : (0 : Rat) ≤ H := by exact_mod_cast Nat.zero_le H
  obtain ⟨f1, f2⟩ := floor_near A
  obtain ⟨c1, c2⟩ := ceil_near E
  have k1 := castLe h1
  have k2 := castLe h2
  push_cast at k1
  refine ⟨?_, by omega⟩
  have hc : ((y1.toNat - A.floor.toNat : Nat) : Rat) = (y1.toNat : Rat) - (A.floor.toNat : Rat) := by
    have : y1.toNat = (y1.toNat - A.floor.toNat) + A.floor.toNat := by omega
    have e : (y1.toNat : Rat) = ((y1.toNat - A.floor.toNat : Nat) : Rat) + (A.floor.toNat : Rat) := by
      have e2 : ((y1.toNat : Nat) : Rat) = (((y1.toNat - A.floor.toNat) + A.floor.toNat : Nat) : Rat) := by rw [← this]
      rw [e2]
      push_cast
      rfl
    grind
  rw [hc]
  have a : (y1.toNat : Rat) ≤ GY H E + 1 := by
    rw [GY_val]
    rcases Int.le_total y1 0 with c | c
    · have : y1.toNat = 0 := by omega
      rw [this]
      push_cast
      split <;> (try split) <;> grind
    · have e : (y1.toNat : Rat) = (y1 : Rat) := by
        have : ((y1.toNat : Int) : Rat) = (y1 : Rat) := by rw [Int.toNat_of_nonneg c]
        rw [← this]; push_cast; rfl
      rw [e]
      split
      · grind
      · split <;> grind
  have b : GY H A - 1 ≤ (A.floor.toNat : Rat) := by
    rw [GY_val]
    have e : (A.floor : Rat) ≤ (A.floor.toNat : Rat) := by
      have := castLe (Int.self_le_toNat A.floor)
      push_cast at this
      exact this
    have e0 : (0 : Rat) ≤ (A.floor.toNat : Rat) := by exact_mod_cast Nat.zero_le _
    split
    · grind
    · split <;> grind
  grind
section
variable {W H ax ay bx ey dir : Nat} {σ : Rat} (h : GSpan ax ay bx ey 129) (hd : DirW dir σ) (hH : H ≤ 64) (hy : ab (V ay) ≤ 128) (hy2 : ab (V ey) ≤ 128)
include h hd hH hy hy2
theorem line_C : ((((lnG dir ax ay bx ey).adds W (flEnd ey H - ffl ay).toNat (ffl ay) ax).length : Nat) : Rat) ≤ 2 * (GY H (V ey) - GY H (V ay)) + ab (V bx - V ax) + (5 + 1 / 200) ∧
    absR (valL ((lnG dir ax ay bx ey).adds W (flEnd ey H - ffl ay).toNat (ffl ay) ax)) - σ * totR (valL ((lnG dir ax ay bx ey).adds W (flEnd ey H - ffl ay).toNat (ffl ay) ax)) ≤ 1 / 50 ∧
    ∀ Y, Y < H → ∃ p q : Rat, SideC Y ax ay bx ey p ∧ SideC Y ax ay bx ey q ∧ ∀ X, X < W →
      ab (sumR (valL ((lnG dir ax ay bx ey).adds W (flEnd ey H - ffl ay).toNat (ffl ay) ax)) (Y * W + X) - σ * ((GY Y (V ey) - GY Y (V ay)) + (pr Y (V ey) - pr Y (V ay)) * mean ((X : Rat) + 1 - p) ((X : Rat) + 1 - q))) ≤
        (GY Y (V ey) - GY Y (V ay)) * (8 / 16777216) + (pr Y (V ey) - pr Y (V ay)) * (139 / 16777216) + 1 / 1000000000000000000000 := by
  obtain ⟨sl1, sl2, hlt⟩ := h.rows (by decide)
  obtain ⟨y1, y2⟩ := ab_iff.1 hy
  obtain ⟨y3, y4⟩ := ab_iff.1 hy2
  have xa : XsG ay := ⟨Bd.of h.fay (by rw [p2_15]; exact ab_le (by grind) (by grind))⟩
  have xe : XsG ey := ⟨Bd.of h.fey (by rw [p2_15]; exact ab_le (by grind) (by grind))⟩
  obtain ⟨f1, f2, f3, f4⟩ := xa.fl
  obtain ⟨c1, c2, c3, c4⟩ := xe.ce
  have hend : flEnd ey H = if (H : Int) < ceilR (V ey) then (H : Int) else ceilR (V ey) := by unfold flEnd; rw [c2]
  obtain ⟨K, hK⟩ : ∃ K, K = ((if (H : Int) < ceilR (V ey) then (H : Int) else ceilR (V ey)) - (V ay).floor).toNat := ⟨_, rfl⟩
  have hfl := floor_near (V ay)
  have hce := ceil_near (V ey)
  have hfc : (V ay).floor < ceilR (V ey) := by
    have e1 : (((V ay).floor : Int) : Rat) < ((ceilR (V ey) : Int) : Rat) := by grind
    exact Rat.intCast_lt_intCast.1 e1
  have hKend : (V ay).floor + (K : Int) ≤ ceilR (V ey) := by rw [hK]; split <;> omega
  have hKR : (K : Rat) ≤ V ey - V ay + 2 := by
    have := castLe hKend
    push_cast at this
    grind
  have hK2 : K ≤ 258 := by
    have e1 : ((K : Int) : Rat) ≤ ((258 : Int) : Rat) := by push_cast; grind
    have := Rat.intCast_le_intCast.1 e1
    omega
  have hKr : (K : Rat) ≤ 258 := by exact_mod_cast hK2
  have hst := OnC.start h
  have habs : ab (slG ax ay bx ey) * (V ey - V ay) = ab (V bx - V ax) := by rw [← sl1, ab_mul, ab_of_nonneg (x := V ey - V ay) (by grind)]
  have hs0 := ab_nonneg (slG ax ay bx ey)
  have hfloor : -128 ≤ (V ay).floor := by
    have e1 : ((-129 : Int) : Rat) < (((V ay).floor : Int) : Rat) := by push_cast; grind
    have := Rat.intCast_lt_intCast.1 e1
    omega
  rw [hend, f2, ← hK]
  obtain ⟨xl, e1, e2, e3, e4⟩ := adds_lenC h hd (W := W) K 0 _ _ hst (Int.le_refl _) hKend (by omega)
  have key : ((((V ay).floor + (K : Int)).toNat - ((V ay).floor).toNat : Nat) : Rat) ≤ GY H (V ey) - GY H (V ay) + 2 ∧ ((V ay).floor + (K : Int)).toNat - ((V ay).floor).toNat ≤ H := by
    rcases Nat.eq_zero_or_pos K with hz | hp
    · rw [hz]
      have := (GY_lip H (Rat.le_of_lt hlt)).1
      have e : ((V ay).floor + ((0 : Nat) : Int)).toNat - ((V ay).floor).toNat = 0 := by simp
      rw [e]
      exact ⟨by push_cast; grind, by omega⟩
    · exact rows_in hlt H (by rw [hK] at hp ⊢; split at hp <;> split <;> omega) hKend (by omega)
  obtain ⟨key1, key2⟩ := key
  refine ⟨?_, ?_, fun Y hY => ?_⟩
  · -- how many
    have en := e1.on.near
    have hn0 : (0 : Rat) ≤ K := by exact_mod_cast Nat.zero_le K
    obtain ⟨u1, u2⟩ := hg_bd (Rat.le_of_lt hlt) ((V ay).floor + (K : Int))
    have m1 := Rat.mul_le_mul_of_nonneg_left (show hg (V ay) (V ey) ((V ay).floor + (K : Int)) - V ay ≤ V ey - V ay by grind) hs0
    rw [habs] at m1
    have m2 := Rat.mul_nonneg hs0 (show 0 ≤ hg (V ay) (V ey) ((V ay).floor + (K : Int)) - V ay by grind)
    have hdx : ab (V xl - V ax) ≤ ab (V bx - V ax) + 1 / 300 := by
      have k := ab_add_le (V xl - (V ax + slG ax ay bx ey * (hg (V ay) (V ey) ((V ay).floor + (K : Int)) - V ay))) (slG ax ay bx ey * (hg (V ay) (V ey) ((V ay).floor + (K : Int)) - V ay))
      have e : V xl - (V ax + slG ax ay bx ey * (hg (V ay) (V ey) ((V ay).floor + (K : Int)) - V ay)) + slG ax ay bx ey * (hg (V ay) (V ey) ((V ay).floor + (K : Int)) - V ay) = V xl - V ax := by grind
      rw [e, ab_mul, ab_of_nonneg (x := hg (V ay) (V ey) ((V ay).floor + (K : Int)) - V ay) (by grind)] at k
      have hw2 : ab (V bx - V ax) ≤ 256 := by grind
      rw [Nat.zero_add] at en
      grind
    obtain ⟨d1, d2⟩ := ab_iff.1 hdx
    generalize hm : ((V ay).floor + (K : Int)).toNat - ((V ay).floor).toNat = m at *
    have goal : ∀ (a b : Rat) (l : Nat), b - a ≤ ab (V bx - V ax) + 1 / 300 → (l : Int) ≤ 2 * (m : Nat) + (ceilR b - ceilR a) → (l : Rat) ≤ 2 * (GY H (V ey) - GY H (V ay)) + ab (V bx - V ax) + (5 + 1 / 200) := by
      intro a b l hab hl
      have := castLe hl
      push_cast at this
      have := (ceil_near b).2
      have := (ceil_near a).1
      grind
    rcases Rat.le_total (a := 0) (b := V (slW ax ay bx ey)) with s | s
    · exact goal _ _ _ (by grind) (e2 s).2
    · exact goal _ _ _ (by grind) (e3 s).2
  · refine Rat.le_trans e4 ?_
    have : ((((V ay).floor + (K : Int)).toNat - ((V ay).floor).toNat : Nat) : Rat) ≤ 64 := by exact_mod_cast (show ((V ay).floor + (K : Int)).toNat - ((V ay).floor).toNat ≤ 64 by omega)
    grind
  · obtain ⟨p, q, e5, e6⟩ := adds_cumC h hd (W := W) (Y := Y) K 0 _ _ hst (Int.le_refl _) hKend (by omega)
    have r2 := err_uptoC (H := (H : Int)) (Y := Y) hlt (by omega)
    rw [← hK] at r2
    have fin : ∀ X, X < W → ab (sumR (valL ((lnG dir ax ay bx ey).adds W K (V ay).floor ax)) (Y * W + X) - σ * ((GY Y (V ey) - GY Y (V ay)) + (pr Y (V ey) - pr Y (V ay)) * mean ((X : Rat) + 1 - p) ((X : Rat) + 1 - q))) ≤
        (GY Y (V ey) - GY Y (V ay)) * (8 / 16777216) + (pr Y (V ey) - pr Y (V ay)) * (139 / 16777216) + 1 / 1000000000000000000000 := by
      intro X hX
      have e7 := e6 X hX
      have r1 := rows_uptoG (H := (H : Int)) (Y := Y) hlt (by omega) (mean ((X : Rat) + 1 - p) ((X : Rat) + 1 - q))
      rw [← hK] at r1
      rw [r1, r2] at e7
      exact k_small (by grind) e7
    by_cases hin : (V ay).floor ≤ (Y : Int) ∧ (Y : Int) < (V ay).floor + K
    · obtain ⟨n', xa', xb', w1, w2, w3, w4, w5⟩ := e5 hin.1 hin.2
      have hn1 : n' + 1 ≤ Y + 129 := by omega
      have hn2 : n' + 1 ≤ K := by omega
      have hn2r : ((n' + 1 : Nat) : Rat) ≤ K := by exact_mod_cast hn2
      have hab : ab (V ey - V ay) = V ey - V ay := ab_of_nonneg (by grind)
      refine ⟨p, q, ⟨n', by omega, by rw [hab]; push_cast at hn2r; grind, fun c c0 c1 => ?_⟩, ⟨n' + 1, hn1, by rw [hab]; grind, fun c c0 c1 => ?_⟩, fin⟩
      · rw [w4]; exact w2.side h (by omega) c0 c1
      · rw [w5]; exact w3.side h (by omega) c0 c1
    · -- the line is not in the row
      refine ⟨V ax, V ax, SideC.own _ _ _ _ _, SideC.own _ _ _ _ _, fun X hX => ?_⟩
      have hz : pr Y (V ey) - pr Y (V ay) = 0 := by
        refine pr_zero_out hlt ?_
        rw [hK] at hin
        split at hin <;> omega
      have := fin X hX
      rw [hz] at this ⊢
      have e : ∀ m : Rat, 0 * m = 0 := fun m => by grind
      rw [e] at this ⊢
      exact this
end
theorem ab_flip (a b : Rat) : ab (a - b) = ab (b - a) := by rw [show a - b = -(b - a) by grind, ab_neg]
section
variable {W H : Nat} (hW : 0 < W) (hH : H ≤ 64)
include hW hH
theorem LnC.down {ax ay bx ey : Nat} (h : GSpan ax ay bx ey 129) (hy : ab (V ay) ≤ 128) (hy2 : ab (V ey) ≤ 128) :
    FloOk H ax ay bx ey ∧ LnC W H ax ay bx ey (1 / 1000000000000000000000) (floLine W H ax ay bx ey) := by
  obtain ⟨_, _, hlt⟩ := h.rows (by decide)
  obtain ⟨k1, k2, k3, k4, L⟩ := line_facts (H := H) h hW (by decide) (by decide) DirW.down
  obtain ⟨l1, l2, l3⟩ := line_C (W := W) h DirW.down hH hy hy2
  refine ⟨floOk_down h (by decide) k1 k2 k3 k4, ?_⟩
  rw [floLine_down h (by decide)]
  refine ⟨L.bd, by constructor <;> decide +kernel, ?_, ⟨1, .inl rfl, l2⟩, fun Y hY => ?_⟩
  · rw [ab_of_nonneg (GY_lip H (Rat.le_of_lt hlt)).1]
    grind
  · obtain ⟨p, q, s1, s2, s3⟩ := l3 Y hY
    refine ⟨p, q, s1, s2, fun X hX => ?_⟩
    have := s3 X hX
    rw [Rat.one_mul] at this
    rw [ab_of_nonneg (x := GY Y (V ey) - GY Y (V ay)) (GY_lip Y (Rat.le_of_lt hlt)).1, ab_of_nonneg (x := pr Y (V ey) - pr Y (V ay)) (by have := pr_mono Y (Rat.le_of_lt hlt); grind)]
    exact this
theorem LnC.up {ax ay bx ey : Nat} (h : GSpan ax ay bx ey 129) (hy : ab (V ay) ≤ 128) (hy2 : ab (V ey) ≤ 128) :
    FloOk H bx ey ax ay ∧ LnC W H bx ey ax ay (1 / 1000000000000000000000) (floLine W H bx ey ax ay) := by
  obtain ⟨_, _, hlt⟩ := h.rows (by decide)
  obtain ⟨k1, k2, k3, k4, L⟩ := line_facts (H := H) h hW (by decide) (by decide) DirW.up
  obtain ⟨l1, l2, l3⟩ := line_C (W := W) h DirW.up hH hy hy2
  refine ⟨floOk_up h (by decide) k1 k2 k3 k4, ?_⟩
  rw [floLine_up h (by decide)]
  refine ⟨L.bd, by constructor <;> decide +kernel, ?_, ⟨-1, .inr rfl, l2⟩, fun Y hY => ?_⟩
  · rw [ab_flip (GY H (V ay)), ab_of_nonneg (GY_lip H (Rat.le_of_lt hlt)).1, ab_flip (V ax)]
    grind
  · obtain ⟨p, q, s1, s2, s3⟩ := l3 Y hY
    refine ⟨p, q, s1.turn, s2.turn, fun X hX => ?_⟩
    have := s3 X hX
    rw [ab_flip (GY Y (V ay)), ab_flip (pr Y (V ay)), ab_of_nonneg (x := GY Y (V ey) - GY Y (V ay)) (GY_lip Y (Rat.le_of_lt hlt)).1, ab_of_nonneg (x := pr Y (V ey) - pr Y (V ay)) (by have := pr_mono Y (Rat.le_of_lt hlt); grind)]
    have e : ∀ g k m : Rat, -1 * (g + k * m) = (-g) + (-k) * m := fun g k m => by grind
    rw [e] at this
    rw [show GY Y (V ay) - GY Y (V ey) = -(GY Y (V ey) - GY Y (V ay)) by grind, show pr Y (V ay) - pr Y (V ey) = -(pr Y (V ey) - pr Y (V ay)) by grind]
    exact this
omit hW hH in
/-- A line that is too low to be drawn. -/
theorem LnC.flat {px py qx qy : Nat} (f1 : F32 py) (f2 : F32 qy) (hy : ab (V qy - V py) ≤ 1 / 999990) (hl : floLine W H px py qx qy = []) : LnC W H px py qx qy (1 / 999990) (floLine W H px py qx qy) := by
  rw [hl]
  have hz : ∀ a b : Nat, True := fun _ _ => trivial
  have w0 := ab_nonneg (V qx - V px)
  have h0 := ab_nonneg (GY H (V qy) - GY H (V py))
  refine ⟨fun p hp => by simp at hp, by constructor <;> decide +kernel, ?_, ⟨1, .inl rfl, by simp only [valL, List.map_nil, absR, totR]; decide +kernel⟩, fun Y hY => ⟨V px, V px, SideC.own _ _ _ _ _, SideC.own _ _ _ _ _, fun X hX => ?_⟩⟩
  · rw [List.length_nil]
    push_cast
    grind
  · have z : sumR (valL []) (Y * W + X) = 0 := rfl
    rw [z]
    have mb := mean_bd ((X : Rat) + 1 - V px) ((X : Rat) + 1 - V px)
    generalize mean ((X : Rat) + 1 - V px) ((X : Rat) + 1 - V px) = m at *
    have a0 := ab_nonneg (GY Y (V qy) - GY Y (V py))
    have a1 := ab_nonneg (pr Y (V qy) - pr Y (V py))
    have main : ∀ s t : Rat, s ≤ t → 0 ≤ (GY Y t - GY Y s) + (pr Y t - pr Y s) * m ∧ (GY Y t - GY Y s) + (pr Y t - pr Y s) * m ≤ t - s := by
      intro s t hst
      have g1 := GY_lip (Y + 1) hst
      have e : ∀ t, GY (Y + 1) t = GY Y t + pr Y t := fun t => by unfold GY; rw [rowsR_last]
      rw [e, e] at g1
      have g2 := (GY_lip Y hst).1
      have g3 := pr_mono Y hst
      have m1 := Rat.mul_nonneg (show 0 ≤ pr Y t - pr Y s by grind) mb.1
      have m2 := Rat.mul_le_mul_of_nonneg_left mb.2 (show 0 ≤ pr Y t - pr Y s by grind)
      constructor <;> grind
    have hb : ab (0 - ((GY Y (V qy) - GY Y (V py)) + (pr Y (V qy) - pr Y (V py)) * m)) ≤ 1 / 999990 := by
      obtain ⟨b1, b2⟩ := ab_iff.1 hy
      rcases Rat.le_total (a := V py) (b := V qy) with c | c
      · have := main _ _ c
        exact ab_le (by grind) (by grind)
      · have := main _ _ c
        exact ab_le (by grind) (by grind)
    grind
/-- Any line. -/
theorem LnC.any {px py qx qy : Nat} (f1 : F32 px) (f2 : F32 py) (f3 : F32 qx) (f4 : F32 qy) (h1 : ab (V px) ≤ 128) (h2 : ab (V py) ≤ 128) (h3 : ab (V qx) ≤ 128) (h4 : ab (V qy) ≤ 128) (g1 : Grid (-93) (V px)) (g2 : Grid (-93) (V qx)) :
    FloOk H px py qx qy ∧ ∃ κ, LnC W H px py qx qy κ (floLine W H px py qx qy) := by
  have small : ∀ {a e : Nat}, F32 a → F32 e → ab (V a) ≤ 128 → ab (V e) ≤ 128 → V a ≤ V e → fle (fop .sub e a) 897988541 = true → Fok .sub e a ∧ V e - V a ≤ 1 / 999990 := by
    intro a e fa fe ha he hae hc
    obtain ⟨x1, x2⟩ := ab_iff.1 ha
    obtain ⟨x3, x4⟩ := ab_iff.1 he
    obtain ⟨q, r⟩ := fsub_ok fe fa (big126 (ab_le (by grind) (by grind)))
    rw [fle_iff r.fin cTiny.1] at hc
    have := cTiny.2.2
    have n := r.nearG.2
    rw [ab_of_nonneg (x := V e - V a) (by grind)] at n
    obtain ⟨n1, n2⟩ := ab_iff.1 n
    exact ⟨q, by grind⟩
  by_cases hg : fgt py qy = true
  · have hlt : V qy < V py := (fgt_iff f2 f4).1 hg
    by_cases hle : fle (fop .sub py qy) 897988541 = true
    · obtain ⟨s1, s2⟩ := small f4 f2 h4 h2 (Rat.le_of_lt hlt) hle
      have hl : floLine W H px py qx qy = [] := by unfold floLine; rw [if_pos hg]; unfold floUp; rw [if_pos hle]
      refine ⟨?_, _, LnC.flat f2 f4 (by rw [ab_flip, ab_of_nonneg (by grind)]; exact s2) hl⟩
      unfold FloOk
      rw [if_pos hg]
      exact ⟨s1, fun hc => by rw [hle] at hc; cases hc⟩
    · have hG := GSpan.ofC f3 f4 f1 f2 h3 h1 h4 h2 (Bool.eq_false_iff.2 hle) g2 g1
      obtain ⟨k1, k2⟩ := LnC.up (W := W) hW hH hG h4 h2
      exact ⟨k1, _, k2⟩
  · have hge : V py ≤ V qy := by
      have : ¬ V qy < V py := fun hc => hg ((fgt_iff f2 f4).2 hc)
      grind
    by_cases hle : fle (fop .sub qy py) 897988541 = true
    · obtain ⟨s1, s2⟩ := small f2 f4 h2 h4 hge hle
      have hl : floLine W H px py qx qy = [] := by unfold floLine; rw [if_neg hg]; unfold floUp; rw [if_pos hle]
      refine ⟨?_, _, LnC.flat f2 f4 (by rw [ab_of_nonneg (by grind)]; exact s2) hl⟩
      unfold FloOk
      rw [if_neg hg]
      exact ⟨s1, fun hc => by rw [hle] at hc; cases hc⟩
    · have hG := GSpan.ofC f1 f2 f3 f4 h1 h3 h2 h4 (Bool.eq_false_iff.2 hle) g1 g2
      obtain ⟨k1, k2⟩ := LnC.down (W := W) hW hH hG h2 h4
      exact ⟨k1, _, k2⟩
end
end Go.Proofs.Ytmgcbodlolnheaa

namespace Go.Proofs.Ytmgcbodlolnheaa
open Flt Go.RowKit
set_option linter.unusedVariables false

/-- Whether something is added into a cell. -/
def tch (s : List (Nat × Rat)) (k : Nat) : Bool := s.any fun p => p.1 == k
theorem tch_snoc (s : List (Nat × Rat)) (k i : Nat) (v : Rat) : tch (s ++ [(k, v)]) i = (tch s i || k == i) := by simp [tch]
theorem tch_cell : ∀ {s : List (Nat × Rat)} {k : Nat}, tch s k = false → cellR s k = 0
  | [], _, _ => rfl
  | (i, v) :: s, k, h => by
    have h1 : (i == k) = false ∧ tch s k = false := by simpa [tch] using h
    rw [cellR, if_neg (by simpa using h1.1), tch_cell h1.2]
    grind
/-- How far the cells are off, and what the running sum may lose at those that are not empty. -/
def phiL (h : Rat) (l : List Nat) (s : List (Nat × Rat)) (n : Nat) : Rat := sumN (fun k => ab (V (fAt l k) - cellR s k) + if tch s k = true then h else 0) n
theorem off_phi {h : Rat} (h0 : 0 ≤ h) (l : List Nat) (s : List (Nat × Rat)) {n k : Nat} (hk : k < n) : ab (V (fAt l k) - cellR s k) ≤ phiL h l s n := by
  have := sumN_mem (f := fun k => ab (V (fAt l k) - cellR s k) + if tch s k = true then h else 0) (fun i => by
    have := ab_nonneg (V (fAt l i) - cellR s i)
    split <;> grind) hk
  unfold phiL
  split at this <;> grind
theorem phi_step {l : List Nat} {s : List (Nat × Rat)} {k v n : Nat} {C E : Rat} {e : Int} (hl : CellsBd l) (hv : Bd v 68) (hn : n ≤ l.length) (hz : ∀ i, i < n → tch s i = false → V (fAt l i) = 0)
    (hC : k < n → ab (cellR s k + V v) ≤ C) (hE : phiL (p2 (e - 25)) l s n ≤ E) (hlev : C + E ≤ p2 e) (he : -120 ≤ e) (he2 : e ≤ 100) :
    phiL (p2 (e - 25)) (fbump l k v) (s ++ [(k, V v)]) n ≤ phiL (p2 (e - 25)) l s n + p2 (e - 25) ∧ ∀ i, i < n → tch (s ++ [(k, V v)]) i = false → V (fAt (fbump l k v) i) = 0 := by
  have hp := p2_pos (e - 25)
  constructor
  · refine Rat.le_trans ?_ (sumN_one (k := k) (Rat.le_of_lt hp))
    unfold phiL
    refine sumN_le fun i hi => ?_
    have hoff := off_phi (Rat.le_of_lt hp) l s hi
    rw [fAt_bump, cellR_append, tch_snoc]
    simp only [cellR]
    by_cases hk : i = k
    · subst hk
      have hC := hC hi
      rw [if_pos ⟨rfl, by omega⟩, if_pos rfl, if_pos rfl, if_pos (by simp)]
      have hb := (hl.at i).ab
      have hb2 := hv.ab
      have hsz : ab (V (fAt l i) + V v) ≤ p2 126 := by
        have k := ab_add_le (V (fAt l i)) (V v)
        have m1 := p2_mono (a := 68) (b := 100) (by decide)
        have m2 := p2_mono (a := 101) (b := 126) (by decide)
        have m3 : p2 101 = 2 * p2 100 := by rw [← p2_succ]; rfl
        grind
      obtain ⟨_, r⟩ := fadd_ok (hl.at i).fin hv.fin hsz
      by_cases ht : tch s i = true
      · rw [if_pos ht]
        have e1 : V (fAt l i) + V v = (V (fAt l i) - cellR s i) + (cellR s i + V v) := by grind
        have k1 := ab_add_le (V (fAt l i) - cellR s i) (cellR s i + V v)
        rw [← e1] at k1
        have nr := r.half (e := e) (by grind) he he2
        have e2 : V (fop .add (fAt l i) v) - (cellR s i + (V v + 0)) = (V (fop .add (fAt l i) v) - (V (fAt l i) + V v)) + (V (fAt l i) - cellR s i) := by grind
        rw [e2]
        have k2 := ab_add_le (V (fop .add (fAt l i) v) - (V (fAt l i) + V v)) (V (fAt l i) - cellR s i)
        grind
      · have ht' : tch s i = false := by simpa using ht
        rw [if_neg ht]
        have z1 := hz i hi ht'
        have z2 := tch_cell ht'
        have z3 := eq_self32 (x := V (fAt l i) + V v) hv.fin (by rw [z1]; grind) r
        rw [z3, z2]
        have e3 : V v - (0 + (V v + 0)) = 0 := by grind
        rw [e3]
        have a0 : ab (0 : Rat) = 0 := by decide +kernel
        have := ab_nonneg (V (fAt l i) - 0)
        grind
    · have hk' : (k == i) = false := by simpa using fun h => hk h.symm
      rw [if_neg (fun h => hk h.1), if_neg (fun h => hk h.symm), if_neg hk, hk']
      have e : cellR s i + (0 + 0) = cellR s i := by grind
      rw [e, Bool.or_false]
      grind
  · intro i hi ht
    rw [tch_snoc, Bool.or_eq_false_iff] at ht
    rw [fAt_bump, if_neg (fun h => by rw [h.1] at ht; simp at ht)]
    exact hz i hi ht.1
theorem phi_list {n : Nat} {C κ : Rat} {e : Int} (he : -120 ≤ e) (he2 : e ≤ 100) (hlev : C + κ ≤ p2 e) : ∀ (t : List (Nat × Nat)) (l : List Nat) (s : List (Nat × Rat)) (E : Rat), CellsBd l → (∀ p ∈ t, Bd p.2 68) → n ≤ l.length →
    (∀ i, i < n → tch s i = false → V (fAt l i) = 0) → (∀ u v, u ++ v = t → ∀ k, k < n → ab (cellR (s ++ valL u) k) ≤ C) → phiL (p2 (e - 25)) l s n ≤ E → E + t.length * p2 (e - 25) ≤ κ →
    phiL (p2 (e - 25)) (fadds t l) (s ++ valL t) n ≤ E + t.length * p2 (e - 25) ∧ ∀ i, i < n → tch (s ++ valL t) i = false → V (fAt (fadds t l) i) = 0
  | [], l, s, E, hl, hv, hn, hz, hC, hE, hb => by
    simp only [fadds, valL, List.map_nil, List.append_nil, List.length_nil]
    push_cast
    exact ⟨by grind, hz⟩
  | (k, v) :: t, l, s, E, hl, hv, hn, hz, hC, hE, hb => by
    have hv0 := hv (k, v) (by simp)
    simp only at hv0
    have hval : valL ((k, v) :: t) = (k, V v) :: valL t := rfl
    rw [List.length_cons] at hb
    have hlen : (0 : Rat) ≤ (t.length : Rat) := by exact_mod_cast Nat.zero_le _
    have hp := p2_pos (e - 25)
    have hmul := Rat.mul_nonneg hlen (Rat.le_of_lt hp)
    push_cast at hb
    obtain ⟨st, hz'⟩ := phi_step (k := k) (v := v) hl hv0 hn hz (fun hk => by
      have := hC [(k, v)] t rfl k hk
      have e1 : cellR (s ++ valL [(k, v)]) k = cellR s k + V v := by
        rw [cellR_append]
        show cellR s k + ((if k = k then V v else 0) + 0) = _
        rw [if_pos rfl, Rat.add_zero]
      rwa [e1] at this) hE (by grind) he he2
    obtain ⟨ih1, ih2⟩ := phi_list he he2 hlev t (fbump l k v) (s ++ [(k, V v)]) (E + p2 (e - 25)) (hl.bump hv0) (fun p hp => hv p (by simp [hp])) (by rw [length_fbump]; exact hn) hz'
      (fun u w huw i hi => by
        have := hC ((k, v) :: u) w (by rw [← huw]; rfl) i hi
        have e1 : s ++ valL ((k, v) :: u) = (s ++ [(k, V v)]) ++ valL u := by show s ++ (k, V v) :: valL u = _; simp
        rwa [e1] at this) (by grind) (by grind)
    rw [hval, fadds, List.length_cons]
    have e2 : s ++ (k, V v) :: valL t = (s ++ [(k, V v)]) ++ valL t := by simp
    rw [e2]
    push_cast
    exact ⟨by grind, ih2⟩

/-! ### the running sum -/
theorem acc_touch {κ C : Rat} {e : Int} (he : -120 ≤ e) (he2 : e ≤ 100) (hC : C ≤ 1000) (hκ : κ ≤ 1) (hlev : C + κ ≤ p2 e) (T c : Nat → Rat) (b : Nat → Bool) (hc0 : ∀ k, 0 ≤ c k) (hT : ∀ k, ab (T k) ≤ C) : ∀ (l : List Nat) (acc o p : Nat) (E : Rat), CellsBd l → F32 acc →
    (∀ i, i < l.length → ab (V (fAt l i) - (T (o + i + 1) - T (o + i))) ≤ c (o + i) ∧ (b (o + i) = false → V (fAt l i) = 0 ∧ T (o + i + 1) = T (o + i))) → ab (V acc - T o) ≤ E → p < l.length →
    E + sumN (fun i => c (o + i) + if b (o + i) = true then p2 (e - 25) else 0) (p + 1) ≤ κ →
    F32 (accTo acc l p) ∧ ab (V (accTo acc l p) - T (o + p + 1)) ≤ E + sumN (fun i => c (o + i) + if b (o + i) = true then p2 (e - 25) else 0) (p + 1)
  | [], _, _, _, _, _, _, _, _, h, _ => by simp at h
  | v :: t, acc, o, p, E, hl, ha, hcell, hacc, hp, hb => by
    have hv : Bd v 100 := hl v (by simp)
    obtain ⟨h0, hz⟩ := hcell 0 (by simp)
    have hf0 : fAt (v :: t) 0 = v := by simp [fAt]
    rw [hf0, Nat.add_zero] at h0 hz
    have hpp := p2_pos (e - 25)
    have hpos : ∀ i, 0 ≤ c (o + i) + if b (o + i) = true then p2 (e - 25) else 0 := fun i => by
      have := hc0 (o + i)
      split <;> grind
    have hfirst := sumN_mem (f := fun i => c (o + i) + if b (o + i) = true then p2 (e - 25) else 0) hpos (show 0 < p + 1 by omega)
    simp only [Nat.add_zero] at hfirst
    have hc := hc0 o
    have hcb : 0 ≤ c o + if b o = true then p2 (e - 25) else 0 := hpos 0
    have hE0 : 0 ≤ E := Rat.le_trans (ab_nonneg _) hacc
    have hs : E + c o ≤ κ := by
      have := hpos 0
      simp only [Nat.add_zero] at this
      split at hfirst <;> grind
    -- the addition
    have hTn := hT (o + 1)
    have e1 : V acc + V v = T (o + 1) + ((V acc - T o) + (V v - (T (o + 1) - T o))) := by grind
    have k1 := ab_add_le (T (o + 1)) ((V acc - T o) + (V v - (T (o + 1) - T o)))
    have k2 := ab_add_le (V acc - T o) (V v - (T (o + 1) - T o))
    rw [← e1] at k1
    obtain ⟨_, r⟩ := fadd_ok ha hv.fin (big126 (by grind))
    have hnew : ab (V (fop .add acc v) - T (o + 1)) ≤ E + (c o + if b o = true then p2 (e - 25) else 0) := by
      have e2 : V (fop .add acc v) - T (o + 1) = (V (fop .add acc v) - (V acc + V v)) + ((V acc - T o) + (V v - (T (o + 1) - T o))) := by grind
      by_cases hbo : b o = true
      · rw [if_pos hbo, e2]
        have k3 := ab_add_le (V (fop .add acc v) - (V acc + V v)) ((V acc - T o) + (V v - (T (o + 1) - T o)))
        have nr := r.half (e := e) (by grind) he he2
        grind
      · rw [if_neg hbo]
        obtain ⟨z1, z2⟩ := hz (by simpa using hbo)
        have z3 := eq_self32 (x := V acc + V v) ha (by rw [z1]; grind) r
        rw [z3, z2]
        grind
    cases p with
    | zero =>
      rw [accTo]
      refine ⟨r.fin, ?_⟩
      simp only [sumN, Nat.add_zero]
      have : E + (0 + (c o + if b o = true then p2 (e - 25) else 0)) = E + (c o + if b o = true then p2 (e - 25) else 0) := by grind
      grind
    | succ p =>
      rw [accTo]
      have hsp := sumN_split (fun i => c (o + i) + if b (o + i) = true then p2 (e - 25) else 0) 1 (p + 1)
      have e3 : 1 + (p + 1) = p + 1 + 1 := by omega
      rw [e3] at hsp
      have e4 : sumN (fun i => c (o + i) + if b (o + i) = true then p2 (e - 25) else 0) 1 = c o + if b o = true then p2 (e - 25) else 0 := by simp only [sumN, Nat.add_zero]; grind
      have e5 : sumN (fun k => c (o + (1 + k)) + if b (o + (1 + k)) = true then p2 (e - 25) else 0) (p + 1) = sumN (fun i => c (o + 1 + i) + if b (o + 1 + i) = true then p2 (e - 25) else 0) (p + 1) := sumN_congr fun i _ => by rw [Nat.add_assoc]
      rw [e4, e5] at hsp
      rw [hsp] at hb ⊢
      have ih := acc_touch he he2 hC hκ hlev T c b hc0 hT t (fop .add acc v) (o + 1) p (E + (c o + if b o = true then p2 (e - 25) else 0)) (fun a ha => hl a (by simp [ha])) r.fin (fun i hi => by
        have := hcell (i + 1) (by simpa using hi)
        have f1 : fAt (v :: t) (i + 1) = fAt t i := by simp [fAt]
        rw [f1, show o + (i + 1) = o + 1 + i by omega] at this
        exact this) hnew (by simpa using hp) (by grind)
      rw [show o + (p + 1) + 1 = o + 1 + p + 1 by omega]
      refine ⟨ih.1, ?_⟩
      have := ih.2
      grind
/-- A mask's sums: each addition costs at most a half unit. -/
theorem mask_touch {L : List (Nat × Nat)} {N : Nat} {C : Rat} {e : Int} (he : -120 ≤ e) (he2 : e ≤ 100) (hC1 : C ≤ 1000) (hbd : ∀ p ∈ L, Bd p.2 68) (hlev : C + L.length * p2 (e - 25) ≤ p2 e) (hsm : L.length * p2 (e - 25) ≤ 1)
    (hC : ∀ u v, u ++ v = L → ∀ k, k < N → ab (cellR (valL u) k) ≤ C) (hS : ∀ p, p < N → ab (sumR (valL L) p) ≤ C) {p : Nat} (hp : p < N) :
    ∃ a, (floBytes 0 (fadds L (List.replicate N 0)))[p]? = some (floByte a) ∧ F32 a ∧ ab (V a - sumR (valL L) p) ≤ L.length * p2 (e - 25) := by
  have hpp := p2_pos (e - 25)
  have hC0 : 0 ≤ C := Rat.le_trans (ab_nonneg _) (hS p hp)
  have hf0 : ∀ k, k < N → fAt (List.replicate N 0) k = 0 := fun k hk => by unfold fAt; simp [List.getD, hk]
  have hphi0 : phiL (p2 (e - 25)) (List.replicate N 0) [] N = 0 := by
    have h1 : phiL (p2 (e - 25)) (List.replicate N 0) [] N = sumN (fun _ => 0) N := by
      unfold phiL
      refine sumN_congr fun k hk => ?_
      rw [hf0 k hk, fzero.2]
      have : tch [] k = false := rfl
      rw [this, if_neg (by decide)]
      show ab (0 - 0) + 0 = 0
      decide +kernel
    rw [h1, sumN_const]
    grind
  obtain ⟨c1, c2⟩ := phi_list (n := N) (C := C) (κ := L.length * p2 (e - 25)) he he2 hlev L (List.replicate N 0) [] 0 (CellsBd.zero N) hbd (by simp) (fun i hi _ => by rw [hf0 i hi]; exact fzero.2)
    (fun u v huv k hk => by rw [List.nil_append]; exact hC u v huv k hk) (by rw [hphi0]; exact Rat.le_refl) (by grind)
  rw [List.nil_append] at c1 c2
  obtain ⟨l, hl⟩ : ∃ l, l = fadds L (List.replicate N 0) := ⟨_, rfl⟩
  obtain ⟨s, hs⟩ : ∃ s, s = valL L := ⟨_, rfl⟩
  rw [← hl, ← hs] at c1 c2
  rw [← hs] at hS
  have hlb : CellsBd l := by rw [hl]; exact (fadds_ok _ _ (CellsBd.zero _) hbd).2
  have hll : l.length = N := by rw [hl, length_fadds]; simp
  obtain ⟨T, hT⟩ : ∃ T : Nat → Rat, T = fun k => sumN (cellR s) (if k ≤ N then k else N) := ⟨_, rfl⟩
  have hTk : ∀ k, k ≤ N → T k = sumN (cellR s) k := fun k hk => by rw [hT]; simp only; rw [if_pos hk]
  have hTC : ∀ k, ab (T k) ≤ C := by
    intro k
    have main : ∀ j, j ≤ N → ab (sumN (cellR s) j) ≤ C := by
      intro j hj
      cases j with
      | zero =>
        simp only [sumN]
        have : ab (0 : Rat) = 0 := by decide +kernel
        grind
      | succ j => rw [sumN_cellR]; exact hS j (by omega)
    rw [hT]
    simp only
    split
    · exact main _ (by assumption)
    · exact main _ (Nat.le_refl _)
  have hsum : sumN (fun i => ab (V (fAt l (0 + i)) - cellR s (0 + i)) + if tch s (0 + i) = true then p2 (e - 25) else 0) (p + 1) ≤ L.length * p2 (e - 25) := by
    have h1 := sumN_mono (f := fun i => ab (V (fAt l (0 + i)) - cellR s (0 + i)) + if tch s (0 + i) = true then p2 (e - 25) else 0) (fun i => by
      have := ab_nonneg (V (fAt l (0 + i)) - cellR s (0 + i))
      split <;> grind) (show p + 1 ≤ N by omega)
    refine Rat.le_trans h1 ?_
    have h2 : sumN (fun i => ab (V (fAt l (0 + i)) - cellR s (0 + i)) + if tch s (0 + i) = true then p2 (e - 25) else 0) N = phiL (p2 (e - 25)) l s N := sumN_congr fun i _ => by rw [Nat.zero_add]
    rw [h2]
    grind
  have ez : ∀ z : Rat, 0 + z = z := fun z => by grind
  obtain ⟨r1, r2⟩ := acc_touch he he2 hC1 hsm hlev T (fun k => ab (V (fAt l k) - cellR s k)) (tch s) (fun k => ab_nonneg _) hTC l 0 0 p 0 hlb fzero.1 (fun i hi => by
    rw [hll] at hi
    rw [Nat.zero_add, hTk (i + 1) (by omega), hTk i (by omega)]
    have : sumN (cellR s) (i + 1) - sumN (cellR s) i = cellR s i := by rw [sumN]; grind
    rw [this]
    refine ⟨Rat.le_refl, fun hz => ⟨c2 i hi hz, ?_⟩⟩
    rw [sumN, tch_cell hz]
    grind) (by rw [hTk 0 (by omega), fzero.2]; simp only [sumN]; decide +kernel) (by rw [hll]; exact hp) (by rw [ez]; exact hsum)
  refine ⟨accTo 0 l p, ?_, r1, ?_⟩
  · rw [← hl]
    exact floBytes_at l 0 _ (by rw [hll]; exact hp)
  · rw [ez, Nat.zero_add, hTk _ (by omega), sumN_cellR] at r2
    rw [← hs]
    exact Rat.le_trans r2 hsum
end Go.Proofs.Ytmgcbodlolnheaa
