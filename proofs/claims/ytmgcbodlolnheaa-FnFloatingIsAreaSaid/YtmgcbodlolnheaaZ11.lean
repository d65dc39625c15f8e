/- A cubic curve's coordinate at increasing times: how far it goes in all, and how often it turns. How near a row's additions come to the row's height in all: sharper. Lines between any floats within 128 pixels: where they are, counted by half units, and what they add. What lines between any floats within 128 pixels add: totals of rows sharply, how many additions, all of one sign. What any line -/
import Derived.Test.YtmgcbodlolnheaaZ10
namespace Go.Proofs.Ytmgcbodlolnheaa
open Flt Go.RowKit
set_option linter.unusedVariables false
theorem ab_four {a b c d A B C D : Rat} (h1 : ab a <= A) (h2 : ab b <= B) (h3 : ab c <= C) (h4 : ab d <= D) : ab (a + b + c + d) <= A + B + C + D := by
 have n1 := ab_add_le (a + b + c) d
 have n2 := ab_add_le (a + b) c
 have n3 := ab_add_le a b
 grind
def b1 (t : Rat) : Rat := 3 * ((1 - t) * (1 - t) * t)
def bend (A K r s t : Rat) : Rat := A * (r + s + t) + K
def Cub (A K : Rat) (f : Rat -> Rat) : Prop := ∀ r s t : Rat, (f t - f s) * (s - r) - (f s - f r) * (t - s) = (t - s) * (s - r) * (t - r) * bend A K r s t
theorem pos_of_mul {a b : Rat} (hb : 0 < b) (h : 0 <= a * b) : 0 <= a := by
 rcases Rat.le_total (a := 0) (b := a) with c | c
 ·exact c
 ·have k := Rat.mul_le_mul_of_nonneg_right c (Rat.le_of_lt hb)
  rw [Rat.zero_mul] at k
  have e : a * b = 0 := Rat.le_antisymm k h
  rcases Rat.mul_eq_zero.1 e with e | e
  ·rw [e]; exact Rat.le_refl
  ·rw [e] at hb; exact absurd hb (by decide)
structure Cut (g : Rat -> Rat) : Prop where
 mono : ∀ {a b : Rat}, a <= b -> g a <= g b
 low : ∀ a, 0 <= g a
 high : ∀ a, g a <= 1
section
variable {A K : Rat} {f g : Rat -> Rat} (hf : Cub A K f) (hg : Cut g) (hA : 0 <= A)
include hf hg hA
end
theorem tot_T {d x0 x1 x2 A T1 T2 M A0 AM u τ : Rat} (hu : u = 1 / 16777216) (hτ : τ = 1 / 1000000000000000000000000000000) (hd : ab d <= 1) (a0 : 0 <= A) (m0 : 0 <= M) (hA : ab (A - A0) <= 18 * u) (hM : ab (M - AM) <= 18 * u) (p0 : 0 <= A0) (p1 : 0 <= AM) (p2 : A0 + AM <= 1)
  (k1 : ab (T1 - (1 - A)) <= ab (1 - A) * u + τ) (k2 : ab (T2 - (T1 - M)) <= ab (T1 - M) * u + τ) (w0 : ab (x0 - d * A) <= ab (d * A) * u + τ) (w1 : ab (x1 - d * T2) <= ab (d * T2) * u + τ) (w2 : ab (x2 - d * M) <= ab (d * M) * u + τ) :
  ab (x0 + (x1 + (x2 + 0)) - d) <= ab d * (4 * u) + 1 / 100000000000000000000000000 := by
 have hd0 := ab_nonneg d
 obtain ⟨a1, a2⟩ := ab_iff.1 hA
 obtain ⟨b1, b2⟩ := ab_iff.1 hM
 have c1 : ab (1 - A) <= 101 / 100 := by subst hu; exact ab_le (by grind) (by grind)
 have d1 : ab (T1 - (1 - A)) <= 102 / 100 * u := by
  have := Rat.mul_le_mul_of_nonneg_right c1 (show 0 <= u by subst hu; decide +kernel)
  subst hu hτ; grind
 obtain ⟨e1, e2⟩ := ab_iff.1 d1
 have c2 : ab (T1 - M) <= 101 / 100 := by subst hu; exact ab_le (by grind) (by grind)
 have d2 : ab (T2 - (T1 - M)) <= 102 / 100 * u := by
  have := Rat.mul_le_mul_of_nonneg_right c2 (show 0 <= u by subst hu; decide +kernel)
  subst hu hτ; grind
 obtain ⟨f1, f2⟩ := ab_iff.1 d2
 have g2 : ab (T2 - (1 - A - M)) <= 204 / 100 * u := ab_le (by grind) (by grind)
 have hT : ab T2 <= 1 - A0 - AM + 39 * u := ab_le (by grind) (by grind)
 have z0 : ab (d * A) <= ab d * (A0 + 18 * u) := ab_mul_le Rat.le_refl (by rw [ab_of_nonneg a0]; grind)
 have z1 : ab (d * T2) <= ab d * (1 - A0 - AM + 39 * u) := ab_mul_le Rat.le_refl hT
 have z2 : ab (d * M) <= ab d * (AM + 18 * u) := ab_mul_le Rat.le_refl (by rw [ab_of_nonneg m0]; grind)
 have z3 : ab (d * (T2 - (1 - A - M))) <= ab d * (204 / 100 * u) := ab_mul_le Rat.le_refl g2
 have e : x0 + (x1 + (x2 + 0)) - d = (x0 - d * A) + (x1 - d * T2) + (x2 - d * M) + d * (T2 - (1 - A - M)) := by grind
 have n1 := ab_add_le ((x0 - d * A) + (x1 - d * T2) + (x2 - d * M)) (d * (T2 - (1 - A - M)))
 have n2 := ab_add_le ((x0 - d * A) + (x1 - d * T2)) (x2 - d * M)
 have n3 := ab_add_le (x0 - d * A) (x1 - d * T2)
 rw [e]
 have s1 : ab (d * A) + ab (d * T2) + ab (d * M) <= ab d * (1 + 75 * u) := by
  have : ab d * (A0 + 18 * u) + ab d * (1 - A0 - AM + 39 * u) + ab d * (AM + 18 * u) = ab d * (1 + 75 * u) := by grind
  grind
 have s2 : ab d * (1 + 75 * u) <= ab d * (101 / 100) := Rat.mul_le_mul_of_nonneg_left (by subst hu; decide +kernel) hd0
 generalize ab (d * A) = y0 at *
 generalize ab (d * T2) = y1 at *
 generalize ab (d * M) = y2 at *
 subst hu hτ
 grind
set_option maxHeartbeats 1000000 in
theorem rowT_totS {W base d lo hi : Nat} (hl : XsG lo) (hh : XsG hi) (hd : Bd d 0) (hlt : V lo < V hi) (hw110 : p2 (-110) <= V hi - V lo) (hc : fce hi = ffl lo + 2) :
  ab (totR (valL (frowT W base d lo hi)) - V d) <= ab (V d) * (4 / 16777216) + 1 / 100000000000000000000000000 := by
 obtain ⟨_, el, l1, l2⟩ := hl.fl
 obtain ⟨_, eh, h1, h2⟩ := hh.ce
 obtain ⟨fl1, fl2⟩ := floor_near (V lo)
 obtain ⟨ce1, ce2⟩ := ceil_near (V hi)
 rw [<- el] at fl1 fl2
 rw [<- eh] at ce1 ce2
 have G := low_partG hl
 have H := high_partG hh
 obtain ⟨s1, s2, s3, s4⟩ := inv_partG hl hh hw110
 have hcr : (fce hi : Rat) = (ffl lo : Rat) + 2 := by rw [hc]; push_cast; rfl
 obtain ⟨g, hg⟩ : ∃ g, g = (ffl lo : Rat) + 1 - V lo := ⟨_, rfl⟩
 obtain ⟨h, hhh⟩ : ∃ h, h = V hi - ((fce hi : Rat) - 1) := ⟨_, rfl⟩
 obtain ⟨w, hw⟩ : ∃ w, w = V hi - V lo := ⟨_, rfl⟩
 rw [<- hg] at G
 rw [<- hhh] at H
 rw [<- hw] at s4
 have hw0 : 0 < w := by grind
 have hwgh : w = g + h := by grind
 have hwb : w <= 100000 := by have := G.g1; have := H.g1; grind
 obtain ⟨s, hs, hs0⟩ := inv_of hw0
 obtain ⟨p1, p2', p3⟩ := half_partG s1 s2 s3 hw0 hwb s4
 have p4 : V (fop .mul 1056964608 (fop .quo 1065353216 (fop .sub hi lo))) <= 1500000000000000000000000000000000 := by
  obtain ⟨_, r⟩ := fmul_ok fhalf.1.fin s1 (big126G (by rw [fhalf.2]; exact ab_le (by grind) (by grind)))
  rw [fhalf.2] at r
  have n := r.near5.2
  rw [ab_of_nonneg (x := 1 / 2 * V (fop .quo 1065353216 (fop .sub hi lo))) (by grind)] at n
  obtain ⟨a, _⟩ := ab_iff.1 n
  grind
 obtain ⟨a1, a2, a3⟩ := quad_partG (w := w) (s := s) G p1 p2' p4 hw0 hs p3 (by have := H.g0; grind)
 obtain ⟨b1, b2, b3⟩ := quad_partG (w := w) (s := s) H p1 p2' p4 hw0 hs p3 (by have := G.g0; grind)
 obtain ⟨t1, t2, t3, t4, t5⟩ := tri_rat (Rat.le_of_lt G.g0) G.g1 (Rat.le_of_lt H.g0) H.g1 hs hs0 (by rw [hwgh]; exact Rat.le_refl)
 have hg0 := G.g0
 have hg1 := G.g1
 have hh0 := H.g0
 have hh1 := H.g1
 unfold frowT
 generalize fop .mul (fop .mul (fop .mul 1056964608 (fop .quo 1065353216 (fop .sub hi lo))) (fop .sub 1065353216 (fop .sub lo (floatOfInt .f32 (ffl lo))))) (fop .sub 1065353216 (fop .sub lo (floatOfInt .f32 (ffl lo)))) = A at *
 generalize fop .mul (fop .mul (fop .mul 1056964608 (fop .quo 1065353216 (fop .sub hi lo))) (fop .add (fop .sub hi (floatOfInt .f32 (fce hi))) 1065353216)) (fop .add (fop .sub hi (floatOfInt .f32 (fce hi))) 1065353216) = M at *
 have hAM : s * (g + 1 / 2 - (1 - h) * (1 - h) / 2) = 1 - h * h / 2 * s := by
  have : s * (g + h) = 1 := by rw [<- hwgh]; exact hs
  grind
 have hA0 : s * (g * g / 2) = g * g / 2 * s := by grind
 generalize g * g / 2 * s = A0 at *
 generalize h * h / 2 * s = AM at *
 have hone : ab (V 1065353216 - 1) <= 0 := by rw [fone.2]; decide +kernel
 obtain ⟨f1, n1⟩ := subE (X := 1) (E := 18 / 16777216) fone.1.fin a1 hone a3 (ab_le (by grind) (by grind)) (by grind) (by grind)
 obtain ⟨f2, n2⟩ := subE (X := 1) (E := 36 / 16777216) f1 b1 n1 b3 (ab_le (by grind) (by grind)) (by grind) (by grind)
 have habA : ab (V A) <= 2 := by obtain ⟨x, y⟩ := ab_iff.1 a3; exact ab_le (by grind) (by grind)
 have habM : ab (V M) <= 2 := by obtain ⟨x, y⟩ := ab_iff.1 b3; exact ab_le (by grind) (by grind)
 have hD : ab (V d) <= 1 := by have := hd.ab; rwa [p2_zero] at this
 have habA : ab (V A) <= 2 := by obtain ⟨x, y⟩ := ab_iff.1 a3; exact ab_le (by grind) (by grind)
 have habM : ab (V M) <= 2 := by obtain ⟨x, y⟩ := ab_iff.1 b3; exact ab_le (by grind) (by grind)
 obtain ⟨_, r1⟩ := fsub_ok fone.1.fin a1 (big126G (by rw [fone.2]; obtain ⟨x, y⟩ := ab_iff.1 a3; exact ab_le (by grind) (by grind)))
 rw [fone.2] at r1
 have k1 := r1.near5.2
 generalize hT1 : fop .sub 1065353216 A = T1 at *
 obtain ⟨_, r2⟩ := fsub_ok f1 b1 (big126G (by obtain ⟨x, y⟩ := ab_iff.1 n1; obtain ⟨x2, y2⟩ := ab_iff.1 b3; exact ab_le (by grind) (by grind)))
 have k2 := r2.near5.2
 generalize hT2 : fop .sub T1 M = T2 at *
 have habT : ab (V T2) <= 2 := by obtain ⟨x, y⟩ := ab_iff.1 n2; exact ab_le (by grind) (by grind)
 have mul2 : ∀ z : Rat, ab z <= 2 -> ab (V d * z) <= 10000000000000000000000000000000000000 := fun z hz => by
  have := ab_mul_le hD hz
  grind
 have w0 := (fmul_ok hd.fin a1 (big126G (mul2 _ habA))).2.near5.2
 have w1 := (fmul_ok hd.fin f2 (big126G (mul2 _ habT))).2.near5.2
 have w2 := (fmul_ok hd.fin b1 (big126G (mul2 _ habM))).2.near5.2
 have e : totR (valL [(base + clampN (ffl lo) W, fop .mul d A), (base + clampN (ffl lo + 1) W, fop .mul d T2), (base + clampN (fce hi) W, fop .mul d M)]) = V (fop .mul d A) + (V (fop .mul d T2) + (V (fop .mul d M) + 0)) := rfl
 rw [e]
 have := tot_T (u := 1 / 16777216) (τ := 1 / 1000000000000000000000000000000) rfl rfl hD a2 b2 (A0 := A0) (AM := AM) (by grind) (by grind) t1 t2 t3 k1 k2 w0 w1 w2
 grind
theorem tot_M {d x0 x1 xN x3 x4 A C CA SN Z A2 U1 U2 M A0 AM c0 sN u τ : Rat} (hu : u = 1 / 16777216) (hτ : τ = 1 / 1000000000000000000000000000000) (hd : ab d <= 1) (hA : ab (A - A0) <= 18 * u) (hC : ab (C - c0) <= 11 * u) (hZ : ab (Z - sN) <= 5 * u) (hM : ab (M - AM) <= 18 * u)
  (p0 : 0 <= A0) (p1 : A0 <= c0) (p2 : 0 <= sN) (p3 : 0 <= AM) (p4 : c0 + sN + AM <= 1) (kN : ab (Z - SN) <= ab SN * u + τ) (hSN : ab (SN - sN) <= 3 * u)
  (k1 : ab (CA - (C - A)) <= ab (C - A) * u + τ) (k2 : ab (A2 - (C + Z)) <= ab (C + Z) * u + τ) (k3 : ab (U1 - (1 - A2)) <= ab (1 - A2) * u + τ) (k4 : ab (U2 - (U1 - M)) <= ab (U1 - M) * u + τ)
  (w0 : ab (x0 - d * A) <= ab (d * A) * u + τ) (w1 : ab (x1 - d * CA) <= ab (d * CA) * u + τ) (wN : ab (xN - d * SN) <= ab d * (2 * u) + 1 / 400000000000000000000000000) (w3 : ab (x3 - d * U2) <= ab (d * U2) * u + τ) (w4 : ab (x4 - d * M) <= ab (d * M) * u + τ) :
  ab (x0 + x1 + xN + x3 + x4 - d) <= ab d * (6 * u) + 1 / 100000000000000000000000000 := by
 have hd0 := ab_nonneg d
 have hu0 : 0 <= u := by subst hu; decide +kernel
 obtain ⟨a1, a2⟩ := ab_iff.1 hA
 obtain ⟨b1, b2⟩ := ab_iff.1 hC
 obtain ⟨c1, c2⟩ := ab_iff.1 hZ
 obtain ⟨d1, d2⟩ := ab_iff.1 hM
 obtain ⟨e1, e2⟩ := ab_iff.1 hSN
 have rel : ∀ {e z b : Rat}, ab e <= ab z * u + τ -> ab z <= b -> b <= 11 / 10 -> ab e <= b * u + τ /\ ab e <= 12 / 10 * u := by
  intro e z b h1 h2 h3
  have m1 := Rat.mul_le_mul_of_nonneg_right h2 hu0
  have m2 := Rat.mul_le_mul_of_nonneg_right h3 hu0
  refine ⟨by grind, ?_⟩
  subst hu hτ
  grind
 obtain ⟨f1, f2⟩ := rel kN (b := sN + 3 * u) (ab_le (by grind) (by grind)) (by subst hu; grind)
 obtain ⟨g1, g2⟩ := rel k1 (b := c0 - A0 + 29 * u) (ab_le (by grind) (by grind)) (by subst hu; grind)
 obtain ⟨h1, h2⟩ := rel k2 (b := c0 + sN + 16 * u) (ab_le (by grind) (by grind)) (by subst hu; grind)
 obtain ⟨i1, i2⟩ := ab_iff.1 h2
 obtain ⟨j1, j2⟩ := rel k3 (b := 1 - c0 - sN + 18 * u) (ab_le (by grind) (by grind)) (by subst hu; grind)
 obtain ⟨l1, l2⟩ := ab_iff.1 j2
 obtain ⟨m1, m2⟩ := rel k4 (b := 1 - c0 - sN + 38 * u) (ab_le (by grind) (by grind)) (by subst hu; grind)
 obtain ⟨n1, n2⟩ := ab_iff.1 m2
 obtain ⟨o1, o2⟩ := ab_iff.1 g2
 have q : ab ((CA - (C - A)) + (U2 - (U1 - M)) + (U1 - (1 - A2)) - (A2 - (C + Z)) - (Z - SN)) <= 205 / 100 * u := by
  obtain ⟨r1, r2⟩ := ab_iff.1 f1
  obtain ⟨r3, r4⟩ := ab_iff.1 g1
  obtain ⟨r5, r6⟩ := ab_iff.1 h1
  obtain ⟨r7, r8⟩ := ab_iff.1 j1
  obtain ⟨r9, r10⟩ := ab_iff.1 m1
  have e9 : (sN + 3 * u) * u + (c0 - A0 + 29 * u) * u + (c0 + sN + 16 * u) * u + (1 - c0 - sN + 18 * u) * u + (1 - c0 - sN + 38 * u) * u = (2 - A0) * u + 104 * u * u := by grind
  have e10 := Rat.mul_nonneg p0 hu0
  have e11 : 104 * u * u <= 1 / 100 * u := Rat.mul_le_mul_of_nonneg_right (by subst hu; decide +kernel) hu0
  have e12 : 5 * τ <= 1 / 100 * u := by subst hu hτ; decide +kernel
  have e13 : (2 - A0) * u = 2 * u - A0 * u := by grind
  exact ab_le (by grind) (by grind)
 have hCA : ab CA <= c0 - A0 + 31 * u := ab_le (by grind) (by grind)
 have hU2 : ab U2 <= 1 - c0 - sN - AM + 40 * u := ab_le (by grind) (by grind)
 have z0 : ab (d * A) <= ab d * (A0 + 18 * u) := ab_mul_le Rat.le_refl (ab_le (by grind) (by grind))
 have z1 : ab (d * CA) <= ab d * (c0 - A0 + 31 * u) := ab_mul_le Rat.le_refl hCA
 have z3 : ab (d * U2) <= ab d * (1 - c0 - sN - AM + 40 * u) := ab_mul_le Rat.le_refl hU2
 have z4 : ab (d * M) <= ab d * (AM + 18 * u) := ab_mul_le Rat.le_refl (ab_le (by grind) (by grind))
 have z5 := ab_mul_le (x := d) (a := ab d) Rat.le_refl q
 have e : x0 + x1 + xN + x3 + x4 - d = (x0 - d * A) + (x1 - d * CA) + (x3 - d * U2) + (x4 - d * M) + (xN - d * SN) + d * ((CA - (C - A)) + (U2 - (U1 - M)) + (U1 - (1 - A2)) - (A2 - (C + Z)) - (Z - SN)) := by grind
 rw [e]
 have s1 : ab (d * A) + ab (d * CA) + ab (d * U2) + ab (d * M) <= ab d * (1 + 107 * u) := by
  have m3 := Rat.mul_nonneg hd0 p2
  have : ab d * (A0 + 18 * u) + ab d * (c0 - A0 + 31 * u) + ab d * (1 - c0 - sN - AM + 40 * u) + ab d * (AM + 18 * u) = ab d * (1 + 107 * u) - ab d * sN := by grind
  grind
 have s2 : ab d * (1 + 107 * u) <= ab d * (101 / 100) := Rat.mul_le_mul_of_nonneg_left (by subst hu; decide +kernel) hd0
 have n6 := ab_add_le ((x0 - d * A) + (x1 - d * CA) + (x3 - d * U2) + (x4 - d * M) + (xN - d * SN)) (d * ((CA - (C - A)) + (U2 - (U1 - M)) + (U1 - (1 - A2)) - (A2 - (C + Z)) - (Z - SN)))
 have n7 := ab_add_le ((x0 - d * A) + (x1 - d * CA) + (x3 - d * U2) + (x4 - d * M)) (xN - d * SN)
 have n8 := ab_four w0 w1 w3 w4
 refine Rat.le_trans n6 ?_
 generalize ab (d * A) = y0 at *
 generalize ab (d * CA) = y1 at *
 generalize ab (d * U2) = y2 at *
 generalize ab (d * M) = y3 at *
 subst hu hτ
 grind
set_option maxHeartbeats 2000000 in
theorem rowM_totS {W base d lo hi N : Nat} {B : Rat} (hl : XsG lo) (hh : XsG hi) (hd : Bd d 0) (hB0 : 120 <= B) (hB1 : B <= 1024) (hbl : ab (V lo) <= B) (hbh : ab (V hi) <= B) (hlt : V lo < V hi) (hw110 : p2 (-110) <= V hi - V lo) (hN : fce hi = ffl lo + 3 + (N : Int)) :
  ab (totR (valL (frowM W base d lo hi N)) - V d) <= ab (V d) * (6 / 16777216) + 1 / 100000000000000000000000000 := by
 obtain ⟨_, el, l1, l2⟩ := hl.fl
 obtain ⟨_, eh, h1, h2⟩ := hh.ce
 obtain ⟨fl1, fl2⟩ := floor_near (V lo)
 obtain ⟨ce1, ce2⟩ := ceil_near (V hi)
 rw [<- el] at fl1 fl2
 rw [<- eh] at ce1 ce2
 have G := low_partG hl
 have H := high_partG hh
 obtain ⟨fr1, fr2⟩ := frac_nearG hl
 obtain ⟨s1, s2, s3, s4⟩ := inv_partG hl hh hw110
 have hcr : (fce hi : Rat) = (ffl lo : Rat) + 3 + (N : Rat) := by rw [hN]; push_cast; rfl
 obtain ⟨g, hg⟩ : ∃ g, g = (ffl lo : Rat) + 1 - V lo := ⟨_, rfl⟩
 obtain ⟨h, hhh⟩ : ∃ h, h = V hi - ((fce hi : Rat) - 1) := ⟨_, rfl⟩
 obtain ⟨w, hw⟩ : ∃ w, w = V hi - V lo := ⟨_, rfl⟩
 rw [<- hg] at G
 rw [<- hhh] at H
 rw [<- hw] at s4
 have hg0 := G.g0
 have hg1 := G.g1
 have hh0 := H.g0
 have hh1 := H.g1
 have hNn : (0 : Rat) <= (N : Rat) := by exact_mod_cast Nat.zero_le N
 have hwgh : w = g + h + (N + 1) := by grind
 have hw0 : 0 < w := by grind
 have hw2 : w <= 2048 := by
  obtain ⟨x, y⟩ := ab_iff.1 hbl
  obtain ⟨x2, y2⟩ := ab_iff.1 hbh
  grind
 have hwb : w <= 100000 := by grind
 have hN2 : (N : Rat) <= 2048 := by grind
 obtain ⟨s, hs, hs0⟩ := inv_of hw0
 obtain ⟨p1, p2', p3⟩ := half_partG s1 s2 s3 hw0 hwb s4
 have p4 : V (fop .mul 1056964608 (fop .quo 1065353216 (fop .sub hi lo))) <= 1500000000000000000000000000000000 := by
  obtain ⟨_, r⟩ := fmul_ok fhalf.1.fin s1 (big126G (by rw [fhalf.2]; exact ab_le (by grind) (by grind)))
  rw [fhalf.2] at r
  have n := r.near5.2
  rw [ab_of_nonneg (x := 1 / 2 * V (fop .quo 1065353216 (fop .sub hi lo))) (by grind)] at n
  obtain ⟨a, _⟩ := ab_iff.1 n
  grind
 obtain ⟨a1, a2, a3⟩ := quad_partG (w := w) (s := s) G p1 p2' p4 hw0 hs p3 (by grind)
 obtain ⟨b1, b2, b3⟩ := quad_partG (w := w) (s := s) H p1 p2' p4 hw0 hs p3 (by grind)
 obtain ⟨t1, t2, t3, t4, t5⟩ := tri_rat (Rat.le_of_lt hg0) hg1 (Rat.le_of_lt hh0) hh1 hs hs0 (by grind)
 have hsN0 : 0 <= s * N := Rat.mul_nonneg (Rat.le_of_lt hs0) hNn
 have hsum : g * s + h * s + s * N + s = 1 := by
  have : s * (g + h + (N + 1)) = 1 := by rw [<- hwgh]; exact hs
  grind
 have hgs0 : 0 <= g * s := Rat.mul_nonneg (Rat.le_of_lt hg0) (Rat.le_of_lt hs0)
 have hhs0 : 0 <= h * s := Rat.mul_nonneg (Rat.le_of_lt hh0) (Rat.le_of_lt hs0)
 have hAle : g * g / 2 * s <= g * s := by
  have m1 := Rat.mul_le_mul_of_nonneg_left hg1 hgs0
  have e : g * g / 2 * s = 1 / 2 * (g * s * g) := by grind
  have m2 := Rat.mul_nonneg hgs0 (Rat.le_of_lt hg0)
  rw [e]
  grind
 have hMle : h * h / 2 * s <= h * s := by
  have m1 := Rat.mul_le_mul_of_nonneg_left hh1 hhs0
  have e : h * h / 2 * s = 1 / 2 * (h * s * h) := by grind
  have m2 := Rat.mul_nonneg hhs0 (Rat.le_of_lt hh0)
  rw [e]
  grind
 have hS : ab (V (fop .quo 1065353216 (fop .sub hi lo)) - s) <= s * (3 / 16777216) := by
  have e : V (fop .quo 1065353216 (fop .sub hi lo)) - s = (V (fop .quo 1065353216 (fop .sub hi lo)) * w - 1) * s := by
   have : (V (fop .quo 1065353216 (fop .sub hi lo)) * w - 1) * s = V (fop .quo 1065353216 (fop .sub hi lo)) * (s * w) - s := by grind
   rw [this, hs]
   grind
  rw [e, ab_mul, ab_of_nonneg (Rat.le_of_lt hs0)]
  have := Rat.mul_le_mul_of_nonneg_right s4 (Rat.le_of_lt hs0)
  grind
 have hs1 : s <= 1 := by grind
 have hS3 : ab (V (fop .quo 1065353216 (fop .sub hi lo)) - s) <= 3 / 16777216 := by grind
 obtain ⟨k1, k2⟩ := ofInt_bd (n := fce hi - ffl lo - 3) (k := 17) (by decide) (by omega) (by omega)
 have k3 : V (floatOfInt .f32 (fce hi - ffl lo - 3)) = N := by
  rw [k2]
  have : fce hi - ffl lo - 3 = (N : Int) := by omega
  rw [this]
  push_cast
  rfl
 unfold frowM
 generalize fop .mul (fop .mul (fop .mul 1056964608 (fop .quo 1065353216 (fop .sub hi lo))) (fop .sub 1065353216 (fop .sub lo (floatOfInt .f32 (ffl lo))))) (fop .sub 1065353216 (fop .sub lo (floatOfInt .f32 (ffl lo)))) = A at *
 generalize fop .mul (fop .mul (fop .mul 1056964608 (fop .quo 1065353216 (fop .sub hi lo))) (fop .add (fop .sub hi (floatOfInt .f32 (fce hi))) 1065353216)) (fop .add (fop .sub hi (floatOfInt .f32 (fce hi))) 1065353216) = M at *
 generalize fop .quo 1065353216 (fop .sub hi lo) = S at *
 generalize fop .sub lo (floatOfInt .f32 (ffl lo)) = F at *
 generalize floatOfInt .f32 (fce hi - ffl lo - 3) = K at *
 have hAM : s * (g + N + 3 / 2 - (1 - h) * (1 - h) / 2) = 1 - h * h / 2 * s := by grind
 have hA0 : s * (g * g / 2) = g * g / 2 * s := by grind
 have hone : ab (V 1065353216 - 1) <= 0 := by rw [fone.2]; decide +kernel
 have h15 : ab (V 1069547520 - 3 / 2) <= 0 := by
  rw [f15.2]
  have : (3 : Rat) / 2 - 3 / 2 = 0 := by grind
  rw [this]; decide +kernel
 have zz : ∀ z : Nat, ab (V z - V z) <= 0 := fun z => by have : V z - V z = 0 := by grind
                                                         rw [this]; decide +kernel
 obtain ⟨c1, c2⟩ := subE (X := 3 / 2) (E := 4 / 16777216) f15.1.fin fr1 h15 fr2 (ab_le (by grind) (by grind)) (by grind) (by grind)
 have e15 : (3 : Rat) / 2 - (V lo - (ffl lo : Rat)) = g + 1 / 2 := by grind
 rw [e15] at c2
 generalize fop .sub 1069547520 F = L at *
 obtain ⟨d1, d2⟩ := mulE (X := 1) (Y := 3 / 2) (e := 3 / 16777216) (f := 4 / 16777216) (E := 11 / 16777216) s1 c1 hS3 c2 (ab_le hs1 (by grind)) (ab_le (by grind) (by grind)) (by decide +kernel) (by decide +kernel) (by decide +kernel) (by decide +kernel)
 have ea1 : s * (g + 1 / 2) = g * s + s / 2 := by grind
 rw [ea1] at d2
 generalize fop .mul S L = C at *
 generalize hgA : g * g / 2 * s = A0 at *
 generalize hgM : h * h / 2 * s = AM at *
 generalize hgs : g * s = gs at *
 generalize hhs : h * s = hs' at *
 generalize hsN : s * (N : Rat) = sN at *
 obtain ⟨g1', g2'⟩ := subE (X := 3 / 2) (E := 29 / 16777216) d1 a1 d2 a3 (ab_le (by grind) (by grind)) (by grind) (by grind)
 obtain ⟨_, g3'⟩ := subE (X := 8 / 5) (E := 2 / 16777216) d1 a1 (zz C) (zz A) (by obtain ⟨x, y⟩ := ab_iff.1 a3; obtain ⟨x2, y2⟩ := ab_iff.1 d2; exact ab_le (by grind) (by grind)) (by grind) (by grind)
 generalize hCA : fop .sub C A = CA at *
 have hSN : ab (V S * N) <= 11 / 10 := by
  have e : V S * N = (V S - s) * N + sN := by rw [<- hsN]; grind
  have j1 : ab ((V S - s) * N) <= s * (3 / 16777216) * N := ab_mul_le hS (by rw [ab_of_nonneg hNn]; exact Rat.le_refl)
  have j2 : s * (3 / 16777216) * N = sN * (3 / 16777216) := by rw [<- hsN]; grind
  have j3 := ab_add_le ((V S - s) * N) sN
  rw [ab_of_nonneg hsN0] at j3
  rw [e]
  grind
 obtain ⟨_, rN⟩ := fmul_ok s1 k1.fin (big126G (by rw [k3]; grind))
 rw [k3] at rN
 have nN := rN.near5.2
 have hSNd : ab (V S * N - sN) <= 3 / 16777216 := by
  have e : V S * N - sN = (V S - s) * N := by rw [<- hsN]; grind
  have j1 : ab ((V S - s) * N) <= s * (3 / 16777216) * N := ab_mul_le hS (by rw [ab_of_nonneg hNn]; exact Rat.le_refl)
  have j2 : s * (3 / 16777216) * N = sN * (3 / 16777216) := by rw [<- hsN]; grind
  rw [e]
  grind
 have fN := rN.fin
 generalize fop .mul S K = Z at *
 have nN2 : ab (V Z - V S * N) <= 2 / 16777216 := by grind
 have nN1 : ab (V Z - sN) <= 5 / 16777216 := by
  have e : V Z - sN = (V Z - V S * N) + (V S * N - sN) := by grind
  have j := ab_add_le (V Z - V S * N) (V S * N - sN)
  rw [<- e] at j
  grind
 obtain ⟨i1, i2⟩ := addE (X := 1) (E := 18 / 16777216) d1 fN d2 nN1 (ab_le (by grind) (by grind)) (by grind) (by grind)
 obtain ⟨_, i3⟩ := addE (X := 11 / 10) (E := 2 / 16777216) d1 fN (zz C) (zz Z) (by obtain ⟨x, y⟩ := ab_iff.1 nN1; obtain ⟨x2, y2⟩ := ab_iff.1 d2; exact ab_le (by grind) (by grind)) (by grind) (by grind)
 generalize hA2 : fop .add C Z = A2 at *
 obtain ⟨j1, j2⟩ := subE (X := 1) (E := 20 / 16777216) fone.1.fin i1 hone i2 (ab_le (by grind) (by grind)) (by grind) (by grind)
 obtain ⟨_, j3⟩ := subE (X := 11 / 10) (E := 2 / 16777216) fone.1.fin i1 hone (zz A2) (by obtain ⟨x, y⟩ := ab_iff.1 i2; exact ab_le (by grind) (by grind)) (by grind) (by grind)
 generalize hU1 : fop .sub 1065353216 A2 = U1 at *
 obtain ⟨o1, o2⟩ := subE (X := 1) (E := 38 / 16777216) j1 b1 j2 b3 (ab_le (by grind) (by grind)) (by grind) (by grind)
 obtain ⟨_, o3⟩ := subE (X := 11 / 10) (E := 2 / 16777216) j1 b1 (zz U1) (zz M) (by obtain ⟨x, y⟩ := ab_iff.1 j2; obtain ⟨x2, y2⟩ := ab_iff.1 b3; exact ab_le (by grind) (by grind)) (by grind) (by grind)
 generalize hU2 : fop .sub U1 M = U2 at *
 have hD : ab (V d) <= 1 := by have := hd.ab; rwa [p2_zero] at this
 have hD0 := ab_nonneg (V d)
 have big : ∀ z : Rat, ab z <= 3 -> ab z <= p2 126 := fun z hz => big126G (by grind)
 have r1 := (fsub_ok d1 a1 (big _ (by obtain ⟨x, y⟩ := ab_iff.1 a3; obtain ⟨x2, y2⟩ := ab_iff.1 d2; exact ab_le (by grind) (by grind)))).2.near5.2
 rw [hCA] at r1
 have r2 := (fadd_ok d1 fN (big _ (by obtain ⟨x, y⟩ := ab_iff.1 nN1; obtain ⟨x2, y2⟩ := ab_iff.1 d2; exact ab_le (by grind) (by grind)))).2.near5.2
 rw [hA2] at r2
 have r3 := (fsub_ok fone.1.fin i1 (big _ (by rw [fone.2]; obtain ⟨x, y⟩ := ab_iff.1 i2; exact ab_le (by grind) (by grind)))).2.near5.2
 rw [hU1, fone.2] at r3
 have r4 := (fsub_ok j1 b1 (big _ (by obtain ⟨x, y⟩ := ab_iff.1 j2; obtain ⟨x2, y2⟩ := ab_iff.1 b3; exact ab_le (by grind) (by grind)))).2.near5.2
 rw [hU2] at r4
 have mul2 : ∀ z : Rat, ab z <= 2 -> ab (V d * z) <= p2 126 := fun z hz => by
  have := ab_mul_le hD hz
  exact big _ (by grind)
 have w0 := (fmul_ok hd.fin a1 (mul2 _ (by obtain ⟨x, y⟩ := ab_iff.1 a3; exact ab_le (by grind) (by grind)))).2.near5.2
 have w1 := (fmul_ok hd.fin g1' (mul2 _ (by obtain ⟨x, y⟩ := ab_iff.1 g2'; exact ab_le (by grind) (by grind)))).2.near5.2
 have w3 := (fmul_ok hd.fin o1 (mul2 _ (by obtain ⟨x, y⟩ := ab_iff.1 o2; exact ab_le (by grind) (by grind)))).2.near5.2
 have w4 := (fmul_ok hd.fin b1 (mul2 _ (by obtain ⟨x, y⟩ := ab_iff.1 b3; exact ab_le (by grind) (by grind)))).2.near5.2
 have hVS : 0 <= V S /\ V S <= s * (1001 / 1000) := by
  obtain ⟨x, y⟩ := ab_iff.1 hS
  exact ⟨by grind, by grind⟩
 have hmS : ab (V d * V S) <= ab (V d) * (s * (1001 / 1000)) := ab_mul_le Rat.le_refl (by rw [ab_of_nonneg hVS.1]; exact hVS.2)
 have hmS2 : ab (V d) * (s * (1001 / 1000)) <= 1 * (s * (1001 / 1000)) := Rat.mul_le_mul_of_nonneg_right hD (by grind)
 obtain ⟨_, rS⟩ := fmul_ok hd.fin s1 (big _ (by grind))
 have nS := rS.near5.2
 obtain ⟨ft, _, _⟩ := totR_fill base W (ffl lo + 2) (fop .mul d S) N
 have hval : totR (valL ([(base + clampN (ffl lo) W, fop .mul d A), (base + clampN (ffl lo + 1) W, fop .mul d CA)] ++ ffill base W (ffl lo + 2) (fop .mul d S) N ++ [(base + clampN (fce hi - 1) W, fop .mul d U2), (base + clampN (fce hi) W, fop .mul d M)])) =
   V (fop .mul d A) + V (fop .mul d CA) + V (fop .mul d S) * N + V (fop .mul d U2) + V (fop .mul d M) := by
  rw [valL_append, valL_append, totR_append, totR_append, ft]
  show V (fop .mul d A) + (V (fop .mul d CA) + 0) + V (fop .mul d S) * N + (V (fop .mul d U2) + (V (fop .mul d M) + 0)) = _
  grind
 rw [hval]
 have wN : ab (V (fop .mul d S) * N - V d * (V S * N)) <= ab (V d) * (2 * (1 / 16777216)) + 1 / 400000000000000000000000000 := by
  have e1 : V (fop .mul d S) * N - V d * (V S * N) = (V (fop .mul d S) - V d * V S) * N := by grind
  have m1 : ab ((V (fop .mul d S) - V d * V S) * N) <= (ab (V d * V S) * (1 / 16777216) + 1 / 1000000000000000000000000000000) * N := ab_mul_le nS (by rw [ab_of_nonneg hNn]; exact Rat.le_refl)
  have m2 : ab (V d * V S) * N <= ab (V d) * (s * (1001 / 1000)) * N := Rat.mul_le_mul_of_nonneg_right hmS hNn
  have e2 : ab (V d) * (s * (1001 / 1000)) * N = ab (V d) * sN * (1001 / 1000) := by rw [<- hsN]; grind
  have m3 : ab (V d) * sN <= ab (V d) * 1 := Rat.mul_le_mul_of_nonneg_left (by grind) hD0
  have e3 : (ab (V d * V S) * (1 / 16777216) + 1 / 1000000000000000000000000000000) * N = ab (V d * V S) * N * (1 / 16777216) + N * (1 / 1000000000000000000000000000000) := by grind
  rw [e1]
  generalize ab ((V (fop .mul d S) - V d * V S) * N) = z1 at *
  generalize ab (V d * V S) * N = z2 at *
  generalize ab (V d) * sN = z3 at *
  grind
 have := tot_M (u := 1 / 16777216) (τ := 1 / 1000000000000000000000000000000) rfl rfl hD (A0 := A0) (AM := AM) (c0 := gs + s / 2) (sN := sN) (by grind) (by grind) (by grind) (by grind) t1 (by grind) hsN0 t2 (by grind) nN (by grind) r1 r2 r3 r4 w0 w1 wN w3 w4
 grind
theorem rowN_totS {W base x xn d lo : Nat} {B : Rat} (h : RowNear (frowN W base x xn d lo) W base (V d) (V x) (V xn) B) (hd : Bd d 0) (hq : F32 (fop .mul d (fop .sub (fop .mul 1056964608 (fop .add x xn)) (floatOfInt .f32 (ffl lo))))) :
  ab (totR (valL (frowN W base x xn d lo)) - V d) <= ab (V d) * (6 / 16777216) + 1 / 100000000000000000000000000 := by
 have hD : ab (V d) <= 1 := by have := hd.ab; rwa [p2_zero] at this
 have hD0 := ab_nonneg (V d)
 have habs := h.abs
 have e0 : valL (frowN W base x xn d lo) = [(base + clampN (ffl lo) W, V (fop .sub d (fop .mul d (fop .sub (fop .mul 1056964608 (fop .add x xn)) (floatOfInt .f32 (ffl lo)))))), (base + clampN (ffl lo + 1) W, V (fop .mul d (fop .sub (fop .mul 1056964608 (fop .add x xn)) (floatOfInt .f32 (ffl lo)))))] := rfl
 rw [e0] at habs ⊢
 generalize fop .mul d (fop .sub (fop .mul 1056964608 (fop .add x xn)) (floatOfInt .f32 (ffl lo))) = q at *
 simp only [totR]
 simp only [absR] at habs
 have hv0 := ab_nonneg (V (fop .sub d q))
 have hq0 := ab_nonneg (V q)
 have hdq : ab (V d - V q) <= ab (V d) * 3 + 1 / 100000000000000000000000000 := by
  have := ab_sub_le (V d) (V q)
  grind
 obtain ⟨_, r⟩ := fsub_ok hd.fin hq (big126G (by grind))
 have n := r.near5.2
 have e : V (fop .sub d q) + (V q + 0) - V d = V (fop .sub d q) - (V d - V q) := by grind
 rw [e]
 grind
theorem rowT_totAny {W base d lo hi : Nat} (hl : XsG lo) (hh : XsG hi) (hd : Bd d 0) (hlt : V lo < V hi) (hw : V lo < 0 /\ 0 < V hi -> p2 (-125) <= V hi - V lo) (hc : fce hi = ffl lo + 2) :
  ab (totR (valL (frowT W base d lo hi)) - V d) <= ab (V d) * (6 / 16777216) + 1 / 100000000000000000000000000 := by
 have hD0 := ab_nonneg (V d)
 by_cases h110 : p2 (-110) <= V hi - V lo
 ·have := rowT_totS (W := W) (base := base) hl hh hd hlt h110 hc
  grind
 ·obtain ⟨_, el, l1, l2⟩ := hl.fl
  obtain ⟨_, eh, k1, k2⟩ := hh.ce
  obtain ⟨fl1, fl2⟩ := floor_near (V lo)
  obtain ⟨ce1, ce2⟩ := ceil_near (V hi)
  rw [<- el] at fl1 fl2
  rw [<- eh] at ce1 ce2
  have hcr : (fce hi : Rat) = (ffl lo : Rat) + 2 := by rw [hc]; push_cast; rfl
  have h0 : ffl lo + 1 = 0 := by
   apply Classical.byContradiction
   intro hk
   have := gap_int hl.bd.fin (k := ffl lo + 1) hk (by push_cast; exact fl2)
   push_cast at this
   grind
  have h1 : (ffl lo : Rat) = -1 := by
   have : ffl lo = -1 := by omega
   rw [this]; push_cast; rfl
  rw [(rowT_tinyA hl hh hd (by grind) (by grind) (by grind) (hw ⟨by grind, by grind⟩) hc).2.2 W base]
  have e : V d - V d = 0 := by grind
  rw [e]
  have : ab (0 : Rat) = 0 := by decide +kernel
  rw [this]
  grind
theorem frow_totG {W base x xn d : Nat} {B : Rat} (hx : XsG x) (hn : XsG xn) (hd : Bd d 0) (hw : WideAt0 x xn) (hB0 : 120 <= B) (hB1 : B <= 1024) (hbx : ab (V x) <= B) (hbn : ab (V xn) <= B) :
  ab (totR (valL (frow W base x xn d)) - V d) <= ab (V d) * (6 / 16777216) + 1 / 100000000000000000000000000 := by
 have h110 := one_110
 unfold frow
 split
 ·rename_i hc
  refine rowN_totS (rowN_nearG hx hn hd rfl hB0 hB1 hbx hbn hc) hd ?_
  have hl : XsG (flo x xn) := by rcases flo_fhi hx.bd.fin hn.bd.fin with ⟨e1, _, _⟩ | ⟨e1, _, _⟩ <;> rw [e1] <;> assumption
  have := (rowN_okG hx hn hl hd).2 W base (base + clampN (ffl (flo x xn) + 1) W, fop .mul d (fop .sub (fop .mul 1056964608 (fop .add x xn)) (floatOfInt .f32 (ffl (flo x xn))))) (by unfold frowN; simp)
  exact this
 ·rename_i hc
  rcases flo_fhi hx.bd.fin hn.bd.fin with ⟨e1, e2, h⟩ | ⟨e1, e2, h⟩
  ·rw [e1, e2] at hc ⊢
   obtain ⟨_, el, l1, l2⟩ := hx.fl
   obtain ⟨_, eh, h1, h2⟩ := hn.ce
   obtain ⟨fl1, fl2⟩ := floor_near (V x)
   obtain ⟨ce1, ce2⟩ := ceil_near (V xn)
   rw [<- el] at fl1 fl2
   rw [<- eh] at ce1 ce2
   have h3 := castLe (show ffl x + 2 <= fce xn by omega)
   push_cast at h3
   split
   ·exact rowT_totAny hx hn hd (by grind) hw.1 (by omega)
   ·have h4 := castLe (show ffl x + 3 <= fce xn by omega)
    push_cast at h4
    exact rowM_totS hx hn hd hB0 hB1 hbx hbn (by grind) (by grind) (by omega)
  ·rw [e1, e2] at hc ⊢
   obtain ⟨_, el, l1, l2⟩ := hn.fl
   obtain ⟨_, eh, h1, h2⟩ := hx.ce
   obtain ⟨fl1, fl2⟩ := floor_near (V xn)
   obtain ⟨ce1, ce2⟩ := ceil_near (V x)
   rw [<- el] at fl1 fl2
   rw [<- eh] at ce1 ce2
   have h3 := castLe (show ffl xn + 2 <= fce x by omega)
   push_cast at h3
   split
   ·exact rowT_totAny hn hx hd (by grind) hw.2 (by omega)
   ·have h4 := castLe (show ffl xn + 3 <= fce x by omega)
    push_cast at h4
    exact rowM_totS hn hx hd hB0 hB1 hbn hbx (by grind) (by grind) (by omega)
theorem ceil_floor (a : Rat) : ceilR a <= a.floor + 1 := by
 obtain ⟨f1, f2⟩ := floor_near a
 obtain ⟨c1, c2⟩ := ceil_near a
 have h : ((ceilR a : Int) : Rat) < ((a.floor + 2 : Int) : Rat) := by push_cast; grind
 have := Rat.intCast_lt_intCast.1 h
 omega
theorem R32.geF {x : Rat} {r a : Nat} (h : R32 x r) (ha : F32 a) (hx : V a <= x) : V a <= V r := Rounds.dn h _ (val_rep ha) hx
theorem R32.leF {x : Rat} {r a : Nat} (h : R32 x r) (ha : F32 a) (hx : x <= V a) : V r <= V a := Rounds.up h _ (val_rep ha) hx
section
variable {ax ay bx ey : Nat} {B : Rat} (h : GSpan ax ay bx ey B) (hB0 : 120 <= B) (hB1 : B <= 1024)
include h hB0 hB1
theorem OnG.part {n : Nat} {y : Int} {x dir : Nat} (ho : OnG ax ay bx ey B n y x) (h1 : (V ay).floor <= y) (h2 : y < ceilR (V ey)) (hn : n + 1 <= 2000) :
  ∃ p : Rat, R32 (V x + p) ((lnG dir ax ay bx ey).nx y x) /\ ab (p - slG ax ay bx ey * (pr y (V ey) - pr y (V ay))) <= ab (slG ax ay bx ey) * (pr y (V ey) - pr y (V ay)) * (6 / 16777216) + 1 / 1000000000000000000000000000 /\
   (0 <= V (slW ax ay bx ey) -> 0 <= p) /\ (V (slW ax ay bx ey) <= 0 -> p <= 0) := by
 obtain ⟨sl1, _, hlt⟩ := h.rows hB1
 obtain ⟨g1, g2, g3, g4, g5, g6⟩ := hg_row hlt h1 h2
 obtain ⟨q1, r1⟩ := h.dyR dir hB1 h1 h2
 obtain ⟨_, _, _, fS, _, s1, s2⟩ := h.slope_ok hB1
 have hbo := ho.bd h hB0 hB1 (by omega)
 have hdir : (lnG dir ax ay bx ey).nx y x = fop .add x (fop .mul ((lnG dir ax ay bx ey).dy y) (slW ax ay bx ey)) := rfl
 rw [hdir]
 generalize (lnG dir ax ay bx ey).dy y = dy at *
 obtain ⟨k, hk⟩ : ∃ k, k = pr y (V ey) - pr y (V ay) := ⟨_, rfl⟩
 rw [<- hk] at g3 g4 r1 ⊢
 obtain ⟨x3, x4⟩ := h.exact_bd hB1 (t := k) g3 (by grind)
 have nD := r1.nearG.2
 rw [ab_of_nonneg g3] at nD
 have hdy0 := r1.nonneg g3
 have hSb : ab (V (slW ax ay bx ey)) <= 3000000000 := by
  have k1 := ab_add_le (V (slW ax ay bx ey) - slG ax ay bx ey) (slG ax ay bx ey)
  have e1 : V (slW ax ay bx ey) - slG ax ay bx ey + slG ax ay bx ey = V (slW ax ay bx ey) := by grind
  rw [e1] at k1
  grind
 have hdyb : ab (V dy) <= 2 := by
  obtain ⟨c1, c2⟩ := ab_iff.1 nD
  rw [ab_of_nonneg hdy0]
  grind
 obtain ⟨q2, r2⟩ := fmul_ok r1.fin fS (big126 (by
  have : ab (V dy * V (slW ax ay bx ey)) <= 2 * 3000000000 := ab_mul_le hdyb hSb
  grind))
 have nP := r2.nearG.2
 have hpr := prod_ratG rfl g3 g4 s2 s1 nD nP
 have hPb : ab (V (fop .mul dy (slW ax ay bx ey))) <= 3 * B := by
  have k1 := ab_add_le (V (fop .mul dy (slW ax ay bx ey)) - slG ax ay bx ey * k) (slG ax ay bx ey * k)
  have e1 : V (fop .mul dy (slW ax ay bx ey)) - slG ax ay bx ey * k + slG ax ay bx ey * k = V (fop .mul dy (slW ax ay bx ey)) := by grind
  rw [e1, ab_mul (slG ax ay bx ey) k, ab_of_nonneg g3] at k1
  grind
 obtain ⟨q3, r3⟩ := fadd_ok ho.xs.bd.fin r2.fin (big126 (by
  have := ab_add_le (V x) (V (fop .mul dy (slW ax ay bx ey)))
  grind))
 refine ⟨_, r3, by grind, fun c => r2.nonneg (Rat.mul_nonneg hdy0 c), fun c => r2.nonpos ?_⟩
 have := Rat.mul_nonneg hdy0 (show 0 <= -V (slW ax ay bx ey) by grind)
 grind
end
section
variable {ax ay bx ey : Nat} (h : GSpan ax ay bx ey 129)
include h
end
theorem tot_ratC {A D k σ : Rat} (hk0 : 0 <= k) (hD : ab (D - σ * k) <= k * (1 / 16777216) + 1 / 100000000000000000000000000000000000000000000) (hb : ab D <= k * (1000001 / 1000000) + 1 / 100000000000000000000000000000000000000000000)
  (h : ab (A - D) <= ab D * (6 / 16777216) + 1 / 100000000000000000000000000) : ab (A - σ * k) <= k * (8 / 16777216) + 1 / 10000000000000000000000000 := by
 have e : A - σ * k = (A - D) + (D - σ * k) := by grind
 rw [e]
 have := ab_add_le (A - D) (D - σ * k)
 grind
theorem neg_ratC {A T D k σ : Rat} (hσ : σ = 1 ∨ σ = -1) (hk0 : 0 <= k) (hb : ab D <= k * (1000001 / 1000000) + 1 / 100000000000000000000000000000000000000000000) (hA : A <= ab D * (5001 / 5000) + 1 / 100000000000000000000000000)
  (h : ab (T - σ * k) <= k * (8 / 16777216) + 1 / 10000000000000000000000000) : A - σ * T <= k * (3 / 10000) + 1 / 1000000000000000000000000 := by
 obtain ⟨a1, a2⟩ := ab_iff.1 h
 rcases hσ with e | e <;> subst e <;> grind
section
variable {ax ay bx ey dir : Nat} {σ : Rat} (h : GSpan ax ay bx ey 129) (hd : DirW dir σ)
include h hd
end
section
variable {W H ax ay bx ey dir : Nat} {σ : Rat} (h : GSpan ax ay bx ey 129) (hd : DirW dir σ) (hH : H <= 64) (hy : ab (V ay) <= 128) (hy2 : ab (V ey) <= 128)
include h hd hH hy hy2
end
section
variable {W H : Nat} (hW : 0 < W) (hH : H <= 64)
include hW hH
end
end Go.Proofs.Ytmgcbodlolnheaa
