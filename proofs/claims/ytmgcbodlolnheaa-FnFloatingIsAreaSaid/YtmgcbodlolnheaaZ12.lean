/- Rows of a line in floating point: closer bounds of what they add. Rows of a line in floating point: their sums, how many additions meet the cells beside the mask, and that the others are met -/
import Derived.Test.YtmgcbodlolnheaaZ11
namespace Go.Proofs.Ytmgcbodlolnheaa
open Flt Go.RowKit
set_option linter.unusedVariables false
theorem sum5q {a b c d e D : Rat} (hD : 0 <= D) (h1 : ab a <= D * (3 / 16777216) + 1 / 1000000000000000000000000000000) (h2 : ab b <= D * (3 / 16777216) + 1 / 1000000000000000000000000000000) (h3 : ab c <= D * (5 / 16777216) + 1 / 400000000000000000000000000)
  (h4 : ab d <= D * (2 / 16777216)) (h5 : ab e <= D * (11 / 16777216)) : ab (a + (b + (c + (d + e)))) <= D * (27 / 16777216) + 1 / 10000000000000000000000000 := by
 have y1 := ab_add_le a (b + (c + (d + e)))
 have y2 := ab_add_le b (c + (d + e))
 have y3 := ab_add_le c (d + e)
 have y4 := ab_add_le d e
 grind
theorem rowT_cumF {W base d lo hi : Nat} (hl : XsG lo) (hh : XsG hi) (hd : Bd d 0) (hlt : V lo < V hi) (hw110 : p2 (-110) <= V hi - V lo) (hc : fce hi = ffl lo + 2) :
  ∀ X, X < W -> ab (sumR (valL (frowT W base d lo hi)) (base + X) - V d * mean ((X : Rat) + 1 - V lo) ((X : Rat) + 1 - V hi)) <= ab (V d) * (27 / 16777216) + 1 / 10000000000000000000000000 := by
 have hT := rowT_totS (W := W) (base := base) hl hh hd hlt hw110 hc
 obtain ⟨_, el, l1, l2⟩ := hl.fl
 obtain ⟨_, eh, h1, h2⟩ := hh.ce
 obtain ⟨fl1, fl2⟩ := floor_near (V lo)
 obtain ⟨ce1, ce2⟩ := ceil_near (V hi)
 rw [<- el] at fl1 fl2
 rw [<- eh] at ce1 ce2
 have G := low_partG hl
 have H := high_partG hh
 obtain ⟨s1, s2, s3, s4⟩ := inv_partG hl hh hw110
 have hcr : (fce hi : Rat) = (ffl lo : Rat) + 2 := by rw [hc]; push_cast; rfl
 obtain ⟨g, hg⟩ : ∃ g, g = (ffl lo : Rat) + 1 - V lo := ⟨_, rfl⟩
 obtain ⟨h, hhh⟩ : ∃ h, h = V hi - ((fce hi : Rat) - 1) := ⟨_, rfl⟩
 obtain ⟨w, hw⟩ : ∃ w, w = V hi - V lo := ⟨_, rfl⟩
 rw [<- hg] at G
 rw [<- hhh] at H
 rw [<- hw] at s4
 have hw0 : 0 < w := by grind
 have hwgh : w = g + h := by grind
 have hwb : w <= 100000 := by have := G.g1; have := H.g1; grind
 obtain ⟨s, hs, hs0⟩ := inv_of hw0
 obtain ⟨p1, p2', p3⟩ := half_partG s1 s2 s3 hw0 hwb s4
 have p4 : V (fop .mul 1056964608 (fop .quo 1065353216 (fop .sub hi lo))) <= 1500000000000000000000000000000000 := by
  obtain ⟨_, r⟩ := fmul_ok fhalf.1.fin s1 (big126G (by rw [fhalf.2]; exact ab_le (by grind) (by grind)))
  rw [fhalf.2] at r
  have n := r.near5.2
  rw [ab_of_nonneg (x := 1 / 2 * V (fop .quo 1065353216 (fop .sub hi lo))) (by grind)] at n
  obtain ⟨a, _⟩ := ab_iff.1 n
  grind
 obtain ⟨a1, a2, a3⟩ := quad_partG (w := w) (s := s) G p1 p2' p4 hw0 hs p3 (by have := H.g0; grind)
 obtain ⟨b1, b2, b3⟩ := quad_partG (w := w) (s := s) H p1 p2' p4 hw0 hs p3 (by have := G.g0; grind)
 obtain ⟨t1, t2, t3, t4, t5⟩ := tri_rat (Rat.le_of_lt G.g0) G.g1 (Rat.le_of_lt H.g0) H.g1 hs hs0 (by rw [hwgh]; exact Rat.le_refl)
 have hg0 := G.g0
 have hg1 := G.g1
 have hh0 := H.g0
 have hh1 := H.g1
 unfold frowT at hT ⊢
 generalize fop .mul (fop .mul (fop .mul 1056964608 (fop .quo 1065353216 (fop .sub hi lo))) (fop .sub 1065353216 (fop .sub lo (floatOfInt .f32 (ffl lo))))) (fop .sub 1065353216 (fop .sub lo (floatOfInt .f32 (ffl lo)))) = A at *
 generalize fop .mul (fop .mul (fop .mul 1056964608 (fop .quo 1065353216 (fop .sub hi lo))) (fop .add (fop .sub hi (floatOfInt .f32 (fce hi))) 1065353216)) (fop .add (fop .sub hi (floatOfInt .f32 (fce hi))) 1065353216) = M at *
 have hAM : s * (g + 1 / 2 - (1 - h) * (1 - h) / 2) = 1 - h * h / 2 * s := by
  have : s * (g + h) = 1 := by rw [<- hwgh]; exact hs
  grind
 have hA0 : s * (g * g / 2) = g * g / 2 * s := by grind
 generalize g * g / 2 * s = A0 at *
 generalize h * h / 2 * s = AM at *
 have hone : ab (V 1065353216 - 1) <= 0 := by rw [fone.2]; decide +kernel
 obtain ⟨f1, n1⟩ := subE (X := 1) (E := 18 / 16777216) fone.1.fin a1 hone a3 (ab_le (by grind) (by grind)) (by grind) (by grind)
 obtain ⟨f2, n2⟩ := subE (X := 1) (E := 36 / 16777216) f1 b1 n1 b3 (ab_le (by grind) (by grind)) (by grind) (by grind)
 have habA : ab (V A) <= 2 := by obtain ⟨x, y⟩ := ab_iff.1 a3; exact ab_le (by grind) (by grind)
 have habM : ab (V M) <= 2 := by obtain ⟨x, y⟩ := ab_iff.1 b3; exact ab_le (by grind) (by grind)
 have zz : ∀ z : Nat, ab (V z - V z) <= 0 := fun z => by have : V z - V z = 0 := by grind
                                                         rw [this]; decide +kernel
 obtain ⟨_, m1⟩ := subE (X := 11 / 10) (E := 2 / 16777216) fone.1.fin a1 hone (zz A) (by obtain ⟨x, y⟩ := ab_iff.1 a3; exact ab_le (by grind) (by grind)) (by grind) (by grind)
 obtain ⟨_, m2⟩ := subE (X := 11 / 10) (E := 2 / 16777216) f1 b1 (zz _) (zz M) (by obtain ⟨x, y⟩ := ab_iff.1 n1; obtain ⟨x2, y2⟩ := ab_iff.1 b3; exact ab_le (by grind) (by grind)) (by grind) (by grind)
 generalize hT1 : fop .sub 1065353216 A = T1 at *
 generalize hT2 : fop .sub T1 M = T2 at *
 obtain ⟨q0, v0⟩ := termE hd a1 a3 (ab_le (by grind) (by grind)) (by grind)
 obtain ⟨q1, v1⟩ := termE hd f2 n2 (ab_le (by grind) (by grind)) (by grind)
 obtain ⟨q2, v2⟩ := termE hd b1 b3 (ab_le (by grind) (by grind)) (by grind)
 have u0 := termX hd a1 habA
 have u1 := termX hd f2 (by obtain ⟨x, y⟩ := ab_iff.1 n2; exact ab_le (by grind) (by grind))
 have u2 := termX hd b1 habM
 generalize fop .mul d A = x0 at *
 generalize fop .mul d T2 = x1 at *
 generalize fop .mul d M = x2 at *
 have hD0 := ab_nonneg (V d)
 have hval : valL [(base + clampN (ffl lo) W, x0), (base + clampN (ffl lo + 1) W, x1), (base + clampN (fce hi) W, x2)] = [(base + clampN (ffl lo) W, V x0), (base + clampN (ffl lo + 1) W, V x1), (base + clampN (fce hi) W, V x2)] := rfl
 rw [hval] at hT
 simp only [totR] at hT
 intro X hX
 rw [hval, sumR_place hX, sumR_place hX, sumR_place hX]
 simp only [sumR]
 have hms := mean_s (z := (X : Rat) + 1) hs hw
 rcases Int.lt_or_le (X : Int) (ffl lo) with c | c
 ·have h3 := castLe (show (X : Int) + 1 <= ffl lo by omega)
  push_cast at h3
  rw [if_neg (by omega), if_neg (by omega), if_neg (by omega), mean_zero (by grind) (by grind)]
  have e : (0 : Rat) + (0 + (0 + 0)) - V d * 0 = 0 := by grind
  rw [e, ab_of_nonneg Rat.le_refl]
  grind
 ·rcases Int.lt_or_le (X : Int) (ffl lo + 1) with c2 | c2
  ·have h3 : (X : Rat) = (ffl lo : Rat) := by
    have : (X : Int) = ffl lo := by omega
    rw [<- this]; push_cast; rfl
   rw [if_pos (by omega), if_neg (by omega), if_neg (by omega), hms, kk_mid (z := (X : Rat) + 1 - V lo) (by grind) (by grind), kk_low (z := (X : Rat) + 1 - V hi) (by grind)]
   have e0 : (X : Rat) + 1 - V lo = g := by grind
   rw [e0]
   have e : V x0 + (0 + (0 + 0)) - V d * (s * (g * g / 2 - 0)) = V x0 - V d * A0 := by rw [<- hA0]; grind
   rw [e]
   grind
  ·rcases Int.lt_or_le (X : Int) (ffl lo + 2) with c3 | c3
   ·have h3 : (X : Rat) = (ffl lo : Rat) + 1 := by
     have : (X : Int) = ffl lo + 1 := by omega
     have := congrArg (fun z : Int => (z : Rat)) this
     push_cast at this
     exact this
    have e0 : (X : Rat) + 1 - V lo = g + 1 := by grind
    have e1 : (X : Rat) + 1 - V hi = 1 - h := by grind
    rw [if_pos (by omega), if_pos (by omega), if_neg (by omega), hms, kk_high (z := (X : Rat) + 1 - V lo) (by grind), kk_mid (z := (X : Rat) + 1 - V hi) (by grind) (by grind), e0, e1]
    have e2 : g + 1 - 1 / 2 - (1 - h) * (1 - h) / 2 = g + 1 / 2 - (1 - h) * (1 - h) / 2 := by grind
    rw [e2, hAM]
    have e : V x0 + (V x1 + (0 + 0)) - V d * (1 - AM) = (V x0 + (V x1 + (V x2 + 0)) - V d) + (-(V x2 - V d * AM)) := by grind
    rw [e]
    have k := ab_add_le (V x0 + (V x1 + (V x2 + 0)) - V d) (-(V x2 - V d * AM))
    rw [ab_neg] at k
    grind
   ·have h3 := castLe (show ffl lo + 2 <= (X : Int) by omega)
    push_cast at h3
    rw [if_pos (by omega), if_pos (by omega), if_pos (by omega), mean_one (by grind) (by grind)]
    have e : V x0 + (V x1 + (V x2 + 0)) - V d * 1 = V x0 + (V x1 + (V x2 + 0)) - V d := by grind
    rw [e]
    grind
set_option maxHeartbeats 1000000 in
theorem rowM_cumF {W base d lo hi N : Nat} {B : Rat} (hl : XsG lo) (hh : XsG hi) (hd : Bd d 0) (hB0 : 120 <= B) (hB1 : B <= 1024) (hbl : ab (V lo) <= B) (hbh : ab (V hi) <= B) (hlt : V lo < V hi) (hw110 : p2 (-110) <= V hi - V lo) (hN : fce hi = ffl lo + 3 + (N : Int)) :
  ∀ X, X < W -> ab (sumR (valL (frowM W base d lo hi N)) (base + X) - V d * mean ((X : Rat) + 1 - V lo) ((X : Rat) + 1 - V hi)) <= ab (V d) * (27 / 16777216) + 1 / 10000000000000000000000000 := by
 have hT := rowM_totS (W := W) (base := base) hl hh hd hB0 hB1 hbl hbh hlt hw110 hN
 obtain ⟨_, el, l1, l2⟩ := hl.fl
 obtain ⟨_, eh, h1, h2⟩ := hh.ce
 obtain ⟨fl1, fl2⟩ := floor_near (V lo)
 obtain ⟨ce1, ce2⟩ := ceil_near (V hi)
 rw [<- el] at fl1 fl2
 rw [<- eh] at ce1 ce2
 have G := low_partG hl
 have H := high_partG hh
 obtain ⟨fr1, fr2⟩ := frac_nearG hl
 obtain ⟨s1, s2, s3, s4⟩ := inv_partG hl hh hw110
 have hcr : (fce hi : Rat) = (ffl lo : Rat) + 3 + (N : Rat) := by rw [hN]; push_cast; rfl
 obtain ⟨g, hg⟩ : ∃ g, g = (ffl lo : Rat) + 1 - V lo := ⟨_, rfl⟩
 obtain ⟨h, hhh⟩ : ∃ h, h = V hi - ((fce hi : Rat) - 1) := ⟨_, rfl⟩
 obtain ⟨w, hw⟩ : ∃ w, w = V hi - V lo := ⟨_, rfl⟩
 rw [<- hg] at G
 rw [<- hhh] at H
 rw [<- hw] at s4
 have hg0 := G.g0
 have hg1 := G.g1
 have hh0 := H.g0
 have hh1 := H.g1
 have hNn : (0 : Rat) <= (N : Rat) := by exact_mod_cast Nat.zero_le N
 have hwgh : w = g + h + (N + 1) := by grind
 have hw0 : 0 < w := by grind
 have hw2 : w <= 2048 := by
  obtain ⟨x, y⟩ := ab_iff.1 hbl
  obtain ⟨x2, y2⟩ := ab_iff.1 hbh
  grind
 have hwb : w <= 100000 := by grind
 have hN2 : (N : Rat) <= 2048 := by grind
 obtain ⟨s, hs, hs0⟩ := inv_of hw0
 obtain ⟨p1, p2', p3⟩ := half_partG s1 s2 s3 hw0 hwb s4
 have p4 : V (fop .mul 1056964608 (fop .quo 1065353216 (fop .sub hi lo))) <= 1500000000000000000000000000000000 := by
  obtain ⟨_, r⟩ := fmul_ok fhalf.1.fin s1 (big126G (by rw [fhalf.2]; exact ab_le (by grind) (by grind)))
  rw [fhalf.2] at r
  have n := r.near5.2
  rw [ab_of_nonneg (x := 1 / 2 * V (fop .quo 1065353216 (fop .sub hi lo))) (by grind)] at n
  obtain ⟨a, _⟩ := ab_iff.1 n
  grind
 obtain ⟨a1, a2, a3⟩ := quad_partG (w := w) (s := s) G p1 p2' p4 hw0 hs p3 (by grind)
 obtain ⟨b1, b2, b3⟩ := quad_partG (w := w) (s := s) H p1 p2' p4 hw0 hs p3 (by grind)
 obtain ⟨t1, t2, t3, t4, t5⟩ := tri_rat (Rat.le_of_lt hg0) hg1 (Rat.le_of_lt hh0) hh1 hs hs0 (by grind)
 have hsN0 : 0 <= s * N := Rat.mul_nonneg (Rat.le_of_lt hs0) hNn
 have hsum : g * s + h * s + s * N + s = 1 := by
  have : s * (g + h + (N + 1)) = 1 := by rw [<- hwgh]; exact hs
  grind
 have hgs0 : 0 <= g * s := Rat.mul_nonneg (Rat.le_of_lt hg0) (Rat.le_of_lt hs0)
 have hhs0 : 0 <= h * s := Rat.mul_nonneg (Rat.le_of_lt hh0) (Rat.le_of_lt hs0)
 have hAle : g * g / 2 * s <= g * s := by
  have m1 := Rat.mul_le_mul_of_nonneg_left hg1 hgs0
  have e : g * g / 2 * s = 1 / 2 * (g * s * g) := by grind
  have m2 := Rat.mul_nonneg hgs0 (Rat.le_of_lt hg0)
  rw [e]
  grind
 have hMle : h * h / 2 * s <= h * s := by
  have m1 := Rat.mul_le_mul_of_nonneg_left hh1 hhs0
  have e : h * h / 2 * s = 1 / 2 * (h * s * h) := by grind
  have m2 := Rat.mul_nonneg hhs0 (Rat.le_of_lt hh0)
  rw [e]
  grind
 have hS : ab (V (fop .quo 1065353216 (fop .sub hi lo)) - s) <= s * (3 / 16777216) := by
  have e : V (fop .quo 1065353216 (fop .sub hi lo)) - s = (V (fop .quo 1065353216 (fop .sub hi lo)) * w - 1) * s := by
   have : (V (fop .quo 1065353216 (fop .sub hi lo)) * w - 1) * s = V (fop .quo 1065353216 (fop .sub hi lo)) * (s * w) - s := by grind
   rw [this, hs]
   grind
  rw [e, ab_mul, ab_of_nonneg (Rat.le_of_lt hs0)]
  have := Rat.mul_le_mul_of_nonneg_right s4 (Rat.le_of_lt hs0)
  grind
 have hs1 : s <= 1 := by grind
 have hS3 : ab (V (fop .quo 1065353216 (fop .sub hi lo)) - s) <= 3 / 16777216 := by grind
 obtain ⟨k1, k2⟩ := ofInt_bd (n := fce hi - ffl lo - 3) (k := 17) (by decide) (by omega) (by omega)
 have k3 : V (floatOfInt .f32 (fce hi - ffl lo - 3)) = N := by
  rw [k2]
  have : fce hi - ffl lo - 3 = (N : Int) := by omega
  rw [this]
  push_cast
  rfl
 unfold frowM at hT ⊢
 generalize fop .mul (fop .mul (fop .mul 1056964608 (fop .quo 1065353216 (fop .sub hi lo))) (fop .sub 1065353216 (fop .sub lo (floatOfInt .f32 (ffl lo))))) (fop .sub 1065353216 (fop .sub lo (floatOfInt .f32 (ffl lo)))) = A at *
 generalize fop .mul (fop .mul (fop .mul 1056964608 (fop .quo 1065353216 (fop .sub hi lo))) (fop .add (fop .sub hi (floatOfInt .f32 (fce hi))) 1065353216)) (fop .add (fop .sub hi (floatOfInt .f32 (fce hi))) 1065353216) = M at *
 generalize fop .quo 1065353216 (fop .sub hi lo) = S at *
 generalize fop .sub lo (floatOfInt .f32 (ffl lo)) = F at *
 generalize floatOfInt .f32 (fce hi - ffl lo - 3) = K at *
 have hAM : s * (g + N + 3 / 2 - (1 - h) * (1 - h) / 2) = 1 - h * h / 2 * s := by grind
 have hA0 : s * (g * g / 2) = g * g / 2 * s := by grind
 have hone : ab (V 1065353216 - 1) <= 0 := by rw [fone.2]; decide +kernel
 have h15 : ab (V 1069547520 - 3 / 2) <= 0 := by
  rw [f15.2]
  have : (3 : Rat) / 2 - 3 / 2 = 0 := by grind
  rw [this]; decide +kernel
 have zz : ∀ z : Nat, ab (V z - V z) <= 0 := fun z => by have : V z - V z = 0 := by grind
                                                         rw [this]; decide +kernel
 obtain ⟨c1, c2⟩ := subE (X := 3 / 2) (E := 4 / 16777216) f15.1.fin fr1 h15 fr2 (ab_le (by grind) (by grind)) (by grind) (by grind)
 have e15 : (3 : Rat) / 2 - (V lo - (ffl lo : Rat)) = g + 1 / 2 := by grind
 rw [e15] at c2
 generalize fop .sub 1069547520 F = L at *
 obtain ⟨d1, d2⟩ := mulE (X := 1) (Y := 3 / 2) (e := 3 / 16777216) (f := 4 / 16777216) (E := 11 / 16777216) s1 c1 hS3 c2 (ab_le hs1 (by grind)) (ab_le (by grind) (by grind)) (by decide +kernel) (by decide +kernel) (by decide +kernel) (by decide +kernel)
 have ea1 : s * (g + 1 / 2) = g * s + s / 2 := by grind
 rw [ea1] at d2
 generalize fop .mul S L = C at *
 generalize hgA : g * g / 2 * s = A0 at *
 generalize hgM : h * h / 2 * s = AM at *
 generalize hgs : g * s = gs at *
 generalize hhs : h * s = hs' at *
 generalize hsN : s * (N : Rat) = sN at *
 obtain ⟨g1', g2'⟩ := subE (X := 3 / 2) (E := 29 / 16777216) d1 a1 d2 a3 (ab_le (by grind) (by grind)) (by grind) (by grind)
 obtain ⟨_, g3'⟩ := subE (X := 8 / 5) (E := 2 / 16777216) d1 a1 (zz C) (zz A) (by obtain ⟨x, y⟩ := ab_iff.1 a3; obtain ⟨x2, y2⟩ := ab_iff.1 d2; exact ab_le (by grind) (by grind)) (by grind) (by grind)
 generalize fop .sub C A = CA at *
 have hSN : ab (V S * N) <= 11 / 10 := by
  have e : V S * N = (V S - s) * N + sN := by rw [<- hsN]; grind
  have j1 : ab ((V S - s) * N) <= s * (3 / 16777216) * N := ab_mul_le hS (by rw [ab_of_nonneg hNn]; exact Rat.le_refl)
  have j2 : s * (3 / 16777216) * N = sN * (3 / 16777216) := by rw [<- hsN]; grind
  have j3 := ab_add_le ((V S - s) * N) sN
  rw [ab_of_nonneg hsN0] at j3
  rw [e]
  grind
 obtain ⟨_, rN⟩ := fmul_ok s1 k1.fin (big126G (by rw [k3]; grind))
 rw [k3] at rN
 have nN := rN.near5.2
 have hSNd : ab (V S * N - sN) <= 3 / 16777216 := by
  have e : V S * N - sN = (V S - s) * N := by rw [<- hsN]; grind
  have j1 : ab ((V S - s) * N) <= s * (3 / 16777216) * N := ab_mul_le hS (by rw [ab_of_nonneg hNn]; exact Rat.le_refl)
  have j2 : s * (3 / 16777216) * N = sN * (3 / 16777216) := by rw [<- hsN]; grind
  rw [e]
  grind
 have fN := rN.fin
 generalize fop .mul S K = Z at *
 have nN2 : ab (V Z - V S * N) <= 2 / 16777216 := by grind
 have nN1 : ab (V Z - sN) <= 5 / 16777216 := by
  have e : V Z - sN = (V Z - V S * N) + (V S * N - sN) := by grind
  have j := ab_add_le (V Z - V S * N) (V S * N - sN)
  rw [<- e] at j
  grind
 obtain ⟨i1, i2⟩ := addE (X := 1) (E := 18 / 16777216) d1 fN d2 nN1 (ab_le (by grind) (by grind)) (by grind) (by grind)
 obtain ⟨_, i3⟩ := addE (X := 11 / 10) (E := 2 / 16777216) d1 fN (zz C) (zz Z) (by obtain ⟨x, y⟩ := ab_iff.1 nN1; obtain ⟨x2, y2⟩ := ab_iff.1 d2; exact ab_le (by grind) (by grind)) (by grind) (by grind)
 generalize fop .add C Z = A2 at *
 obtain ⟨j1, j2⟩ := subE (X := 1) (E := 20 / 16777216) fone.1.fin i1 hone i2 (ab_le (by grind) (by grind)) (by grind) (by grind)
 obtain ⟨_, j3⟩ := subE (X := 11 / 10) (E := 2 / 16777216) fone.1.fin i1 hone (zz A2) (by obtain ⟨x, y⟩ := ab_iff.1 i2; exact ab_le (by grind) (by grind)) (by grind) (by grind)
 generalize fop .sub 1065353216 A2 = U1 at *
 obtain ⟨o1, o2⟩ := subE (X := 1) (E := 38 / 16777216) j1 b1 j2 b3 (ab_le (by grind) (by grind)) (by grind) (by grind)
 obtain ⟨_, o3⟩ := subE (X := 11 / 10) (E := 2 / 16777216) j1 b1 (zz U1) (zz M) (by obtain ⟨x, y⟩ := ab_iff.1 j2; obtain ⟨x2, y2⟩ := ab_iff.1 b3; exact ab_le (by grind) (by grind)) (by grind) (by grind)
 generalize fop .sub U1 M = U2 at *
 obtain ⟨q0, v0⟩ := termE hd a1 a3 (ab_le (by grind) (by grind)) (by grind)
 obtain ⟨q1, v1⟩ := termE hd g1' g2' (ab_le (by grind) (by grind)) (by grind)
 obtain ⟨q3, v3⟩ := termE hd o1 o2 (ab_le (by grind) (by grind)) (by grind)
 obtain ⟨q4, v4⟩ := termE hd b1 b3 (ab_le (by grind) (by grind)) (by grind)
 have u0 := termX hd a1 (by obtain ⟨x, y⟩ := ab_iff.1 a3; exact ab_le (by grind) (by grind))
 have u1 := termX hd g1' (by obtain ⟨x, y⟩ := ab_iff.1 g2'; exact ab_le (by grind) (by grind))
 have u3 := termX hd o1 (by obtain ⟨x, y⟩ := ab_iff.1 o2; exact ab_le (by grind) (by grind))
 have u4 := termX hd b1 (by obtain ⟨x, y⟩ := ab_iff.1 b3; exact ab_le (by grind) (by grind))
 have hD : ab (V d) <= 1 := by have := hd.ab; rwa [p2_zero] at this
 have hD0 := ab_nonneg (V d)
 have hVS : 0 <= V S /\ V S <= s * (1001 / 1000) := by
  obtain ⟨x, y⟩ := ab_iff.1 hS
  exact ⟨by grind, by grind⟩
 have hmS : ab (V d * V S) <= ab (V d) * (s * (1001 / 1000)) := ab_mul_le Rat.le_refl (by rw [ab_of_nonneg hVS.1]; exact hVS.2)
 have hmS2 : ab (V d) * (s * (1001 / 1000)) <= 1 * (s * (1001 / 1000)) := Rat.mul_le_mul_of_nonneg_right hD (by grind)
 obtain ⟨_, rS⟩ := fmul_ok hd.fin s1 (big126G (by grind))
 have nS := rS.near5.2
 generalize fop .mul d A = x0 at *
 generalize fop .mul d CA = x1 at *
 generalize fop .mul d S = xS at *
 generalize fop .mul d U2 = x3 at *
 generalize fop .mul d M = x4 at *
 have fills : ∀ k : Rat, 0 <= k -> k <= N -> ab (V xS * k - V d * (V S * k)) <= ab (V d) * (2 / 16777216) + 1 / 400000000000000000000000000 /\ ab (V xS * k - V d * (s * k)) <= ab (V d) * (5 / 16777216) + 1 / 400000000000000000000000000 := by
  intro k hk0 hkN
  have hsk : s * k <= 1 := by
   have := Rat.mul_le_mul_of_nonneg_left hkN (Rat.le_of_lt hs0)
   grind
  have hsk0 : 0 <= s * k := Rat.mul_nonneg (Rat.le_of_lt hs0) hk0
  have e1 : V xS * k - V d * (V S * k) = (V xS - V d * V S) * k := by grind
  have m1 : ab ((V xS - V d * V S) * k) <= (ab (V d * V S) * (1 / 16777216) + 1 / 1000000000000000000000000000000) * k := ab_mul_le nS (by rw [ab_of_nonneg hk0]; exact Rat.le_refl)
  have m2 : ab (V d * V S) * k <= ab (V d) * (s * (1001 / 1000)) * k := Rat.mul_le_mul_of_nonneg_right hmS hk0
  have e2 : ab (V d) * (s * (1001 / 1000)) * k = ab (V d) * (s * k) * (1001 / 1000) := by grind
  have m3 : ab (V d) * (s * k) <= ab (V d) * 1 := Rat.mul_le_mul_of_nonneg_left hsk hD0
  have e3 : (ab (V d * V S) * (1 / 16777216) + 1 / 1000000000000000000000000000000) * k = ab (V d * V S) * k * (1 / 16777216) + k * (1 / 1000000000000000000000000000000) := by grind
  have h1 : ab (V xS * k - V d * (V S * k)) <= ab (V d) * (2 / 16777216) + 1 / 400000000000000000000000000 := by
   rw [e1]
   generalize ab ((V xS - V d * V S) * k) = z1 at *
   generalize ab (V d * V S) * k = z2 at *
   generalize ab (V d) * (s * k) = z3 at *
   grind
  refine ⟨h1, ?_⟩
  have e4 : V xS * k - V d * (s * k) = (V xS * k - V d * (V S * k)) + V d * ((V S - s) * k) := by grind
  have m4 : ab ((V S - s) * k) <= s * (3 / 16777216) * k := ab_mul_le hS (by rw [ab_of_nonneg hk0]; exact Rat.le_refl)
  have e5 : s * (3 / 16777216) * k = s * k * (3 / 16777216) := by grind
  have m5 : ab (V d * ((V S - s) * k)) <= ab (V d) * (3 / 16777216) := ab_mul_le Rat.le_refl (by rw [e5] at m4; grind)
  have j := ab_add_le (V xS * k - V d * (V S * k)) (V d * ((V S - s) * k))
  rw [e4]
  grind
 have hval : valL ([(base + clampN (ffl lo) W, x0), (base + clampN (ffl lo + 1) W, x1)] ++ ffill base W (ffl lo + 2) xS N ++ [(base + clampN (fce hi - 1) W, x3), (base + clampN (fce hi) W, x4)]) =
   [(base + clampN (ffl lo) W, V x0), (base + clampN (ffl lo + 1) W, V x1)] ++ valL (ffill base W (ffl lo + 2) xS N) ++ [(base + clampN (fce hi - 1) W, V x3), (base + clampN (fce hi) W, V x4)] := by
  rw [valL_append, valL_append]
  rfl
 obtain ⟨ft, fa, flen⟩ := totR_fill base W (ffl lo + 2) xS N
 have fN' := fills N hNn Rat.le_refl
 rw [hval, totR_append, totR_append, ft] at hT
 simp only [totR] at hT
 intro X hX
 rw [hval, sumR_append, sumR_append, sumR_place hX, sumR_place hX, sumR_place hX, sumR_place hX, sumR_fill hX]
 simp only [sumR]
 have hms := mean_s (z := (X : Rat) + 1) hs hw
 rcases Int.lt_or_le (X : Int) (ffl lo) with c | c
 ·have h3 := castLe (show (X : Int) + 1 <= ffl lo by omega)
  push_cast at h3
  have eu : upTo X (ffl lo + 2) N = 0 := by unfold upTo imin imax; split <;> split <;> omega
  rw [if_neg (by omega), if_neg (by omega), if_neg (by omega), if_neg (by omega), mean_zero (by grind) (by grind), eu, cast_zero]
  have e : (0 : Rat) + (0 + 0) + V xS * 0 + (0 + (0 + 0)) - V d * 0 = 0 := by grind
  rw [e, ab_of_nonneg Rat.le_refl]
  clear fills
  grind
 ·rcases Int.lt_or_le (X : Int) (ffl lo + 1) with c2 | c2
  ·have h3 : (X : Rat) = (ffl lo : Rat) := by
    have : (X : Int) = ffl lo := by omega
    rw [<- this]; push_cast; rfl
   have eu : upTo X (ffl lo + 2) N = 0 := by unfold upTo imin imax; split <;> split <;> omega
   rw [if_pos (by omega), if_neg (by omega), if_neg (by omega), if_neg (by omega), hms, kk_mid (z := (X : Rat) + 1 - V lo) (by grind) (by grind), kk_low (z := (X : Rat) + 1 - V hi) (by grind), eu, cast_zero]
   have e0 : (X : Rat) + 1 - V lo = g := by grind
   rw [e0]
   have e : V x0 + (0 + 0) + V xS * 0 + (0 + (0 + 0)) - V d * (s * (g * g / 2 - 0)) = V x0 - V d * A0 := by rw [<- hA0]; grind
   rw [e]
   clear fills
   grind
  ·rcases Int.lt_or_le (X : Int) (ffl lo + 2 + (N : Int)) with c3 | c3
   ·
    obtain ⟨k, hk⟩ : ∃ k : Nat, (X : Int) = ffl lo + 1 + (k : Int) := ⟨((X : Int) - ffl lo - 1).toNat, by omega⟩
    have hkN : k <= N := by omega
    have hkN2 : (k : Rat) <= (N : Rat) := by exact_mod_cast hkN
    have hk0 : (0 : Rat) <= (k : Rat) := by exact_mod_cast Nat.zero_le k
    have h3 : (X : Rat) = (ffl lo : Rat) + 1 + (k : Rat) := by
     have := congrArg (fun z : Int => (z : Rat)) hk
     push_cast at this
     exact this
    have eu : upTo X (ffl lo + 2) N = (k : Int) := by unfold upTo imin imax; split <;> split <;> omega
    have euR : ((upTo X (ffl lo + 2) N : Int) : Rat) = (k : Rat) := by rw [eu]; push_cast; rfl
    obtain ⟨_, fk⟩ := fills k hk0 hkN2
    rw [if_pos (by omega), if_pos (by omega), if_neg (by omega), if_neg (by omega), hms, kk_high (z := (X : Rat) + 1 - V lo) (by grind), kk_low (z := (X : Rat) + 1 - V hi) (by grind), euR]
    have e : V x0 + (V x1 + 0) + V xS * (k : Rat) + (0 + (0 + 0)) - V d * (s * ((X : Rat) + 1 - V lo - 1 / 2 - 0)) = (V x0 - V d * V A) + ((V x1 - V d * V CA) + ((V xS * k - V d * (s * k)) + (V d * (V CA - (V C - V A)) + V d * (V C - (gs + s / 2))))) := by
     have : (X : Rat) + 1 - V lo - 1 / 2 - 0 = g + 1 / 2 + k := by grind
     rw [this, <- hgs]
     grind
    rw [e]
    have k1 : ab (V d * (V CA - (V C - V A))) <= ab (V d) * (2 / 16777216) := ab_mul_le Rat.le_refl g3'
    have k2 : ab (V d * (V C - (gs + s / 2))) <= ab (V d) * (11 / 16777216) := ab_mul_le Rat.le_refl d2
    exact sum5q (ab_nonneg _) u0 u1 fk k1 k2
   ·rcases Int.lt_or_le (X : Int) (fce hi) with c4 | c4
    ·have h3 : (X : Rat) = (ffl lo : Rat) + 2 + (N : Rat) := by
      have : (X : Int) = ffl lo + 2 + (N : Int) := by omega
      have := congrArg (fun z : Int => (z : Rat)) this
      push_cast at this
      exact this
     have e0 : (X : Rat) + 1 - V lo = g + N + 2 := by grind
     have e1 : (X : Rat) + 1 - V hi = 1 - h := by grind
     have eu : upTo X (ffl lo + 2) N = (N : Int) := by unfold upTo imin imax; split <;> split <;> omega
     have euR : ((upTo X (ffl lo + 2) N : Int) : Rat) = (N : Rat) := by rw [eu]; push_cast; rfl
     rw [if_pos (by omega), if_pos (by omega), if_pos (by omega), if_neg (by omega), hms, kk_high (z := (X : Rat) + 1 - V lo) (by grind), kk_mid (z := (X : Rat) + 1 - V hi) (by grind) (by grind), e0, e1, euR]
     have e2 : g + N + 2 - 1 / 2 - (1 - h) * (1 - h) / 2 = g + N + 3 / 2 - (1 - h) * (1 - h) / 2 := by grind
     rw [e2, hAM]
     have e : V x0 + (V x1 + 0) + V xS * (N : Rat) + (V x3 + (0 + 0)) - V d * (1 - AM) = (V x0 + (V x1 + 0) + V xS * (N : Rat) + (V x3 + (V x4 + 0)) - V d) + (-(V x4 - V d * AM)) := by grind
     rw [e]
     have y1 := ab_add_le (V x0 + (V x1 + 0) + V xS * (N : Rat) + (V x3 + (V x4 + 0)) - V d) (-(V x4 - V d * AM))
     rw [ab_neg] at y1
     clear fills
     grind
    ·have h3 := castLe (show fce hi <= (X : Int) by omega)
     push_cast at h3
     have eu : upTo X (ffl lo + 2) N = (N : Int) := by unfold upTo imin imax; split <;> split <;> omega
     have euR : ((upTo X (ffl lo + 2) N : Int) : Rat) = (N : Rat) := by rw [eu]; push_cast; rfl
     rw [if_pos (by omega), if_pos (by omega), if_pos (by omega), if_pos (by omega), mean_one (by grind) (by grind), euR]
     have e : V x0 + (V x1 + 0) + V xS * (N : Rat) + (V x3 + (V x4 + 0)) - V d * 1 = V x0 + (V x1 + 0) + V xS * (N : Rat) + (V x3 + (V x4 + 0)) - V d := by grind
     rw [e]
     clear fills
     grind
theorem rowT_cumAny {W base d lo hi : Nat} (hl : XsG lo) (hh : XsG hi) (hd : Bd d 0) (hlt : V lo < V hi) (hw : V lo < 0 /\ 0 < V hi -> p2 (-125) <= V hi - V lo) (hc : fce hi = ffl lo + 2) :
  ∀ X, X < W -> ab (sumR (valL (frowT W base d lo hi)) (base + X) - V d * mean ((X : Rat) + 1 - V lo) ((X : Rat) + 1 - V hi)) <= ab (V d) * (128 / 16777216) + 1 / 10000000000000000000000000 /\
   (p2 (-110) <= V hi - V lo -> ab (sumR (valL (frowT W base d lo hi)) (base + X) - V d * mean ((X : Rat) + 1 - V lo) ((X : Rat) + 1 - V hi)) <= ab (V d) * (27 / 16777216) + 1 / 10000000000000000000000000) := by
 intro X hX
 refine ⟨?_, fun h => rowT_cumF hl hh hd hlt h hc X hX⟩
 have h := ((rowT_any hl hh hd hlt hw hc).2 W base 120 (by decide)).cum X hX
 have e : ((120 : Rat) + 8) / 16777216 = 128 / 16777216 := by decide +kernel
 rw [e] at h
 grind
theorem ffill_idx (base W : Nat) (x0 : Int) (v : Nat) : ∀ N : Nat, (ffill base W x0 v N).map Prod.fst = (List.range N).map (fun j => base + clampN (x0 + ((j : Nat) : Int)) W)
 | 0 => rfl
 | N + 1 => by rw [ffill, List.map_append, ffill_idx base W x0 v N, List.range_succ, List.map_append]; rfl
theorem range_two {α : Type} (f : Nat -> α) : (List.range 2).map f = [f 0, f 1] := rfl
theorem range_three {α : Type} (f : Nat -> α) : (List.range 3).map f = [f 0, f 1, f 2] := rfl
theorem range_mid {α : Type} (f : Nat -> α) (N : Nat) : (List.range (N + 4)).map f = [f 0, f 1] ++ (List.range N).map (fun j => f (2 + j)) ++ [f (N + 2), f (N + 3)] := by
 have h1 : N + 4 = (2 + N) + 2 := by omega
 rw [h1, List.range_add, List.range_add, List.map_append, List.map_append, List.map_map, List.map_map]
 have e1 : 2 + N + 0 = N + 2 := by omega
 have e2 : 2 + N + 1 = N + 3 := by omega
 show _ ++ _ ++ [f (2 + N + 0), f (2 + N + 1)] = _
 rw [e1, e2]
 rfl
theorem frow_idx {W base x xn d : Nat} (hx : XsG x) (hn : XsG xn) (hle : V x <= V xn ∨ V xn <= V x) : ∃ (a : Int) (m : Nat), (frow W base x xn d).map Prod.fst = (List.range m).map (fun j => base + clampN (a + ((j : Nat) : Int)) W) /\
  a = (if V x <= V xn then V x else V xn).floor /\ ((m = 2 /\ ceilR (if V x <= V xn then V xn else V x) <= a + 1) ∨ (m : Int) = ceilR (if V x <= V xn then V xn else V x) - a + 1 /\ a + 2 <= ceilR (if V x <= V xn then V xn else V x)) := by
 have key : ∀ {lo hi : Nat}, XsG lo -> XsG hi -> flo x xn = lo -> fhi x xn = hi -> ∃ (a : Int) (m : Nat), (frow W base x xn d).map Prod.fst = (List.range m).map (fun j => base + clampN (a + ((j : Nat) : Int)) W) /\
   a = (V lo).floor /\ ((m = 2 /\ ceilR (V hi) <= a + 1) ∨ (m : Int) = ceilR (V hi) - a + 1 /\ a + 2 <= ceilR (V hi)) := by
  intro lo hi h1 h2 e1 e2
  obtain ⟨_, el, _, _⟩ := h1.fl
  obtain ⟨_, eh, _, _⟩ := h2.ce
  unfold frow
  rw [e1, e2]
  split
  ·refine ⟨ffl lo, 2, ?_, el, .inl ⟨rfl, by omega⟩⟩
   unfold frowN
   rw [range_two]
   simp only [List.map_cons, List.map_nil]
   have : ffl lo + ((0 : Nat) : Int) = ffl lo := by omega
   rw [this]
   rfl
  ·split
   ·have hc : fce hi = ffl lo + 2 := by omega
    refine ⟨ffl lo, 3, ?_, el, .inr ⟨by omega, by omega⟩⟩
    unfold frowT
    rw [range_three]
    simp only [List.map_cons, List.map_nil]
    have : ffl lo + ((0 : Nat) : Int) = ffl lo := by omega
    rw [this, hc]
    rfl
   ·obtain ⟨N, hN⟩ : ∃ N : Nat, fce hi = ffl lo + 3 + (N : Int) := ⟨(fce hi - ffl lo - 3).toNat, by omega⟩
    have eN : (fce hi - ffl lo - 3).toNat = N := by omega
    refine ⟨ffl lo, N + 4, ?_, el, .inr ⟨by push_cast; omega, by omega⟩⟩
    unfold frowM
    rw [range_mid, List.map_append, List.map_append, ffill_idx, eN]
    simp only [List.map_cons, List.map_nil]
    have z1 : ffl lo + ((0 : Nat) : Int) = ffl lo := by omega
    have z2 : fce hi - 1 = ffl lo + ((N + 2 : Nat) : Int) := by push_cast; omega
    have z3 : fce hi = ffl lo + ((N + 3 : Nat) : Int) := by push_cast; omega
    rw [z1, z2, z3]
    congr 1
    congr 1
    refine List.map_congr_left fun j _ => ?_
    have : ffl lo + 2 + ((j : Nat) : Int) = ffl lo + ((2 + j : Nat) : Int) := by push_cast; omega
    rw [this]
 rcases flo_fhi hx.bd.fin hn.bd.fin with ⟨e1, e2, h⟩ | ⟨e1, e2, h⟩
 ·rw [if_pos h, if_pos h]
  exact key hx hn e1 e2
 ·by_cases h' : V x <= V xn
  ·have he : V x = V xn := by grind
   rw [if_pos h', if_pos h', he]
   have := key hn hx e1 e2
   rw [he] at this
   exact this
  ·rw [if_neg h', if_neg h']
   exact key hn hx e1 e2
theorem frow_left {W base x xn d X : Nat} (hx : XsG x) (hn : XsG xn) (h1 : V x < 0) (h2 : V xn < 0) : sumR (valL (frow W base x xn d)) (base + X) = totR (valL (frow W base x xn d)) := by
 obtain ⟨a, m, e1, e2, e3⟩ := frow_idx (W := W) (base := base) (d := d) hx hn (Rat.le_total)
 refine sumR_all fun q hq => ?_
 obtain ⟨p, hp, rfl⟩ := List.mem_map.1 hq
 have hm : p.1 ∈ (frow W base x xn d).map Prod.fst := List.mem_map_of_mem hp
 rw [e1] at hm
 obtain ⟨j, hj, ej⟩ := List.mem_map.1 hm
 have hj : j < m := List.mem_range.1 hj
 have hlo : (if V x <= V xn then V x else V xn) < 0 := by split <;> assumption
 have hhi : (if V x <= V xn then V xn else V x) < 0 := by split <;> assumption
 have f1 := floor_near (if V x <= V xn then V x else V xn)
 have c1 := ceil_near (if V x <= V xn then V xn else V x)
 have ha : a <= -1 := by
  have : ((a : Int) : Rat) < ((0 : Int) : Rat) := by rw [e2]; push_cast; grind
  have := Rat.intCast_lt_intCast.1 this
  omega
 have hc : ceilR (if V x <= V xn then V xn else V x) <= 0 := by
  have : ((ceilR (if V x <= V xn then V xn else V x) : Int) : Rat) < ((1 : Int) : Rat) := by push_cast; grind
  have := Rat.intCast_lt_intCast.1 this
  omega
 have hk : a + (j : Int) <= 0 := by omega
 have : clampN (a + (j : Int)) W = 0 := by
  unfold clampN
  split
  ·rfl
  ·split <;> omega
 show p.1 <= base + X
 rw [<- ej, this]
 omega
theorem frow_right {W base x xn d X : Nat} (hX : X < W) (hx : XsG x) (hn : XsG xn) (h1 : (W : Rat) < V x) (h2 : (W : Rat) < V xn) : sumR (valL (frow W base x xn d)) (base + X) = 0 := by
 obtain ⟨a, m, e1, e2, e3⟩ := frow_idx (W := W) (base := base) (d := d) hx hn (Rat.le_total)
 refine sumR_none fun q hq => ?_
 obtain ⟨p, hp, rfl⟩ := List.mem_map.1 hq
 have hm : p.1 ∈ (frow W base x xn d).map Prod.fst := List.mem_map_of_mem hp
 rw [e1] at hm
 obtain ⟨j, hj, ej⟩ := List.mem_map.1 hm
 have hlo : (W : Rat) < (if V x <= V xn then V x else V xn) := by split <;> assumption
 have f1 := floor_near (if V x <= V xn then V x else V xn)
 have ha : (W : Int) <= a := by
  have : (((W : Int) : Int) : Rat) < ((a + 1 : Int) : Rat) := by rw [e2]; push_cast; grind
  have := Rat.intCast_lt_intCast.1 this
  omega
 have : clampN (a + (j : Int)) W = W := by
  unfold clampN
  rw [if_neg (by omega), if_neg (by omega)]
 show base + X < p.1
 rw [<- ej, this]
 omega
theorem frow_cumF {W base x xn d : Nat} {B : Rat} (hx : XsG x) (hn : XsG xn) (hd : Bd d 0) (hw : WideAt0 x xn) (hB0 : 120 <= B) (hB1 : B <= 1024) (hbx : ab (V x) <= B) (hbn : ab (V xn) <= B) :
  ∃ c : Rat, (c = 27 ∨ (c = B + 8 /\ ab (V xn - V x) <= 1 /\ (0 <= V x ∨ 0 <= V xn) /\ (V x <= W ∨ V xn <= W))) /\ ∀ X, X < W -> ab (sumR (valL (frow W base x xn d)) (base + X) - V d * mean ((X : Rat) + 1 - V x) ((X : Rat) + 1 - V xn)) <= ab (V d) * (c / 16777216) + 1 / 10000000000000000000000000 := by
 have hRN := frow_nearG (W := W) (base := base) hx hn hd hw hB0 hB1 hbx hbn
 have hD0 := ab_nonneg (V d)
 have narrow : ab (V xn - V x) <= 1 -> ∃ c : Rat, (c = 27 ∨ (c = B + 8 /\ ab (V xn - V x) <= 1 /\ (0 <= V x ∨ 0 <= V xn) /\ (V x <= W ∨ V xn <= W))) /\ ∀ X, X < W -> ab (sumR (valL (frow W base x xn d)) (base + X) - V d * mean ((X : Rat) + 1 - V x) ((X : Rat) + 1 - V xn)) <= ab (V d) * (c / 16777216) + 1 / 10000000000000000000000000 := by
  intro h
  by_cases hL : V x < 0 /\ V xn < 0
  ·refine ⟨27, .inl rfl, fun X hX => ?_⟩
   have hX0 : (0 : Rat) <= X := by exact_mod_cast Nat.zero_le X
   rw [frow_left hx hn hL.1 hL.2, mean_one (by grind) (by grind)]
   have := frow_totG (W := W) (base := base) hx hn hd hw hB0 hB1 hbx hbn
   have e : V d * 1 = V d := by grind
   rw [e]
   grind
  ·by_cases hR : (W : Rat) < V x /\ (W : Rat) < V xn
   ·refine ⟨27, .inl rfl, fun X hX => ?_⟩
    have hXW : (X : Rat) + 1 <= W := by exact_mod_cast hX
    rw [frow_right hX hx hn hR.1 hR.2, mean_zero (by grind) (by grind)]
    have e : (0 : Rat) - V d * 0 = 0 := by grind
    rw [e, ab_of_nonneg (Rat.le_refl)]
    grind
   ·refine ⟨B + 8, .inr ⟨rfl, h, by grind, by grind⟩, fun X hX => ?_⟩
    have := hRN.cum X hX
    grind
 by_cases hwd : ab (V xn - V x) <= 1
 ·exact narrow hwd
 ·have hwd : 1 < ab (V xn - V x) := by grind
  have h110 := one_110
  refine ⟨27, .inl rfl, ?_⟩
  unfold frow
  obtain ⟨s1, s2⟩ := ab_iff.1 (show ab (V xn - V x) <= ab (V xn - V x) from Rat.le_refl)
  rcases flo_fhi hx.bd.fin hn.bd.fin with ⟨e1, e2, h⟩ | ⟨e1, e2, h⟩
  ·rw [e1, e2]
   have hab : ab (V xn - V x) = V xn - V x := ab_of_nonneg (by grind)
   obtain ⟨_, el, l1, l2⟩ := hx.fl
   obtain ⟨_, eh, h1, h2⟩ := hn.ce
   obtain ⟨fl1, fl2⟩ := floor_near (V x)
   obtain ⟨ce1, ce2⟩ := ceil_near (V xn)
   rw [<- el] at fl1 fl2
   rw [<- eh] at ce1 ce2
   have h3 : ffl x + 2 <= fce xn := by
    have : ((ffl x + 1 : Int) : Rat) < ((fce xn : Int) : Rat) := by push_cast; grind
    have := Rat.intCast_lt_intCast.1 this
    omega
   rw [if_neg (by omega)]
   split
   ·intro X hX
    exact (rowT_cumAny hx hn hd (by grind) hw.1 (by omega) X hX).2 (by grind)
   ·exact rowM_cumF hx hn hd hB0 hB1 hbx hbn (by grind) (by grind) (by omega)
  ·rw [e1, e2]
   have hab : ab (V xn - V x) = V x - V xn := by rw [ab_of_nonpos (by grind)]; grind
   obtain ⟨_, el, l1, l2⟩ := hn.fl
   obtain ⟨_, eh, h1, h2⟩ := hx.ce
   obtain ⟨fl1, fl2⟩ := floor_near (V xn)
   obtain ⟨ce1, ce2⟩ := ceil_near (V x)
   rw [<- el] at fl1 fl2
   rw [<- eh] at ce1 ce2
   have h3 : ffl xn + 2 <= fce x := by
    have : ((ffl xn + 1 : Int) : Rat) < ((fce x : Int) : Rat) := by push_cast; grind
    have := Rat.intCast_lt_intCast.1 this
    omega
   rw [if_neg (by omega)]
   split
   ·intro X hX
    rw [mean_comm]
    exact (rowT_cumAny hn hx hd (by grind) hw.2 (by omega) X hX).2 (by grind)
   ·intro X hX
    rw [mean_comm]
    exact rowM_cumF hn hx hd hB0 hB1 hbn hbx (by grind) (by grind) (by omega) X hX
def zcnt (W : Nat) (L : List (Nat × Nat)) : Nat := (L.map Prod.fst).countP fun k => k % W == 0
theorem zcnt_append (W : Nat) (s t : List (Nat × Nat)) : zcnt W (s ++ t) = zcnt W s + zcnt W t := by unfold zcnt; rw [List.map_append, List.countP_append]
theorem clamp_mod {W r : Nat} (hW : 0 < W) (k : Int) : ((r * W + clampN k W) % W == 0) = (decide (k <= 0) || decide ((W : Int) <= k)) := by
 have e : (r * W + clampN k W) % W = clampN k W % W := by rw [Nat.add_comm, Nat.add_mul_mod_self_right]
 rw [e]
 unfold clampN
 split
 ·rename_i h
  rw [Nat.zero_mod]
  have : decide (k <= 0) = true := decide_eq_true (by omega)
  rw [this]
  rfl
 ·split
  ·rename_i h1 h2
   have h3 : k.toNat % W = k.toNat := Nat.mod_eq_of_lt (by omega)
   rw [h3]
   by_cases hk : k = 0
   ·subst hk
    have : decide ((0 : Int) <= 0) = true := rfl
    rw [this]
    rfl
   ·have a1 : decide (k <= 0) = false := decide_eq_false (by omega)
    have a2 : decide ((W : Int) <= k) = false := decide_eq_false (by omega)
    have a3 : (k.toNat == 0) = false := by
     have : k.toNat ≠ 0 := by omega
     simpa using this
    rw [a1, a2, a3]
    rfl
  ·rename_i h1 h2
   rw [Nat.mod_self]
   have : decide ((W : Int) <= k) = true := decide_eq_true (by omega)
   rw [this, Bool.or_true]
   rfl
theorem cnt_low (a : Int) : ∀ m : Nat, (((List.range m).countP fun j => decide (a + ((j : Nat) : Int) <= 0)) : Int) <= m /\ (0 <= 1 - a -> (((List.range m).countP fun j => decide (a + ((j : Nat) : Int) <= 0)) : Int) <= 1 - a) /\ (1 - a <= 0 -> ((List.range m).countP fun j => decide (a + ((j : Nat) : Int) <= 0)) = 0)
 | 0 => by simp
 | m + 1 => by
  obtain ⟨h1, h2, h3⟩ := cnt_low a m
  rw [List.range_succ, List.countP_append]
  have key : (a + (m : Int) <= 0 /\ [m].countP (fun j => decide (a + ((j : Nat) : Int) <= 0)) = 1) ∨ (0 < a + (m : Int) /\ [m].countP (fun j => decide (a + ((j : Nat) : Int) <= 0)) = 0) := by
   by_cases hc : a + (m : Int) <= 0
   ·exact .inl ⟨hc, by simp [hc]⟩
   ·exact .inr ⟨by omega, by simp [hc]⟩
  generalize [m].countP (fun j => decide (a + ((j : Nat) : Int) <= 0)) = z at *
  generalize (List.range m).countP (fun j => decide (a + ((j : Nat) : Int) <= 0)) = c at *
  push_cast
  refine ⟨by omega, fun h => ?_, fun h => ?_⟩
  ·have := h2 h
   rcases key with ⟨k1, k2⟩ | ⟨k1, k2⟩
   ·omega
   ·omega
  ·have := h3 h
   omega
theorem cnt_high (a w : Int) : ∀ m : Nat, (((List.range m).countP fun j => decide (w <= a + ((j : Nat) : Int))) : Int) <= m /\ (0 <= a + m - w -> (((List.range m).countP fun j => decide (w <= a + ((j : Nat) : Int))) : Int) <= a + m - w) /\ (a + m - w <= 0 -> ((List.range m).countP fun j => decide (w <= a + ((j : Nat) : Int))) = 0)
 | 0 => by simp
 | m + 1 => by
  obtain ⟨h1, h2, h3⟩ := cnt_high a w m
  rw [List.range_succ, List.countP_append]
  have key : (w <= a + (m : Int) /\ [m].countP (fun j => decide (w <= a + ((j : Nat) : Int))) = 1) ∨ (a + (m : Int) < w /\ [m].countP (fun j => decide (w <= a + ((j : Nat) : Int))) = 0) := by
   by_cases hc : w <= a + (m : Int)
   ·exact .inl ⟨hc, by simp [hc]⟩
   ·exact .inr ⟨by omega, by simp [hc]⟩
  generalize [m].countP (fun j => decide (w <= a + ((j : Nat) : Int))) = z at *
  generalize (List.range m).countP (fun j => decide (w <= a + ((j : Nat) : Int))) = c at *
  push_cast
  refine ⟨by omega, fun h => ?_, fun h => ?_⟩
  ·rcases key with ⟨k1, k2⟩ | ⟨k1, k2⟩
   ·have := h2 (by omega)
    omega
   ·by_cases h0 : 0 <= a + m - w
    ·have := h2 h0
     omega
    ·have := h3 (by omega)
     omega
  ·have := h3 (by omega)
   rcases key with ⟨k1, k2⟩ | ⟨k1, k2⟩ <;> omega
theorem countP_or_le {α : Type} (p q : α -> Bool) : ∀ l : List α, l.countP (fun a => p a || q a) <= l.countP p + l.countP q
 | [] => by simp
 | a :: l => by
  have := countP_or_le p q l
  rw [List.countP_cons, List.countP_cons, List.countP_cons]
  cases p a <;> cases q a <;> simp <;> omega
def telW (W : Nat) (t : Rat) : Int := ceilR (if t <= 1 then t else 1) + ceilR (if t <= (W : Rat) - 1 then (W : Rat) - 1 else t)
theorem ceilR_le {a b : Rat} (h : a <= b) : ceilR a <= ceilR b := by
 have c1 := (ceil_near a).2
 have c2 := (ceil_near b).1
 have : ((ceilR a : Int) : Rat) < ((ceilR b + 1 : Int) : Rat) := by push_cast; grind
 have := Rat.intCast_lt_intCast.1 this
 omega
theorem ceilR_int (n : Int) : ceilR (n : Rat) = n := by
 obtain ⟨a, b⟩ := ceil_near (n : Rat)
 have h1 := Rat.intCast_le_intCast.1 a
 have h2 : ((ceilR (n : Rat) : Int) : Rat) < ((n + 1 : Int) : Rat) := by push_cast; exact b
 have := Rat.intCast_lt_intCast.1 h2
 omega
theorem telW_mono (W : Nat) {s t : Rat} (h : s <= t) : telW W s <= telW W t := by
 unfold telW
 have h1 : ceilR (if s <= 1 then s else 1) <= ceilR (if t <= 1 then t else 1) := ceilR_le (by split <;> split <;> grind)
 have h2 : ceilR (if s <= (W : Rat) - 1 then (W : Rat) - 1 else s) <= ceilR (if t <= (W : Rat) - 1 then (W : Rat) - 1 else t) := ceilR_le (by split <;> split <;> grind)
 omega
theorem z_count {W : Nat} (hW : 1 <= W) {lo hi : Rat} (hlh : lo <= hi) {a : Int} {m : Nat} (ha : a = lo.floor) (hm : (m = 2 /\ ceilR hi <= a + 1) ∨ (m : Int) = ceilR hi - a + 1 /\ a + 2 <= ceilR hi) {c l h : Nat}
  (hc : c <= l + h) (hcm : c <= m) (hl : (l : Int) <= m /\ (0 <= 1 - a -> (l : Int) <= 1 - a) /\ (1 - a <= 0 -> l = 0)) (hh : (h : Int) <= m /\ (0 <= a + m - W -> (h : Int) <= a + m - W) /\ (a + m - W <= 0 -> h = 0)) :
  (c : Int) <= 2 + (telW W hi - telW W lo) /\ (lo <= (W : Rat) - 1 -> 1 <= hi -> (c : Int) <= 1 + (telW W hi - telW W lo)) := by
 have f1 := floor_near lo
 have c1 := ceil_near lo
 have c2 := ceil_near hi
 have hcl := ceilR_le hlh
 have hcf := ceil_floor lo
 have hW1 : ceilR ((W : Rat) - 1) = (W : Int) - 1 := by
  have : (W : Rat) - 1 = (((W : Int) - 1 : Int) : Rat) := by push_cast; rfl
  rw [this, ceilR_int]
 have h11 : ceilR (1 : Rat) = 1 := ceilR_int 1
 have toI : ∀ {n : Int} {t : Rat}, t <= n -> ceilR t <= n := fun {n t} h => by
  have := ceilR_le h
  rwa [ceilR_int] at this
 have toF : ∀ {n : Int}, (n : Rat) <= lo -> n <= lo.floor := fun {n} h => by
  have : ((n : Int) : Rat) < ((lo.floor + 1 : Int) : Rat) := by push_cast; grind
  have := Rat.intCast_lt_intCast.1 this
  omega
 have toG : ∀ {n : Int} {t : Rat}, (n : Rat) < t -> n + 1 <= ceilR t := fun {n t} h => by
  have := (ceil_near t).1
  have : ((n : Int) : Rat) < ((ceilR t : Int) : Rat) := by grind
  have := Rat.intCast_lt_intCast.1 this
  omega
 have flo_le : lo.floor <= ceilR lo := by
  have : ((lo.floor : Int) : Rat) <= ((ceilR lo : Int) : Rat) := by grind
  exact Rat.intCast_le_intCast.1 this
 have p1 : (lo <= 1 /\ ceilR lo <= 1) ∨ (1 < lo /\ 1 <= lo.floor /\ 2 <= ceilR lo) := by
  by_cases h : lo <= 1
  ·exact .inl ⟨h, toI (n := 1) (by exact h)⟩
  ·have h : 1 < lo := by grind
   exact .inr ⟨h, toF (n := 1) (by exact Rat.le_of_lt h), toG (n := 1) (by exact h)⟩
 have p2 : (hi <= 1 /\ ceilR hi <= 1) ∨ (1 < hi /\ 2 <= ceilR hi) := by
  by_cases h : hi <= 1
  ·exact .inl ⟨h, toI (n := 1) (by exact h)⟩
  ·have h : 1 < hi := by grind
   exact .inr ⟨h, toG (n := 1) (by exact h)⟩
 have cW : (((W : Int) - 1 : Int) : Rat) = (W : Rat) - 1 := by push_cast; rfl
 have p3 : (lo <= (W : Rat) - 1 /\ ceilR lo <= (W : Int) - 1 /\ lo.floor <= (W : Int) - 1) ∨ ((W : Rat) - 1 < lo /\ (W : Int) <= ceilR lo /\ (W : Int) - 1 <= lo.floor) := by
  by_cases h : lo <= (W : Rat) - 1
  ·have := toI (n := (W : Int) - 1) (by rw [cW]; exact h)
   exact .inl ⟨h, this, by omega⟩
  ·have h : (W : Rat) - 1 < lo := by grind
   have := toG (n := (W : Int) - 1) (by rw [cW]; exact h)
   have h2 := toF (n := (W : Int) - 1) (by rw [cW]; exact Rat.le_of_lt h)
   exact .inr ⟨h, by omega, h2⟩
 have p4 : (hi <= (W : Rat) - 1 /\ ceilR hi <= (W : Int) - 1) ∨ ((W : Rat) - 1 < hi /\ (W : Int) <= ceilR hi) := by
  by_cases h : hi <= (W : Rat) - 1
  ·exact .inl ⟨h, toI (n := (W : Int) - 1) (by rw [cW]; exact h)⟩
  ·have h : (W : Rat) - 1 < hi := by grind
   have := toG (n := (W : Int) - 1) (by rw [cW]; exact h)
   exact .inr ⟨h, by omega⟩
 have t1 : telW W lo = (if lo <= 1 then ceilR lo else 1) + (if lo <= (W : Rat) - 1 then (W : Int) - 1 else ceilR lo) := by
  unfold telW
  split <;> split <;> simp only [hW1, h11]
 have t2 : telW W hi = (if hi <= 1 then ceilR hi else 1) + (if hi <= (W : Rat) - 1 then (W : Int) - 1 else ceilR hi) := by
  unfold telW
  split <;> split <;> simp only [hW1, h11]
 have q1 : 1 <= hi -> 1 <= ceilR hi := fun h => by
  have := ceilR_le h
  rwa [h11] at this
 have q2 : 1 <= lo -> 1 <= lo.floor := fun h => toF (n := 1) (by exact h)
 have q3 : lo < 1 -> lo.floor <= 0 := fun h => by
  have : ((lo.floor : Int) : Rat) < ((1 : Int) : Rat) := by push_cast; grind
  have := Rat.intCast_lt_intCast.1 this
  omega
 have q4 : lo < 1 ∨ 1 <= lo := by grind
 rw [t1, t2, ha] at *
 clear t1 t2 f1 c1 c2 toI toF toG cW hW1 h11
 have L1 : (if lo <= 1 then ceilR lo else 1) = 1 /\ 1 <= lo.floor ∨ (if lo <= 1 then ceilR lo else 1) = ceilR lo /\ ceilR lo <= 1 := by
  rcases p1 with ⟨a1, a2⟩ | ⟨a1, a2, a3⟩
  ·exact .inr ⟨if_pos a1, a2⟩
  ·exact .inl ⟨if_neg (by grind), a2⟩
 have L2 : (if hi <= 1 then ceilR hi else 1) = 1 /\ 2 <= ceilR hi ∨ (if hi <= 1 then ceilR hi else 1) = ceilR hi /\ ceilR hi <= 1 := by
  rcases p2 with ⟨a1, a2⟩ | ⟨a1, a2⟩
  ·exact .inr ⟨if_pos a1, a2⟩
  ·exact .inl ⟨if_neg (by grind), a2⟩
 have L3 : (if lo <= (W : Rat) - 1 then (W : Int) - 1 else ceilR lo) = (W : Int) - 1 /\ ceilR lo <= (W : Int) - 1 /\ lo.floor <= (W : Int) - 1 ∨ (if lo <= (W : Rat) - 1 then (W : Int) - 1 else ceilR lo) = ceilR lo /\ (W : Int) <= ceilR lo /\ ¬ lo <= (W : Rat) - 1 := by
  rcases p3 with ⟨a1, a2, a3⟩ | ⟨a1, a2, a3⟩
  ·exact .inl ⟨if_pos a1, a2, a3⟩
  ·exact .inr ⟨if_neg (by grind), a2, by grind⟩
 have L4 : (if hi <= (W : Rat) - 1 then (W : Int) - 1 else ceilR hi) = (W : Int) - 1 /\ ceilR hi <= (W : Int) - 1 ∨ (if hi <= (W : Rat) - 1 then (W : Int) - 1 else ceilR hi) = ceilR hi /\ (W : Int) <= ceilR hi := by
  rcases p4 with ⟨a1, a2⟩ | ⟨a1, a2⟩
  ·exact .inl ⟨if_pos a1, a2⟩
  ·exact .inr ⟨if_neg (by grind), a2⟩
 have L5 : lo.floor <= 0 ∨ 1 <= lo.floor := by omega
 generalize (if lo <= 1 then ceilR lo else 1) = x1 at *
 generalize (if hi <= 1 then ceilR hi else 1) = x2 at *
 generalize (if lo <= (W : Rat) - 1 then (W : Int) - 1 else ceilR lo) = x3 at *
 generalize (if hi <= (W : Rat) - 1 then (W : Int) - 1 else ceilR hi) = x4 at *
 clear p1 p2 p3 p4 q2 q3 q4 ha
 constructor
 ·omega
 ·intro hA hB
  have q1 := q1 hB
  rcases L3 with ⟨b1, b2, b3⟩ | ⟨b1, b2, b3⟩
  ·omega
  ·exact absurd hA b3
theorem frow_z {W r x xn d : Nat} (hW : 1 <= W) (hx : XsG x) (hn : XsG xn) : ∀ lo hi : Rat, ((V x <= V xn /\ lo = V x /\ hi = V xn) ∨ (V xn <= V x /\ lo = V xn /\ hi = V x)) ->
  (zcnt W (frow W (r * W) x xn d) : Int) <= 2 + (telW W hi - telW W lo) /\ (lo <= (W : Rat) - 1 -> 1 <= hi -> (zcnt W (frow W (r * W) x xn d) : Int) <= 1 + (telW W hi - telW W lo)) := by
 intro lo hi hlh
 obtain ⟨a, m, e1, e2, e3⟩ := frow_idx (W := W) (base := r * W) (d := d) hx hn (by rcases hlh with h | h; exact .inl h.1; exact .inr h.1)
 have elo : (if V x <= V xn then V x else V xn) = lo := by rcases hlh with ⟨h1, h2, h3⟩ | ⟨h1, h2, h3⟩ <;> split <;> grind
 have ehi : (if V x <= V xn then V xn else V x) = hi := by rcases hlh with ⟨h1, h2, h3⟩ | ⟨h1, h2, h3⟩ <;> split <;> grind
 rw [elo] at e2
 rw [ehi] at e3
 have ez : zcnt W (frow W (r * W) x xn d) = (List.range m).countP fun j => (decide (a + ((j : Nat) : Int) <= 0) || decide ((W : Int) <= a + ((j : Nat) : Int))) := by
  unfold zcnt
  rw [e1, List.countP_map]
  congr 1
  funext j
  exact clamp_mod (by omega) _
 rw [ez]
 have k1 := countP_or_le (fun j : Nat => decide (a + ((j : Nat) : Int) <= 0)) (fun j : Nat => decide ((W : Int) <= a + ((j : Nat) : Int))) (List.range m)
 have k2 : (List.range m).countP (fun j : Nat => (decide (a + ((j : Nat) : Int) <= 0) || decide ((W : Int) <= a + ((j : Nat) : Int)))) <= m := by
  have := List.countP_le_length (p := fun j : Nat => (decide (a + ((j : Nat) : Int) <= 0) || decide ((W : Int) <= a + ((j : Nat) : Int)))) (l := List.range m)
  rwa [List.length_range] at this
 exact z_count hW (by rcases hlh with ⟨h1, h2, h3⟩ | ⟨h1, h2, h3⟩ <;> grind) e2 e3 k1 k2 (cnt_low a m) (cnt_high a W m)
theorem frow_len2 {W base x xn d : Nat} (hx : XsG x) (hn : XsG xn) : ∀ lo hi : Rat, ((V x <= V xn /\ lo = V x /\ hi = V xn) ∨ (V xn <= V x /\ lo = V xn /\ hi = V x)) ->
  ((frow W base x xn d).length : Int) <= 2 + (ceilR hi - ceilR lo) := by
 intro lo hi hlh
 obtain ⟨a, m, e1, e2, e3⟩ := frow_idx (W := W) (base := base) (d := d) hx hn (by rcases hlh with h | h; exact .inl h.1; exact .inr h.1)
 have elo : (if V x <= V xn then V x else V xn) = lo := by rcases hlh with ⟨h1, h2, h3⟩ | ⟨h1, h2, h3⟩ <;> split <;> grind
 have ehi : (if V x <= V xn then V xn else V x) = hi := by rcases hlh with ⟨h1, h2, h3⟩ | ⟨h1, h2, h3⟩ <;> split <;> grind
 rw [elo] at e2
 rw [ehi] at e3
 have el : (frow W base x xn d).length = m := by
  have := congrArg List.length e1
  simpa using this
 rw [el]
 have hcl := ceilR_le (show lo <= hi by rcases hlh with ⟨h1, h2, h3⟩ | ⟨h1, h2, h3⟩ <;> grind)
 have hcf := ceil_floor lo
 omega
def nzL (W : Nat) (L : List (Nat × Nat)) : List Nat := (L.map Prod.fst).filter fun k => !(k % W == 0)
theorem nzL_append (W : Nat) (s t : List (Nat × Nat)) : nzL W (s ++ t) = nzL W s ++ nzL W t := by unfold nzL; rw [List.map_append, List.filter_append]
theorem frow_nz {W r x xn d : Nat} (hW : 0 < W) (hx : XsG x) (hn : XsG xn) : (nzL W (frow W (r * W) x xn d)).Pairwise (· < ·) /\ ∀ i ∈ nzL W (frow W (r * W) x xn d), r * W <= i /\ i < r * W + W := by
 obtain ⟨a, m, e1, _, _⟩ := frow_idx (W := W) (base := r * W) (d := d) hx hn (Rat.le_total)
 have inside : ∀ j : Nat, (!((r * W + clampN (a + (j : Int)) W) % W == 0)) = true -> 0 < a + (j : Int) /\ a + (j : Int) < W /\ clampN (a + (j : Int)) W = (a + (j : Int)).toNat := by
  intro j h
  rw [clamp_mod hW] at h
  simp only [Bool.not_or, Bool.and_eq_true, Bool.not_eq_true', decide_eq_false_iff_not] at h
  refine ⟨by omega, by omega, ?_⟩
  unfold clampN
  rw [if_neg (by omega), if_pos (by omega)]
 unfold nzL
 rw [e1]
 constructor
 ·rw [List.pairwise_filter, List.pairwise_map]
  refine List.pairwise_lt_range.imp ?_
  intro i j hij h1 h2
  obtain ⟨a1, a2, a3⟩ := inside i h1
  obtain ⟨b1, b2, b3⟩ := inside j h2
  rw [a3, b3]
  omega
 ·intro k hk
  obtain ⟨h1, h2⟩ := List.mem_filter.1 hk
  obtain ⟨j, _, rfl⟩ := List.mem_map.1 h1
  obtain ⟨b1, b2, b3⟩ := inside j h2
  rw [b3]
  omega
end Go.Proofs.Ytmgcbodlolnheaa
