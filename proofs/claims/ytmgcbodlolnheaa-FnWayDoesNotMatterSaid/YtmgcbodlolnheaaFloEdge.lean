/-
  Floating numbers: what a row of a line adds, but for little, up to each cell. No program is walked here.
  Floating numbers: how far the sums that a mask is made of are from exact sums. No program is walked here.
  Floating numbers: what an edge adds, up to a pixel, but for little. No program is walked here.
-/
import Derived.Test.YtmgcbodlolnheaaFixEdge
namespace Go.Proofs.Ytmgcbodlolnheaa
open Flt Go.RowKit
set_option linter.unusedVariables false

/-! ### rounding near 1 and at a half -/
theorem near_one {x : Rat} {r : Nat} (h : R32 x r) (h0 : 0 ≤ x) (h1 : x ≤ 1) : ab (V r - x) ≤ 1 - x := by
  have hle : V r ≤ 1 := by
    have := h.leInt (n := 1) (by push_cast; exact h1) (by decide) (by decide)
    push_cast at this
    exact this
  by_cases hx : x ≤ V r
  · rw [ab_of_nonneg (by grind)]
    grind
  · rw [ab_of_nonpos (by grind)]
    obtain ⟨L, k, l1, l2, l3, l4, l5, l6⟩ := Rounds.err h
    rw [least_single] at l1 l4
    rw [binade_single] at l4
    have hV : V r = fval Ieee.single r := rfl
    rw [← hV] at l2 l3 l5
    have hL : L ≤ -23 := by
      rcases l4 with h4 | h4
      · omega
      · have e1 : ((8388608 : Nat) : Rat) * p2 L = p2 (L + 23) := by
          rw [p2_add, show (23 : Int) = ((23 : Nat) : Int) by rfl, p2_nat]; grind
        rw [e1, ab_of_nonneg h0] at h4
        have h5 : p2 (L + 23) ≤ p2 0 := by rw [p2_zero]; grind
        have := le_of_p2 h5
        omega
    have hp := p2_pos L
    obtain ⟨N, hN⟩ : ∃ N : Nat, -L = N := ⟨(-L).toNat, by omega⟩
    have e1 : (1 : Rat) = ((2 ^ N : Nat) : Rat) * p2 L := by
      rw [← p2_nat, ← p2_add, ← hN]
      have : -L + L = 0 := by omega
      rw [this, p2_zero]
    have hk : (k : Rat) * p2 L < ((2 ^ N : Nat) : Rat) * p2 L := by rw [← e1, ← l5]; grind
    have hk2 : (k : Rat) < (((2 ^ N : Nat) : Int) : Rat) := by
      have := Rat.lt_of_mul_lt_mul_right hk (Rat.le_of_lt hp)
      exact_mod_cast this
    have hk3 := Rat.intCast_lt_intCast.1 hk2
    have hk4 := castLe (show k ≤ ((2 ^ N : Nat) : Int) - 1 by omega)
    have hk5 := Rat.mul_le_mul_of_nonneg_right hk4 (Rat.le_of_lt hp)
    push_cast at hk5 e1
    have e3 : ((2 : Rat) ^ N - 1) * p2 L = 1 - p2 L := by grind
    rw [e3, ← l5] at hk5
    grind
theorem near_mone {x : Rat} {r : Nat} (h : R32 x r) (h0 : x ≤ 0) (h1 : -1 ≤ x) : ab (V r - x) ≤ 1 + x := by
  obtain ⟨f1, f2⟩ := fneg_ok h.fin
  have h2 : R32 (-x) (fneg r) := Rounds.neg_ h f1 f2
  have := near_one h2 (by grind) (by grind)
  rw [f2] at this
  have e : -V r - -x = -(V r - x) := by grind
  rw [e, ab_neg] at this
  grind
theorem p2_m48 : p2 (-48) = 1 / 281474976710656 := by have := p2_neg 48; push_cast at this ⊢; grind
/-- Half of a number on the grid is exact. -/
theorem half_exact {m : Nat} (hm : F32 m) (hg : Grid (-48) (V m)) {r : Nat} (h : R32 (1 / 2 * V m) r) : V r = 1 / 2 * V m := by
  obtain ⟨n, q, e1', e2, e3, e4⟩ := val_rep hm
  have e1 : V m = n * p2 q := e1'
  rw [binade_single] at e2 e3
  rw [least_single] at e4
  by_cases hq : q = -149
  · obtain ⟨k, hk⟩ := hg
    have e48 : p2 (-48) = p2 101 * p2 (-149) := by rw [← p2_add]; rfl
    have hp := p2_pos (-149)
    obtain ⟨N, hN⟩ : ∃ N : Nat, N = 2 ^ 101 := ⟨_, rfl⟩
    have h101 : p2 101 = (N : Rat) := by rw [hN]; exact p2_nat 101
    have hNb : N = 2535301200456458802993406410752 := by rw [hN]
    clear hN
    have hn : (n : Rat) = ((k * (N : Int) : Int) : Rat) := by
      have e5 : (n : Rat) * p2 (-149) = ((k * (N : Int) : Int) : Rat) * p2 (-149) := by
        rw [hq] at e1
        rw [← e1, hk, e48, h101]
        push_cast
        grind
      have h1 := Rat.le_of_mul_le_mul_right (show (n : Rat) * p2 (-149) ≤ ((k * (N : Int) : Int) : Rat) * p2 (-149) by rw [e5]; exact Rat.le_refl) hp
      have h2 := Rat.le_of_mul_le_mul_right (show ((k * (N : Int) : Int) : Rat) * p2 (-149) ≤ (n : Rat) * p2 (-149) by rw [e5]; exact Rat.le_refl) hp
      exact Rat.le_antisymm h1 h2
    have hn2 : n = k * (N : Int) := Rat.intCast_inj.1 hn
    have hk0 : k = 0 := by
      subst hNb
      omega
    have hv : V m = 0 := by rw [hk, hk0, cast_zero]; exact Rat.zero_mul _
    rw [hv] at h ⊢
    exact h.eq (n := 0) (q := 0) (by rw [p2_zero, cast_zero]; grind) (by decide) (by decide) (by decide)
  · have e5 : 1 / 2 * V m = n * p2 (q - 1) := by
      rw [e1]
      have : p2 q = 2 * p2 (q - 1) := by rw [← p2_succ]; congr 1; omega
      rw [this]
      grind
    rw [h.eq e5 (by omega) (by omega) (by omega)]

/-! ### the parts of a row's ends -/
theorem small_abs {x e : Rat} (h0 : -e ≤ x) (h1 : x ≤ e) : ab x ≤ e := ab_le h1 h0
/-- A word that is near a part of a cell. -/
structure Part (G : Nat) (g : Rat) : Prop where
  fin : F32 G
  lo : 0 ≤ V G
  near : ab (V G - g) ≤ 3 / 16777216
  rel : ab (V G - g) ≤ g * (1001 / 1000)
  g0 : 0 < g
  g1 : g ≤ 1
theorem part_rat {x f z g : Rat} (hg : g = 1 - x) (h0 : 0 ≤ x) (hgt : 1 / 281474976710656 ≤ g) (e1 : ab (f - x) ≤ 1 - x) (e2 : ab (f - x) ≤ ab x * (1 / 16777216) + 1 / 1000000000000000000000000000000)
    (e3 : ab (z - (1 - f)) ≤ ab (1 - f) * (1 / 16777216) + 1 / 1000000000000000000000000000000) (hf : f ≤ 1) : ab (z - g) ≤ 3 / 16777216 ∧ ab (z - g) ≤ g * (1001 / 1000) := by
  rw [ab_of_nonneg h0] at e2
  rw [ab_of_nonneg (x := 1 - f) (by grind)] at e3
  obtain ⟨a1, a2⟩ := ab_iff.1 e1
  obtain ⟨b1, b2⟩ := ab_iff.1 e2
  obtain ⟨c1, c2⟩ := ab_iff.1 e3
  exact ⟨ab_le (by grind) (by grind), ab_le (by grind) (by grind)⟩
theorem low_part {lo : Nat} (h : Xs lo) : Part (fop .sub 1065353216 (fop .sub lo (floatOfInt .f32 (ffl lo)))) ((ffl lo : Rat) + 1 - V lo) := by
  obtain ⟨_, e, b1, b2⟩ := h.fl
  obtain ⟨i1, i2⟩ := int15 b1 b2
  obtain ⟨f1, f2⟩ := floor_near (V lo)
  rw [← e] at f1 f2
  obtain ⟨g, hg⟩ : ∃ g, g = (ffl lo : Rat) + 1 - V lo := ⟨_, rfl⟩
  have hx : V lo - V (floatOfInt .f32 (ffl lo)) = 1 - g := by rw [i2]; grind
  have hg0 : 0 < g := by grind
  have hg1 : g ≤ 1 := by grind
  have hgt : 1 / 281474976710656 ≤ g := by
    rw [← p2_m48]
    refine Grid.pos ?_ hg0
    rw [hg]
    exact (((Grid.int (ffl lo)).up (by decide)).add ((Grid.int 1).up (by decide))).sub h.grid
  obtain ⟨q1, q2⟩ := fsub_ok h.bd.fin i1.fin (by rw [hx]; exact big126 (ab_le (by grind) (by grind)))
  rw [hx] at q2
  have n1 := near_one q2 (by grind) (by grind)
  have n2 := q2.near5.2
  have hf1 : V (fop .sub lo (floatOfInt .f32 (ffl lo))) ≤ 1 := by
    have := q2.leInt (n := 1) (by push_cast; grind) (by decide) (by decide)
    push_cast at this
    exact this
  have hf0 := q2.nonneg (by grind)
  obtain ⟨_, r2⟩ := fsub_ok fone.1.fin q2.fin (by rw [fone.2]; exact big126 (ab_le (by grind) (by grind)))
  rw [fone.2] at r2
  obtain ⟨p1, p2'⟩ := part_rat (x := 1 - g) (g := g) (by grind) (by grind) hgt n1 n2 r2.near5.2 hf1
  rw [← hg]
  exact ⟨r2.fin, r2.nonneg (by grind), p1, p2', hg0, hg1⟩
theorem high_part {hi : Nat} (h : Xs hi) : Part (fop .add (fop .sub hi (floatOfInt .f32 (fce hi))) 1065353216) (V hi - ((fce hi : Rat) - 1)) := by
  obtain ⟨_, e, b1, b2⟩ := h.ce
  obtain ⟨i1, i2⟩ := int15 b1 b2
  obtain ⟨f1, f2⟩ := ceil_near (V hi)
  rw [← e] at f1 f2
  obtain ⟨g, hg⟩ : ∃ g, g = V hi - ((fce hi : Rat) - 1) := ⟨_, rfl⟩
  have hx : V hi - V (floatOfInt .f32 (fce hi)) = -(1 - g) := by rw [i2]; grind
  have hg0 : 0 < g := by grind
  have hg1 : g ≤ 1 := by grind
  have hgt : 1 / 281474976710656 ≤ g := by
    rw [← p2_m48]
    refine Grid.pos ?_ hg0
    rw [hg]
    exact h.grid.sub (((Grid.int (fce hi)).up (by decide)).sub ((Grid.int 1).up (by decide)))
  obtain ⟨q1, q2⟩ := fsub_ok h.bd.fin i1.fin (by rw [hx]; exact big126 (ab_le (by grind) (by grind)))
  rw [hx] at q2
  have n1 := near_mone q2 (by grind) (by grind)
  have n2 := q2.near5.2
  have hf1 : -1 ≤ V (fop .sub hi (floatOfInt .f32 (fce hi))) := by
    have := q2.geInt (n := -1) (by push_cast; grind) (by decide) (by decide)
    push_cast at this
    exact this
  have hf0 := q2.nonpos (by grind)
  obtain ⟨_, r2⟩ := fadd_ok q2.fin fone.1.fin (by rw [fone.2]; exact big126 (ab_le (by grind) (by grind)))
  rw [fone.2] at r2
  have r3 := r2.near5.2
  have r4 := r2.nonneg (by grind)
  have r5 := r2.fin
  generalize V (fop .sub hi (floatOfInt .f32 (fce hi))) = f at *
  generalize fop .add (fop .sub hi (floatOfInt .f32 (fce hi))) 1065353216 = G at *
  obtain ⟨p1, p2'⟩ := part_rat (x := 1 - g) (f := -f) (z := V G) (g := g) (by grind) (by grind) hgt
    (by have e9 : -f - (1 - g) = -(f - -(1 - g)) := by grind
        rw [e9, ab_neg]; grind)
    (by have e9 : -f - (1 - g) = -(f - -(1 - g)) := by grind
        rw [e9, ab_neg]; rw [ab_neg] at n2; exact n2)
    (by have e9 : (1 : Rat) - -f = f + 1 := by grind
        rw [e9]; exact r3) (by grind)
  rw [← hg]
  exact ⟨r5, r4, p1, p2', hg0, hg1⟩

/-! ### one by the width -/
theorem inv_rat {w z s : Rat} (hw : 1 / 281474976710656 ≤ w) (hw2 : w ≤ 100000) (hz0 : 1 / 281474976710656 ≤ z) (hz : ab (z - w) ≤ w * (1 / 16777216) + 1 / 1000000000000000000000000000000) (hs0 : 0 ≤ s)
    (hs : ab (s - 1 / z) ≤ 1 / z * (1 / 16777216) + 1 / 1000000000000000000000000000000) : ab (s * w - 1) ≤ 3 / 16777216 := by
  have hz' : 0 < z := by grind
  obtain ⟨i, hi⟩ : ∃ i, i = 1 / z := ⟨_, rfl⟩
  have hiz : i * z = 1 := by rw [hi, Rat.div_mul_cancel (by grind)]
  rw [← hi] at hs
  have hi0 : 0 < i := by
    rw [hi, Rat.div_def]
    exact Rat.mul_pos (by decide) (Rat.inv_pos.2 hz')
  have hib : i ≤ 281474976710656 := by
    have := Rat.mul_le_mul_of_nonneg_left hz0 (Rat.le_of_lt hi0)
    grind
  obtain ⟨a1, a2⟩ := ab_iff.1 hs
  obtain ⟨b1, b2⟩ := ab_iff.1 hz
  -- s * z against 1
  have m1 := Rat.mul_le_mul_of_nonneg_right a1 (Rat.le_of_lt hz')
  have m2 := Rat.mul_le_mul_of_nonneg_right a2 (Rat.le_of_lt hz')
  have e1 : (s - i) * z = s * z - 1 := by grind
  have e2 : (i * (1 / 16777216) + 1 / 1000000000000000000000000000000) * z = 1 / 16777216 + z * (1 / 1000000000000000000000000000000) := by grind
  rw [e1] at m1 m2
  rw [e2] at m1
  -- the width
  have n1 := Rat.mul_le_mul_of_nonneg_left b1 hs0
  have n2 := Rat.mul_le_mul_of_nonneg_left b2 hs0
  have e3 : s * (z - w) = s * z - s * w := by grind
  have e4 : s * (w * (1 / 16777216) + 1 / 1000000000000000000000000000000) = s * w * (1 / 16777216) + s * (1 / 1000000000000000000000000000000) := by grind
  have e5 : s * -(w * (1 / 16777216) + 1 / 1000000000000000000000000000000) = -(s * w * (1 / 16777216) + s * (1 / 1000000000000000000000000000000)) := by grind
  rw [e3, e4] at n1
  rw [e3, e5] at n2
  have hsb : s ≤ 300000000000000 := by grind
  have hzb : -(i * (1 / 16777216) + 1 / 1000000000000000000000000000000) * z = -(1 / 16777216 + z * (1 / 1000000000000000000000000000000)) := by grind
  rw [hzb] at m2
  have hzb2 : z ≤ 200000 := by grind
  generalize s * w = p at *
  generalize s * z = q at *
  clear b1 b2 hz a1 a2 hs hi hiz hz' hw hz0 hib e1 e2 e3 e4 e5 hi0
  exact ab_le (by grind) (by grind)

theorem inv_part {lo hi : Nat} (hl : Xs lo) (hh : Xs hi) (hlt : V lo < V hi) :
    F32 (fop .quo 1065353216 (fop .sub hi lo)) ∧ 0 ≤ V (fop .quo 1065353216 (fop .sub hi lo)) ∧ V (fop .quo 1065353216 (fop .sub hi lo)) ≤ 300000000000000 ∧ ab (V (fop .quo 1065353216 (fop .sub hi lo)) * (V hi - V lo) - 1) ≤ 3 / 16777216 := by
  obtain ⟨_, w1, w2⟩ := width hl hh hlt
  have r1 := hl.rng
  have r2 := hh.rng
  have hgt : 1 / 281474976710656 ≤ V hi - V lo := by
    rw [← p2_m48]
    exact (hh.grid.sub hl.grid).pos (by grind)
  obtain ⟨_, q⟩ := fsub_ok hh.bd.fin hl.bd.fin (big126 (ab_le (by grind) (by grind)))
  have n1 := q.near5.2
  rw [ab_of_nonneg (x := V hi - V lo) (by grind)] at n1
  rw [p2_m48] at w2
  generalize fop .sub hi lo = z at *
  have hz : 0 < V z := by grind
  have h125 : (1000000000000000000000000000000 : Rat) ≤ p2 125 := big125 Rat.le_refl
  have hbig : ab (V 1065353216) ≤ p2 125 * ab (V z) := by
    rw [fone.2, ab_of_nonneg (Rat.le_of_lt hz), ab_of_nonneg (x := (1 : Rat)) (by decide)]
    have m1 := Rat.mul_le_mul_of_nonneg_right h125 (Rat.le_of_lt hz)
    have m2 := Rat.mul_le_mul_of_nonneg_left w2 (show (0 : Rat) ≤ 1000000000000000000000000000000 by decide)
    grind
  obtain ⟨_, r⟩ := fquo_ok fone.1.fin w1 (by grind) hbig
  rw [fone.2] at r
  have hi0 : 0 ≤ 1 / V z := by rw [Rat.div_def]; exact Rat.mul_nonneg (by decide) (Rat.le_of_lt (Rat.inv_pos.2 hz))
  have s0 := r.nonneg hi0
  have n2 := r.near5.2
  rw [ab_of_nonneg hi0] at n2
  refine ⟨r.fin, s0, ?_, inv_rat hgt (by grind) w2 n1 s0 n2⟩
  have hiz : 1 / V z * V z = 1 := Rat.div_mul_cancel (by grind)
  have := Rat.mul_le_mul_of_nonneg_left w2 hi0
  obtain ⟨a1, _⟩ := ab_iff.1 n2
  generalize 1 / V z = i at *
  grind
/-- Half of it. -/
theorem half_part {S : Nat} {w : Rat} (hS : F32 S) (h0 : 0 ≤ V S) (hb : V S ≤ 300000000000000) (hw : 0 < w) (hw2 : w ≤ 100000) (h : ab (V S * w - 1) ≤ 3 / 16777216) :
    F32 (fop .mul 1056964608 S) ∧ 0 ≤ V (fop .mul 1056964608 S) ∧ ab (V (fop .mul 1056964608 S) * w - 1 / 2) ≤ 3 / 16777216 := by
  obtain ⟨_, r⟩ := fmul_ok fhalf.1.fin hS (big126 (by rw [fhalf.2]; exact ab_le (by grind) (by grind)))
  rw [fhalf.2] at r
  have n := r.near5.2
  rw [ab_of_nonneg (x := 1 / 2 * V S) (by grind)] at n
  refine ⟨r.fin, r.nonneg (by grind), ?_⟩
  obtain ⟨a1, a2⟩ := ab_iff.1 n
  obtain ⟨b1, b2⟩ := ab_iff.1 h
  generalize V (fop .mul 1056964608 S) = p at *
  have m1 := Rat.mul_le_mul_of_nonneg_right a1 (Rat.le_of_lt hw)
  have m2 := Rat.mul_le_mul_of_nonneg_right a2 (Rat.le_of_lt hw)
  have e1 : (p - 1 / 2 * V S) * w = p * w - 1 / 2 * (V S * w) := by grind
  have e2 : (1 / 2 * V S * (1 / 16777216) + 1 / 1000000000000000000000000000000) * w = 1 / 2 * (V S * w) * (1 / 16777216) + w * (1 / 1000000000000000000000000000000) := by grind
  have e3 : -(1 / 2 * V S * (1 / 16777216) + 1 / 1000000000000000000000000000000) * w = -(1 / 2 * (V S * w) * (1 / 16777216) + w * (1 / 1000000000000000000000000000000)) := by grind
  rw [e1, e2] at m1
  rw [e1, e3] at m2
  generalize V S * w = q at *
  generalize p * w = p' at *
  clear e1 e2 e3 n h r
  exact ab_le (by grind) (by grind)
theorem quad_rat {p w y g s R ρ A B : Rat} (hs : s * w = 1) (hw : 0 < w) (hp : ab (p * w - 1 / 2) ≤ 3 / 16777216) (hp0 : 0 ≤ p) (hy0 : 0 ≤ y) (hn : ab (y - g) ≤ 3 / 16777216) (hr : ab (y - g) ≤ g * (1001 / 1000)) (hg0 : 0 < g) (hg1 : g ≤ 1) (hgw : g ≤ w)
    (hA : ab (A - p * y) ≤ p * y * (1 / 16777216) + 1 / 1000000000000000000000000000000) (hA0 : 0 ≤ A) (hB : ab (B - A * y) ≤ A * y * (1 / 16777216) + 1 / 1000000000000000000000000000000) : ab (B - g * g / 2 * s) ≤ 16 / 16777216 := by
  have hs0 : 0 < s := by
    rcases Rat.le_total (a := s) (b := 0) with h | h
    · have := Rat.mul_le_mul_of_nonneg_right h (Rat.le_of_lt hw)
      grind
    · rcases lt_or_eq h with h1 | h1
      · exact h1
      · rw [← h1] at hs; grind
  obtain ⟨a1, a2⟩ := ab_iff.1 hp
  obtain ⟨b1, b2⟩ := ab_iff.1 hn
  obtain ⟨c1, c2⟩ := ab_iff.1 hr
  -- rho = y * s, R = g * s
  obtain ⟨R, hR⟩ : ∃ R, R = g * s := ⟨_, rfl⟩
  obtain ⟨q, hq⟩ : ∃ q, q = y * s := ⟨_, rfl⟩
  have hR0 : 0 ≤ R := by rw [hR]; exact Rat.mul_nonneg (Rat.le_of_lt hg0) (Rat.le_of_lt hs0)
  have hR1 : R ≤ 1 := by
    have := Rat.mul_le_mul_of_nonneg_right hgw (Rat.le_of_lt hs0)
    grind
  have hq0 : 0 ≤ q := by rw [hq]; exact Rat.mul_nonneg hy0 (Rat.le_of_lt hs0)
  have hq1 : q ≤ 2001 / 1000 := by
    have := Rat.mul_le_mul_of_nonneg_right (show y ≤ g * (2001 / 1000) by grind) (Rat.le_of_lt hs0)
    have e : g * (2001 / 1000) * s = R * (2001 / 1000) := by rw [hR]; grind
    rw [e, ← hq] at this
    grind
  obtain ⟨P, hP⟩ : ∃ P, P = p * w := ⟨_, rfl⟩
  rw [← hP] at a1 a2
  have hpy : p * y = P * q := by rw [hP, hq]; grind
  rw [hpy] at hA
  -- A against q / 2
  have m1 := Rat.mul_le_mul_of_nonneg_right a1 hq0
  have m2 := Rat.mul_le_mul_of_nonneg_right a2 hq0
  have e1 : (P - 1 / 2) * q = P * q - 1 / 2 * q := by grind
  rw [e1] at m1 m2
  obtain ⟨d1, d2⟩ := ab_iff.1 hA
  have hA1 : ab (A - 1 / 2 * q) ≤ 8 / 16777216 := by
    generalize P * q = pq at *
    exact ab_le (by grind) (by grind)
  obtain ⟨f1, f2⟩ := ab_iff.1 hA1
  -- B
  obtain ⟨g1, g2⟩ := ab_iff.1 hB
  have hyb : y ≤ 1 + 3 / 16777216 := by grind
  have n1 := Rat.mul_le_mul_of_nonneg_right f1 hy0
  have n2 := Rat.mul_le_mul_of_nonneg_right f2 hy0
  have e2 : (A - 1 / 2 * q) * y = A * y - 1 / 2 * (q * y) := by grind
  rw [e2] at n1 n2
  have hqy : q * y ≤ 21 / 10 := by
    have := Rat.mul_le_mul_of_nonneg_left hyb hq0
    grind
  have hqy0 : 0 ≤ q * y := Rat.mul_nonneg hq0 hy0
  -- q y against R g
  have hdiff : q * y - R * g = (y - g) * (q + R) := by rw [hq, hR]; grind
  have hqR : 0 ≤ q + R := by grind
  have k1 := Rat.mul_le_mul_of_nonneg_right b1 hqR
  have k2 := Rat.mul_le_mul_of_nonneg_right b2 hqR
  rw [← hdiff] at k1 k2
  have hfin : g * g / 2 * s = 1 / 2 * (R * g) := by rw [hR]; grind
  rw [hfin]
  generalize A * y = ay at *
  generalize q * y = qy at *
  generalize R * g = rg at *
  clear hB hA hA1 e1 e2 hdiff hfin hpy hP hq hR hs hp hn hr m1 m2 d1 d2
  exact ab_le (by grind) (by grind)
/-- The triangle at an end. -/
theorem quad_part {P0 G : Nat} {g w s : Rat} (hG : Part G g) (hP : F32 P0) (hP0 : 0 ≤ V P0) (hPb : V P0 ≤ 300000000000000) (hw : 0 < w) (hs : s * w = 1) (h : ab (V P0 * w - 1 / 2) ≤ 3 / 16777216) (hgw : g ≤ w) :
    F32 (fop .mul (fop .mul P0 G) G) ∧ 0 ≤ V (fop .mul (fop .mul P0 G) G) ∧ ab (V (fop .mul (fop .mul P0 G) G) - g * g / 2 * s) ≤ 16 / 16777216 := by
  obtain ⟨f, l0, hn, hr, g0, g1⟩ := hG
  have hGb : V G ≤ 2 := by obtain ⟨a, _⟩ := ab_iff.1 hn; grind
  have hm0 := Rat.mul_nonneg hP0 l0
  have hmb : V P0 * V G ≤ 600000000000000 := by
    have m1 := Rat.mul_le_mul_of_nonneg_left hGb hP0
    grind
  obtain ⟨_, r1⟩ := fmul_ok hP f (big126 (by rw [ab_of_nonneg hm0]; grind))
  have a0 := r1.nonneg hm0
  have n1 := r1.near5.2
  rw [ab_of_nonneg hm0] at n1
  have hAb : V (fop .mul P0 G) ≤ 700000000000000 := by obtain ⟨a, _⟩ := ab_iff.1 n1; grind
  have hm1 := Rat.mul_nonneg a0 l0
  obtain ⟨_, r2⟩ := fmul_ok r1.fin f (big126 (by
    rw [ab_of_nonneg hm1]
    have m1 := Rat.mul_le_mul_of_nonneg_left hGb a0
    grind))
  have n2 := r2.near5.2
  rw [ab_of_nonneg hm1] at n2
  exact ⟨r2.fin, r2.nonneg hm1, quad_rat (R := 0) (ρ := 0) hs hw h hP0 l0 hn hr g0 g1 hgw n1 a0 n2⟩

/-! ### operations with errors -/
theorem subE {a b : Nat} {x y e f X E : Rat} (ha : F32 a) (hb : F32 b) (hx : ab (V a - x) ≤ e) (hy : ab (V b - y) ≤ f) (hX : ab (x - y) ≤ X) (hb2 : X + (e + f) ≤ 1000000) (hE : e + f + (X + (e + f)) * (1 / 16777216) + 1 / 1000000000000000000000000000000 ≤ E) :
    F32 (fop .sub a b) ∧ ab (V (fop .sub a b) - (x - y)) ≤ E := by
  have h1 : ab (V a - V b) ≤ X + (e + f) := by
    obtain ⟨a1, a2⟩ := ab_iff.1 hx
    obtain ⟨b1, b2⟩ := ab_iff.1 hy
    obtain ⟨c1, c2⟩ := ab_iff.1 hX
    exact ab_le (by grind) (by grind)
  obtain ⟨_, r⟩ := fsub_ok ha hb (big126 (by grind))
  have n := r.near5.2
  refine ⟨r.fin, ?_⟩
  generalize V (fop .sub a b) = z at *
  obtain ⟨a1, a2⟩ := ab_iff.1 hx
  obtain ⟨b1, b2⟩ := ab_iff.1 hy
  obtain ⟨c1, c2⟩ := ab_iff.1 n
  generalize ab (V a - V b) = k at *
  exact ab_le (by grind) (by grind)
theorem addE {a b : Nat} {x y e f X E : Rat} (ha : F32 a) (hb : F32 b) (hx : ab (V a - x) ≤ e) (hy : ab (V b - y) ≤ f) (hX : ab (x + y) ≤ X) (hb2 : X + (e + f) ≤ 1000000) (hE : e + f + (X + (e + f)) * (1 / 16777216) + 1 / 1000000000000000000000000000000 ≤ E) :
    F32 (fop .add a b) ∧ ab (V (fop .add a b) - (x + y)) ≤ E := by
  have h1 : ab (V a + V b) ≤ X + (e + f) := by
    obtain ⟨a1, a2⟩ := ab_iff.1 hx
    obtain ⟨b1, b2⟩ := ab_iff.1 hy
    obtain ⟨c1, c2⟩ := ab_iff.1 hX
    exact ab_le (by grind) (by grind)
  obtain ⟨_, r⟩ := fadd_ok ha hb (big126 (by grind))
  have n := r.near5.2
  refine ⟨r.fin, ?_⟩
  generalize V (fop .add a b) = z at *
  obtain ⟨a1, a2⟩ := ab_iff.1 hx
  obtain ⟨b1, b2⟩ := ab_iff.1 hy
  obtain ⟨c1, c2⟩ := ab_iff.1 n
  generalize ab (V a + V b) = k at *
  exact ab_le (by grind) (by grind)
/-- One addition of a row. -/
theorem termE {d Y : Nat} {y e : Rat} (hd : Bd d 0) (hY : F32 Y) (h : ab (V Y - y) ≤ e) (hy : ab y ≤ 2) (he : e ≤ 1 / 1000) :
    F32 (fop .mul d Y) ∧ ab (V (fop .mul d Y) - V d * y) ≤ ab (V d) * (e + 3 / 16777216) + 1 / 1000000000000000000000000000000 := by
  have hD : ab (V d) ≤ 1 := by have := hd.ab; rwa [p2_zero] at this
  have hYb : ab (V Y) ≤ 2001 / 1000 := by
    have := ab_add_le (V Y - y) y
    have e1 : V Y - y + y = V Y := by grind
    rw [e1] at this
    grind
  have hm : ab (V d * V Y) ≤ ab (V d) * (2001 / 1000) := ab_mul_le Rat.le_refl hYb
  obtain ⟨_, r⟩ := fmul_ok hd.fin hY (big126 (by grind))
  have n := r.near5.2
  have hm2 : ab (V d * (V Y - y)) ≤ ab (V d) * e := ab_mul_le Rat.le_refl h
  refine ⟨r.fin, ?_⟩
  have e2 : V (fop .mul d Y) - V d * y = (V (fop .mul d Y) - V d * V Y) + V d * (V Y - y) := by grind
  rw [e2]
  have k := ab_add_le (V (fop .mul d Y) - V d * V Y) (V d * (V Y - y))
  generalize ab (V (fop .mul d Y) - V d * V Y) = k1 at *
  generalize ab (V d * (V Y - y)) = k2 at *
  generalize ab (V d * V Y) = k3 at *
  have e3 : ab (V d) * (e + 3 / 16777216) = ab (V d) * e + ab (V d) * (3 / 16777216) := by grind
  rw [e3]
  have h0 := ab_nonneg (V d)
  generalize ab (V d) * e = de at *
  grind

/-! ### sums up to a cell -/
/-- The sizes of additions, added up. -/
def absR : List (Nat × Rat) → Rat
  | [] => 0
  | (_, v) :: t => ab v + absR t
theorem absR_append : ∀ (s t : List (Nat × Rat)), absR (s ++ t) = absR s + absR t
  | [], _ => by simp only [List.nil_append, absR]; grind
  | (k, v) :: s, t => by rw [List.cons_append, absR, absR_append s t, absR]; grind
theorem sumR_place {W base X : Nat} {k : Int} {v : Rat} (hX : X < W) (t : List (Nat × Rat)) : sumR ((base + clampN k W, v) :: t) (base + X) = (if k ≤ X then v else 0) + sumR t (base + X) := by
  rw [sumR]
  have h : (base + clampN k W ≤ base + X) ↔ k ≤ X := by rw [Nat.add_le_add_iff_left]; exact clamp_le_iff hX
  by_cases hk : k ≤ X
  · rw [if_pos hk, if_pos (h.2 hk)]
  · rw [if_neg hk, if_neg (fun c => hk (h.1 c))]
/-- How many cells of a stretch are up to X. -/
def upTo (X : Nat) (x0 : Int) (N : Nat) : Int := imin (imax ((X : Int) + 1 - x0) 0) N
theorem upTo_succ (X : Nat) (x0 : Int) (N : Nat) : upTo X x0 (N + 1) = upTo X x0 N + if x0 + (N : Int) ≤ X then 1 else 0 := by
  unfold upTo imin imax
  split <;> split <;> split <;> split <;> omega
theorem sumR_fill {W base X : Nat} (hX : X < W) (x0 : Int) (v : Nat) : ∀ N : Nat, sumR (valL (ffill base W x0 v N)) (base + X) = V v * (upTo X x0 N : Int)
  | 0 => by
    have e : upTo X x0 0 = 0 := by unfold upTo imin imax; split <;> split <;> omega
    rw [e, cast_zero]
    simp only [ffill, valL, List.map_nil, sumR]
    grind
  | N + 1 => by
    rw [ffill, valL_append, sumR_append, sumR_fill hX x0 v N, upTo_succ]
    have e : valL [(base + clampN (x0 + (N : Int)) W, v)] = [(base + clampN (x0 + (N : Int)) W, V v)] := rfl
    rw [e, sumR_place hX]
    simp only [sumR]
    by_cases h : x0 + (N : Int) ≤ X
    · rw [if_pos h, if_pos h]; push_cast; grind
    · rw [if_neg h, if_neg h]; push_cast; grind
theorem totR_fill (base W : Nat) (x0 : Int) (v : Nat) : ∀ N : Nat, totR (valL (ffill base W x0 v N)) = V v * N ∧ absR (valL (ffill base W x0 v N)) = ab (V v) * N ∧ (ffill base W x0 v N).length = N
  | 0 => by
    refine ⟨?_, ?_, rfl⟩
    · simp only [ffill, valL, List.map_nil, totR]; push_cast; grind
    · simp only [ffill, valL, List.map_nil, absR]; push_cast; grind
  | N + 1 => by
    obtain ⟨a, b, c⟩ := totR_fill base W x0 v N
    have e : valL [(base + clampN (x0 + (N : Int)) W, v)] = [(base + clampN (x0 + (N : Int)) W, V v)] := rfl
    rw [ffill, valL_append, totR_append, absR_append, a, b, e, List.length_append, c]
    simp only [totR, absR]
    refine ⟨?_, ?_, rfl⟩ <;> push_cast <;> grind
theorem clamp_place (k : Int) (W base : Nat) : base ≤ base + clampN k W ∧ base + clampN k W ≤ base + W := by
  have := clampN_le k W
  omega
theorem ffill_place {base W : Nat} {x0 : Int} {v : Nat} {p : Nat × Nat} : ∀ {N : Nat}, p ∈ ffill base W x0 v N → base ≤ p.1 ∧ p.1 ≤ base + W
  | 0, h => by simp [ffill] at h
  | N + 1, h => by
    rw [ffill, List.mem_append] at h
    rcases h with h | h
    · exact ffill_place h
    · simp only [List.mem_singleton] at h
      rw [h]
      exact clamp_place _ _ _

/-- What the additions of a row are near to: D high, from a to b. -/
structure RowNear (L : List (Nat × Nat)) (W base : Nat) (D a b B : Rat) : Prop where
  cum : ∀ X, X < W → ab (sumR (valL L) (base + X) - D * mean ((X : Rat) + 1 - a) ((X : Rat) + 1 - b)) ≤ ab D * ((B + 8) / 16777216) + 1 / 100000000000000000000000000
  tot : ab (totR (valL L) - D) ≤ ab D * (24 / 16777216) + 1 / 100000000000000000000000000
  abs : absR (valL L) ≤ ab D * (5001 / 5000) + 1 / 100000000000000000000000000
  len : (L.length : Rat) ≤ ab (b - a) + 3
  place : ∀ p ∈ L, base ≤ p.1 ∧ p.1 ≤ base + W
theorem RowNear.swap {L : List (Nat × Nat)} {W base : Nat} {D a b B : Rat} (h : RowNear L W base D a b B) : RowNear L W base D b a B := by
  refine ⟨fun X hX => ?_, h.tot, h.abs, ?_, h.place⟩
  · rw [mean_comm]; exact h.cum X hX
  · have e : a - b = -(b - a) := by grind
    rw [e, ab_neg]; exact h.len
theorem mean_s {s w z a b : Rat} (hs : s * w = 1) (hw : w = b - a) : mean (z - a) (z - b) = s * (kk (z - a) - kk (z - b)) := by
  have h := mean_mul (z - a) (z - b)
  have e : z - b - (z - a) = -w := by grind
  rw [e] at h
  have h2 : s * (mean (z - a) (z - b) * -w) = s * (kk (z - b) - kk (z - a)) := by rw [h]
  generalize mean (z - a) (z - b) = m at *
  grind
/-- One or two cells. -/
theorem rowN_near {W base x xn d lo : Nat} {B : Rat} (hx : Xs x) (hn : Xs xn) (hd : Bd d 0) (hlo : lo = flo x xn) (hB0 : 120 ≤ B) (hB1 : B ≤ 1024) (hbx : ab (V x) ≤ B) (hbn : ab (V xn) ≤ B) (hc : fce (fhi x xn) ≤ ffl lo + 1) :
    RowNear (frowN W base x xn d lo) W base (V d) (V x) (V xn) B := by
  obtain ⟨hl, hh, hle, hsum, hmin, hmax⟩ : Xs lo ∧ Xs (fhi x xn) ∧ V lo ≤ V (fhi x xn) ∧ V lo + V (fhi x xn) = V x + V xn ∧ (V lo ≤ V x ∧ V lo ≤ V xn) ∧ (V x ≤ V (fhi x xn) ∧ V xn ≤ V (fhi x xn)) := by
    rw [hlo]
    rcases flo_fhi hx.bd.fin hn.bd.fin with ⟨e1, e2, h⟩ | ⟨e1, e2, h⟩ <;> rw [e1, e2]
    · exact ⟨hx, hn, h, rfl, ⟨Rat.le_refl, h⟩, h, Rat.le_refl⟩
    · exact ⟨hn, hx, h, by grind, ⟨h, Rat.le_refl⟩, Rat.le_refl, h⟩
  obtain ⟨_, el, l1, l2⟩ := hl.fl
  obtain ⟨_, eh, h1, h2⟩ := hh.ce
  obtain ⟨i1, i2⟩ := int15 l1 l2
  obtain ⟨fl1, fl2⟩ := floor_near (V lo)
  obtain ⟨ce1, ce2⟩ := ceil_near (V (fhi x xn))
  rw [← el] at fl1 fl2
  rw [← eh] at ce1 ce2
  have hcr := castLe hc
  push_cast at hcr
  generalize V (fhi x xn) = hi at *
  -- the middle
  obtain ⟨bx1, bx2⟩ := ab_iff.1 hbx
  obtain ⟨bn1, bn2⟩ := ab_iff.1 hbn
  obtain ⟨_, r1⟩ := fadd_ok hx.bd.fin hn.bd.fin (big126 (ab_le (by grind) (by grind)))
  have n1 := r1.near5.2
  have hs2 : ab (V x + V xn) ≤ 2 * B := ab_le (by grind) (by grind)
  have hg := (hx.grid.add hn.grid).round r1 (by decide)
  have hm1 : ab (V (fop .add x xn)) ≤ 3000 := by
    have k := ab_add_le (V (fop .add x xn) - (V x + V xn)) (V x + V xn)
    have e : V (fop .add x xn) - (V x + V xn) + (V x + V xn) = V (fop .add x xn) := by grind
    rw [e] at k
    grind
  obtain ⟨_, r2⟩ := fmul_ok fhalf.1.fin r1.fin (big126 (by
    rw [fhalf.2]
    have : ab (1 / 2 * V (fop .add x xn)) ≤ 1 / 2 * 3000 := ab_mul_le (a := 1 / 2) (b := 3000) (by decide +kernel) hm1
    grind))
  rw [fhalf.2] at r2
  have n2 := half_exact r1.fin hg r2
  obtain ⟨y, hy⟩ : ∃ y, y = (V x + V xn) / 2 - (ffl lo : Rat) := ⟨_, rfl⟩
  have hy0 : 0 ≤ y := by grind
  have hy1 : y ≤ 1 := by grind
  have hmid : ab (V (fop .mul 1056964608 (fop .add x xn)) - (V x + V xn) / 2) ≤ B * (1 / 16777216) + 1 / 1000000000000000000000000000000 := by
    rw [n2]
    have e : 1 / 2 * V (fop .add x xn) - (V x + V xn) / 2 = 1 / 2 * (V (fop .add x xn) - (V x + V xn)) := by grind
    rw [e, ab_mul, ab_of_nonneg (x := (1 / 2 : Rat)) (by decide +kernel)]
    grind
  obtain ⟨f3, n3⟩ := subE (X := 1) (E := (B + 2) * (1 / 16777216)) r2.fin i1.fin hmid (y := (ffl lo : Rat)) (f := 0) (by rw [i2]; exact ab_le (by grind) (by grind)) (by rw [← hy]; exact ab_le hy1 (by grind)) (by grind) (by grind)
  rw [← hy] at n3
  obtain ⟨f4, n4⟩ := termE hd f3 n3 (ab_le (by grind) (by grind)) (by grind)
  have hD : ab (V d) ≤ 1 := by have := hd.ab; rwa [p2_zero] at this
  have hD0 := ab_nonneg (V d)
  unfold frowN
  generalize hq : fop .mul d (fop .sub (fop .mul 1056964608 (fop .add x xn)) (floatOfInt .f32 (ffl lo))) = q at *
  -- d - q
  have hDy : ab (V d * y) ≤ ab (V d) * 1 := ab_mul_le Rat.le_refl (ab_le hy1 (by grind))
  have hD1y : ab (V d * (1 - y)) = ab (V d) * (1 - y) := by rw [ab_mul, ab_of_nonneg (x := 1 - y) (by grind)]
  have hDyy : ab (V d * y) = ab (V d) * y := by rw [ab_mul, ab_of_nonneg hy0]
  have eB : ab (V d) * ((B + 2) * (1 / 16777216) + 3 / 16777216) = ab (V d) * B / 16777216 + ab (V d) * (5 / 16777216) := by grind
  have eB2 : ab (V d) * ((B + 8) / 16777216) = ab (V d) * B / 16777216 + ab (V d) * (8 / 16777216) := by grind
  rw [eB] at n4
  have hDB : ab (V d) * B ≤ ab (V d) * 1024 := Rat.mul_le_mul_of_nonneg_left hB1 hD0
  have hDB0 : 0 ≤ ab (V d) * B := Rat.mul_nonneg hD0 (by grind)
  have hdq : ab (V d - V q) ≤ ab (V d) * (1001 / 1000) + 1 / 1000000000000000000000000000000 := by
    have e : V d - V q = V d * (1 - y) - (V q - V d * y) := by grind
    rw [e]
    have k := ab_sub_le (V d * (1 - y)) (V q - V d * y)
    rw [hD1y] at k
    have hDy2 : ab (V d) * (1 - y) ≤ ab (V d) * 1 := Rat.mul_le_mul_of_nonneg_left (by grind) hD0
    generalize ab (V d) * B = DB at *
    grind
  obtain ⟨_, r5⟩ := fsub_ok hd.fin f4 (big126 (by grind))
  have n5 := r5.near5.2
  generalize hv : fop .sub d q = v at *
  have n6 : ab (V v - (V d - V q)) ≤ ab (V d) * (2 / 16777216) + 1 / 500000000000000000000000000000 := by grind
  have hval : valL [(base + clampN (ffl lo) W, v), (base + clampN (ffl lo + 1) W, q)] = [(base + clampN (ffl lo) W, V v), (base + clampN (ffl lo + 1) W, V q)] := rfl
  have htot : ab (V v + V q - V d) ≤ ab (V d) * (2 / 16777216) + 1 / 500000000000000000000000000000 := by
    have e : V v + V q - V d = V v - (V d - V q) := by grind
    rw [e]; exact n6
  refine ⟨fun X hX => ?_, ?_, ?_, ?_, ?_⟩
  · rw [hval, sumR_place hX, sumR_place hX, eB2]
    simp only [sumR]
    rcases Int.lt_trichotomy (X : Int) (ffl lo) with h | h | h
    · have h3 := castLe (show (X : Int) + 1 ≤ ffl lo by omega)
      push_cast at h3
      rw [if_neg (by omega), if_neg (by omega), mean_zero (by grind) (by grind)]
      have e : (0 : Rat) + (0 + 0) - V d * 0 = 0 := by grind
      rw [e, ab_of_nonneg Rat.le_refl]
      generalize ab (V d) * B = DB at *
      grind
    · have h3 : (X : Rat) = (ffl lo : Rat) := by rw [← h]; push_cast; rfl
      rw [if_pos (by omega), if_neg (by omega), mean_mid (by grind) (by grind) (by grind) (by grind)]
      have e : V v + (0 + 0) - V d * (((X : Rat) + 1 - V x + ((X : Rat) + 1 - V xn)) / 2) = (V v - (V d - V q)) - (V q - V d * y) := by rw [h3, hy]; grind
      rw [e]
      have k := ab_sub_le (V v - (V d - V q)) (V q - V d * y)
      generalize ab (V v - (V d - V q)) = k1 at *
      generalize ab (V q - V d * y) = k2 at *
      generalize ab (V d) * B = DB at *
      grind
    · have h3 := castLe (show ffl lo + 1 ≤ (X : Int) by omega)
      push_cast at h3
      rw [if_pos (by omega), if_pos (by omega), mean_one (by grind) (by grind)]
      have e : V v + (V q + 0) - V d * 1 = V v + V q - V d := by grind
      rw [e]
      generalize ab (V d) * B = DB at *
      grind
  · rw [hval]
    simp only [totR]
    have e : V v + (V q + 0) - V d = V v + V q - V d := by grind
    rw [e]
    grind
  · rw [hval]
    simp only [absR]
    have k1 : ab (V v) ≤ ab (V d) * (1 - y) + (ab (V d) * B / 16777216 + ab (V d) * (7 / 16777216)) + 1 / 200000000000000000000000000000 := by
      have e : V v = V d * (1 - y) + ((V v - (V d - V q)) - (V q - V d * y)) := by grind
      have k := ab_add_le (V d * (1 - y)) ((V v - (V d - V q)) - (V q - V d * y))
      rw [← e, hD1y] at k
      have k2 := ab_sub_le (V v - (V d - V q)) (V q - V d * y)
      generalize ab (V v - (V d - V q)) = k1 at *
      generalize ab (V q - V d * y) = k2 at *
      generalize ab (V d) * (1 - y) = Dy1 at *
      generalize ab (V d) * B = DB at *
      grind
    have k2 : ab (V q) ≤ ab (V d) * y + (ab (V d) * B / 16777216 + ab (V d) * (5 / 16777216)) + 1 / 1000000000000000000000000000000 := by
      have e : V q = V d * y + (V q - V d * y) := by grind
      have k := ab_add_le (V d * y) (V q - V d * y)
      rw [← e, hDyy] at k
      grind
    have e3 : ab (V d) * (1 - y) = ab (V d) - ab (V d) * y := by grind
    rw [e3] at k1
    generalize ab (V d) * y = Dy at *
    generalize ab (V d) * B = DB at *
    grind
  · have := ab_nonneg (V xn - V x)
    simp only [List.length_cons, List.length_nil]
    push_cast
    grind
  · intro p hp
    simp only [List.mem_cons, List.not_mem_nil, or_false] at hp
    rcases hp with rfl | rfl <;> exact clamp_place _ _ _

theorem termX {d Y : Nat} (hd : Bd d 0) (hY : F32 Y) (hy : ab (V Y) ≤ 2) : ab (V (fop .mul d Y) - V d * V Y) ≤ ab (V d) * (3 / 16777216) + 1 / 1000000000000000000000000000000 := by
  have h := (termE (y := V Y) (e := 0) hd hY (by have : V Y - V Y = 0 := by grind
                                                 rw [this]; decide +kernel) hy (by decide +kernel)).2
  have e : (0 : Rat) + 3 / 16777216 = 3 / 16777216 := by grind
  rw [e] at h
  exact h
theorem inv_of {w : Rat} (hw : 0 < w) : ∃ s, s * w = 1 ∧ 0 < s := ⟨w⁻¹, Rat.inv_mul_cancel w (by grind), Rat.inv_pos.2 hw⟩
theorem abs_term {z D y k : Rat} (h : ab (z - D * y) ≤ ab D * k + 1 / 1000000000000000000000000000000) (hy : 0 ≤ y) : ab z ≤ ab D * y + ab D * k + 1 / 1000000000000000000000000000000 := by
  have k1 := ab_add_le (z - D * y) (D * y)
  have e : z - D * y + D * y = z := by grind
  rw [e, ab_mul D y, ab_of_nonneg hy] at k1
  grind
/-- Ends' triangles: exact facts. -/
theorem tri_rat {g h s w : Rat} (hg0 : 0 ≤ g) (hg1 : g ≤ 1) (hh0 : 0 ≤ h) (hh1 : h ≤ 1) (hs : s * w = 1) (hs0 : 0 < s) (hw : g + h ≤ w) : 0 ≤ g * g / 2 * s ∧ 0 ≤ h * h / 2 * s ∧ g * g / 2 * s + h * h / 2 * s ≤ 1 ∧ g * s ≤ 1 ∧ h * s ≤ 1 := by
  have m1 := Rat.mul_le_mul_of_nonneg_right hw (Rat.le_of_lt hs0)
  have a1 := Rat.mul_nonneg hg0 (Rat.le_of_lt hs0)
  have a2 := Rat.mul_nonneg hh0 (Rat.le_of_lt hs0)
  have b1 := Rat.mul_nonneg a1 hg0
  have b2 := Rat.mul_nonneg a2 hh0
  have c1 := Rat.mul_le_mul_of_nonneg_left hg1 a1
  have c2 := Rat.mul_le_mul_of_nonneg_left hh1 a2
  have e1 : g * g / 2 * s = 1 / 2 * (g * s * g) := by grind
  have e2 : h * h / 2 * s = 1 / 2 * (h * s * h) := by grind
  have e3 : (g + h) * s = g * s + h * s := by grind
  rw [e1, e2]
  rw [e3] at m1
  have e4 : w * s = 1 := by grind
  rw [e4] at m1
  generalize g * s * g = p at *
  generalize h * s * h = q at *
  generalize g * s = gs at *
  generalize h * s = hs' at *
  grind
set_option maxHeartbeats 1000000 in
/-- Three cells. -/
theorem rowT_near {W base d lo hi : Nat} {B : Rat} (hl : Xs lo) (hh : Xs hi) (hd : Bd d 0) (hB0 : 120 ≤ B) (hlt : V lo < V hi) (hc : fce hi = ffl lo + 2) :
    RowNear (frowT W base d lo hi) W base (V d) (V lo) (V hi) B := by
  obtain ⟨_, el, l1, l2⟩ := hl.fl
  obtain ⟨_, eh, h1, h2⟩ := hh.ce
  obtain ⟨fl1, fl2⟩ := floor_near (V lo)
  obtain ⟨ce1, ce2⟩ := ceil_near (V hi)
  rw [← el] at fl1 fl2
  rw [← eh] at ce1 ce2
  have G := low_part hl
  have H := high_part hh
  obtain ⟨s1, s2, s3, s4⟩ := inv_part hl hh hlt
  have hcr : (fce hi : Rat) = (ffl lo : Rat) + 2 := by rw [hc]; push_cast; rfl
  obtain ⟨g, hg⟩ : ∃ g, g = (ffl lo : Rat) + 1 - V lo := ⟨_, rfl⟩
  obtain ⟨h, hhh⟩ : ∃ h, h = V hi - ((fce hi : Rat) - 1) := ⟨_, rfl⟩
  obtain ⟨w, hw⟩ : ∃ w, w = V hi - V lo := ⟨_, rfl⟩
  rw [← hg] at G
  rw [← hhh] at H
  rw [← hw] at s4
  have hw0 : 0 < w := by grind
  have hwgh : w = g + h := by grind
  have hwb : w ≤ 100000 := by have := G.g1; have := H.g1; grind
  obtain ⟨s, hs, hs0⟩ := inv_of hw0
  obtain ⟨p1, p2', p3⟩ := half_part s1 s2 s3 hw0 hwb s4
  have p4 : V (fop .mul 1056964608 (fop .quo 1065353216 (fop .sub hi lo))) ≤ 300000000000000 := by
    obtain ⟨_, r⟩ := fmul_ok fhalf.1.fin s1 (big126 (by rw [fhalf.2]; exact ab_le (by grind) (by grind)))
    rw [fhalf.2] at r
    have n := r.near5.2
    rw [ab_of_nonneg (x := 1 / 2 * V (fop .quo 1065353216 (fop .sub hi lo))) (by grind)] at n
    obtain ⟨a, _⟩ := ab_iff.1 n
    grind
  obtain ⟨a1, a2, a3⟩ := quad_part (w := w) (s := s) G p1 p2' p4 hw0 hs p3 (by have := H.g0; grind)
  obtain ⟨b1, b2, b3⟩ := quad_part (w := w) (s := s) H p1 p2' p4 hw0 hs p3 (by have := G.g0; grind)
  obtain ⟨t1, t2, t3, t4, t5⟩ := tri_rat (Rat.le_of_lt G.g0) G.g1 (Rat.le_of_lt H.g0) H.g1 hs hs0 (by rw [hwgh]; exact Rat.le_refl)
  have hg0 := G.g0
  have hg1 := G.g1
  have hh0 := H.g0
  have hh1 := H.g1
  unfold frowT
  generalize fop .mul (fop .mul (fop .mul 1056964608 (fop .quo 1065353216 (fop .sub hi lo))) (fop .sub 1065353216 (fop .sub lo (floatOfInt .f32 (ffl lo))))) (fop .sub 1065353216 (fop .sub lo (floatOfInt .f32 (ffl lo)))) = A at *
  generalize fop .mul (fop .mul (fop .mul 1056964608 (fop .quo 1065353216 (fop .sub hi lo))) (fop .add (fop .sub hi (floatOfInt .f32 (fce hi))) 1065353216)) (fop .add (fop .sub hi (floatOfInt .f32 (fce hi))) 1065353216) = M at *
  have hAM : s * (g + 1 / 2 - (1 - h) * (1 - h) / 2) = 1 - h * h / 2 * s := by
    have : s * (g + h) = 1 := by rw [← hwgh]; exact hs
    grind
  have hA0 : s * (g * g / 2) = g * g / 2 * s := by grind
  generalize g * g / 2 * s = A0 at *
  generalize h * h / 2 * s = AM at *
  have hone : ab (V 1065353216 - 1) ≤ 0 := by rw [fone.2]; decide +kernel
  obtain ⟨f1, n1⟩ := subE (X := 1) (E := 18 / 16777216) fone.1.fin a1 hone a3 (ab_le (by grind) (by grind)) (by grind) (by grind)
  obtain ⟨f2, n2⟩ := subE (X := 1) (E := 36 / 16777216) f1 b1 n1 b3 (ab_le (by grind) (by grind)) (by grind) (by grind)
  have habA : ab (V A) ≤ 2 := by obtain ⟨x, y⟩ := ab_iff.1 a3; exact ab_le (by grind) (by grind)
  have habM : ab (V M) ≤ 2 := by obtain ⟨x, y⟩ := ab_iff.1 b3; exact ab_le (by grind) (by grind)
  -- the same, against the words themselves
  have zz : ∀ z : Nat, ab (V z - V z) ≤ 0 := fun z => by have : V z - V z = 0 := by grind
                                                         rw [this]; decide +kernel
  obtain ⟨_, m1⟩ := subE (X := 11 / 10) (E := 2 / 16777216) fone.1.fin a1 hone (zz A) (by obtain ⟨x, y⟩ := ab_iff.1 a3; exact ab_le (by grind) (by grind)) (by grind) (by grind)
  obtain ⟨_, m2⟩ := subE (X := 11 / 10) (E := 2 / 16777216) f1 b1 (zz _) (zz M) (by obtain ⟨x, y⟩ := ab_iff.1 n1; obtain ⟨x2, y2⟩ := ab_iff.1 b3; exact ab_le (by grind) (by grind)) (by grind) (by grind)
  generalize hT1 : fop .sub 1065353216 A = T1 at *
  generalize hT2 : fop .sub T1 M = T2 at *
  obtain ⟨q0, v0⟩ := termE hd a1 a3 (ab_le (by grind) (by grind)) (by grind)
  obtain ⟨q1, v1⟩ := termE hd f2 n2 (ab_le (by grind) (by grind)) (by grind)
  obtain ⟨q2, v2⟩ := termE hd b1 b3 (ab_le (by grind) (by grind)) (by grind)
  have u0 := termX hd a1 habA
  have u1 := termX hd f2 (by obtain ⟨x, y⟩ := ab_iff.1 n2; exact ab_le (by grind) (by grind))
  have u2 := termX hd b1 habM
  generalize fop .mul d A = x0 at *
  generalize fop .mul d T2 = x1 at *
  generalize fop .mul d M = x2 at *
  have hD0 := ab_nonneg (V d)
  have hval : valL [(base + clampN (ffl lo) W, x0), (base + clampN (ffl lo + 1) W, x1), (base + clampN (fce hi) W, x2)] = [(base + clampN (ffl lo) W, V x0), (base + clampN (ffl lo + 1) W, V x1), (base + clampN (fce hi) W, V x2)] := rfl
  have hDB : ab (V d) * 128 ≤ ab (V d) * (B + 8) := Rat.mul_le_mul_of_nonneg_left (by grind) hD0
  have eB2 : ab (V d) * ((B + 8) / 16777216) = ab (V d) * (B + 8) / 16777216 := by grind
  have htot : ab (V x0 + V x1 + V x2 - V d) ≤ ab (V d) * (24 / 16777216) + 1 / 200000000000000000000000000000 := by
    have k1 : ab (V d * (V T2 - (V T1 - V M))) ≤ ab (V d) * (2 / 16777216) := ab_mul_le Rat.le_refl m2
    have k2 : ab (V d * (V T1 - (1 - V A))) ≤ ab (V d) * (2 / 16777216) := ab_mul_le Rat.le_refl m1
    have e : V x0 + V x1 + V x2 - V d = (V x0 - V d * V A) + ((V x1 - V d * V T2) + ((V x2 - V d * V M) + (V d * (V T2 - (V T1 - V M)) + V d * (V T1 - (1 - V A))))) := by grind
    rw [e]
    have j1 := ab_add_le (V x0 - V d * V A) ((V x1 - V d * V T2) + ((V x2 - V d * V M) + (V d * (V T2 - (V T1 - V M)) + V d * (V T1 - (1 - V A)))))
    have j2 := ab_add_le (V x1 - V d * V T2) ((V x2 - V d * V M) + (V d * (V T2 - (V T1 - V M)) + V d * (V T1 - (1 - V A))))
    have j3 := ab_add_le (V x2 - V d * V M) (V d * (V T2 - (V T1 - V M)) + V d * (V T1 - (1 - V A)))
    have j4 := ab_add_le (V d * (V T2 - (V T1 - V M))) (V d * (V T1 - (1 - V A)))
    grind
  refine ⟨fun X hX => ?_, ?_, ?_, ?_, ?_⟩
  · rw [hval, sumR_place hX, sumR_place hX, sumR_place hX, eB2]
    simp only [sumR]
    have hms := mean_s (z := (X : Rat) + 1) hs hw
    rcases Int.lt_or_le (X : Int) (ffl lo) with c | c
    · have h3 := castLe (show (X : Int) + 1 ≤ ffl lo by omega)
      push_cast at h3
      rw [if_neg (by omega), if_neg (by omega), if_neg (by omega), mean_zero (by grind) (by grind)]
      have e : (0 : Rat) + (0 + (0 + 0)) - V d * 0 = 0 := by grind
      rw [e, ab_of_nonneg Rat.le_refl]
      grind
    · rcases Int.lt_or_le (X : Int) (ffl lo + 1) with c2 | c2
      · have h3 : (X : Rat) = (ffl lo : Rat) := by
          have : (X : Int) = ffl lo := by omega
          rw [← this]; push_cast; rfl
        rw [if_pos (by omega), if_neg (by omega), if_neg (by omega), hms, kk_mid (z := (X : Rat) + 1 - V lo) (by grind) (by grind), kk_low (z := (X : Rat) + 1 - V hi) (by grind)]
        have e0 : (X : Rat) + 1 - V lo = g := by grind
        rw [e0]
        have e : V x0 + (0 + (0 + 0)) - V d * (s * (g * g / 2 - 0)) = V x0 - V d * A0 := by rw [← hA0]; grind
        rw [e]
        grind
      · rcases Int.lt_or_le (X : Int) (ffl lo + 2) with c3 | c3
        · have h3 : (X : Rat) = (ffl lo : Rat) + 1 := by
            have : (X : Int) = ffl lo + 1 := by omega
            have := congrArg (fun z : Int => (z : Rat)) this
            push_cast at this
            exact this
          have e0 : (X : Rat) + 1 - V lo = g + 1 := by grind
          have e1 : (X : Rat) + 1 - V hi = 1 - h := by grind
          rw [if_pos (by omega), if_pos (by omega), if_neg (by omega), hms, kk_high (z := (X : Rat) + 1 - V lo) (by grind), kk_mid (z := (X : Rat) + 1 - V hi) (by grind) (by grind), e0, e1]
          have e2 : g + 1 - 1 / 2 - (1 - h) * (1 - h) / 2 = g + 1 / 2 - (1 - h) * (1 - h) / 2 := by grind
          rw [e2, hAM]
          have e : V x0 + (V x1 + (0 + 0)) - V d * (1 - AM) = (V x0 - V d * A0) + (V x1 - V d * (1 - A0 - AM)) := by grind
          rw [e]
          have k := ab_add_le (V x0 - V d * A0) (V x1 - V d * (1 - A0 - AM))
          grind
        · have h3 := castLe (show ffl lo + 2 ≤ (X : Int) by omega)
          push_cast at h3
          rw [if_pos (by omega), if_pos (by omega), if_pos (by omega), mean_one (by grind) (by grind)]
          have e : V x0 + (V x1 + (V x2 + 0)) - V d * 1 = V x0 + V x1 + V x2 - V d := by grind
          rw [e]
          grind
  · rw [hval]
    simp only [totR]
    have e : V x0 + (V x1 + (V x2 + 0)) - V d = V x0 + V x1 + V x2 - V d := by grind
    rw [e]
    grind
  · rw [hval]
    simp only [absR]
    have k0 := abs_term v0 t1
    have k1 := abs_term v1 (by grind)
    have k2 := abs_term v2 t2
    have e : ab (V d) * (1 - A0 - AM) = ab (V d) - ab (V d) * A0 - ab (V d) * AM := by grind
    rw [e] at k1
    generalize ab (V d) * A0 = z0 at *
    generalize ab (V d) * AM = z1 at *
    grind
  · have := ab_nonneg (V hi - V lo)
    simp only [List.length_cons, List.length_nil]
    push_cast
    grind
  · intro p hp
    simp only [List.mem_cons, List.not_mem_nil, or_false] at hp
    rcases hp with rfl | rfl | rfl <;> exact clamp_place _ _ _

theorem mulE {a b : Nat} {x y e f X Y E : Rat} (ha : F32 a) (hb : F32 b) (hx : ab (V a - x) ≤ e) (hy : ab (V b - y) ≤ f) (hX : ab x ≤ X) (hY : ab y ≤ Y) (he : 0 ≤ e) (hf : 0 ≤ f) (hbig : (X + e) * (Y + f) ≤ 1000000)
    (hE : e * Y + X * f + e * f + (X + e) * (Y + f) * (1 / 16777216) + 1 / 1000000000000000000000000000000 ≤ E) :
    F32 (fop .mul a b) ∧ ab (V (fop .mul a b) - x * y) ≤ E := by
  have k1 : ab (V a) ≤ X + e := by
    have k := ab_add_le (V a - x) x
    have e1 : V a - x + x = V a := by grind
    rw [e1] at k
    grind
  have k2 : ab (V b) ≤ Y + f := by
    have k := ab_add_le (V b - y) y
    have e1 : V b - y + y = V b := by grind
    rw [e1] at k
    grind
  have k3 : ab (V a * V b) ≤ (X + e) * (Y + f) := ab_mul_le k1 k2
  obtain ⟨_, r⟩ := fmul_ok ha hb (big126 (by grind))
  have n := r.near5.2
  refine ⟨r.fin, ?_⟩
  have j1 : ab ((V a - x) * y) ≤ e * Y := ab_mul_le hx hY
  have j2 : ab (x * (V b - y)) ≤ X * f := ab_mul_le hX hy
  have j3 : ab ((V a - x) * (V b - y)) ≤ e * f := ab_mul_le hx hy
  have e1 : V (fop .mul a b) - x * y = (V (fop .mul a b) - V a * V b) + ((V a - x) * y + (x * (V b - y) + (V a - x) * (V b - y))) := by grind
  rw [e1]
  have i1 := ab_add_le (V (fop .mul a b) - V a * V b) ((V a - x) * y + (x * (V b - y) + (V a - x) * (V b - y)))
  have i2 := ab_add_le ((V a - x) * y) (x * (V b - y) + (V a - x) * (V b - y))
  have i3 := ab_add_le (x * (V b - y)) ((V a - x) * (V b - y))
  generalize ab (V (fop .mul a b) - V a * V b) = z1 at *
  generalize ab (V a * V b) = z2 at *
  generalize (X + e) * (Y + f) = z3 at *
  generalize e * Y = z4 at *
  generalize X * f = z5 at *
  generalize e * f = z6 at *
  grind
theorem frac_near {lo : Nat} (h : Xs lo) : F32 (fop .sub lo (floatOfInt .f32 (ffl lo))) ∧ ab (V (fop .sub lo (floatOfInt .f32 (ffl lo))) - (V lo - (ffl lo : Rat))) ≤ 2 / 16777216 := by
  obtain ⟨_, e, b1, b2⟩ := h.fl
  obtain ⟨i1, i2⟩ := int15 b1 b2
  obtain ⟨f1, f2⟩ := floor_near (V lo)
  rw [← e] at f1 f2
  have zz : ab (V lo - V lo) ≤ 0 := by have : V lo - V lo = 0 := by grind
                                       rw [this]; decide +kernel
  have z2 : ab (V (floatOfInt .f32 (ffl lo)) - (ffl lo : Rat)) ≤ 0 := by
    rw [i2]
    have : (ffl lo : Rat) - (ffl lo : Rat) = 0 := by grind
    rw [this]; decide +kernel
  exact subE (X := 1) (E := 2 / 16777216) h.bd.fin i1.fin zz z2 (ab_le (by grind) (by grind)) (by grind) (by grind)
theorem sum10 {D a b c d e f g h i j : Rat} (h1 : ab a ≤ D * (3 / 16777216) + 1 / 1000000000000000000000000000000) (h2 : ab b ≤ D * (3 / 16777216) + 1 / 1000000000000000000000000000000) (h3 : ab c ≤ D * (2 / 16777216) + 1 / 400000000000000000000000000)
    (h4 : ab d ≤ D * (3 / 16777216) + 1 / 1000000000000000000000000000000) (h5 : ab e ≤ D * (3 / 16777216) + 1 / 1000000000000000000000000000000) (h6 : ab f ≤ D * (2 / 16777216)) (h7 : ab g ≤ D * (2 / 16777216)) (h8 : ab h ≤ D * (2 / 16777216)) (h9 : ab i ≤ D * (2 / 16777216)) (h10 : ab j ≤ D * (2 / 16777216)) :
    ab (a + (b + (c + (d + (e + (f + (g + (h - (i + j))))))))) ≤ D * (24 / 16777216) + 1 / 200000000000000000000000000 := by
  obtain ⟨a1, a2⟩ := ab_iff.1 h1
  obtain ⟨b1, b2⟩ := ab_iff.1 h2
  obtain ⟨c1, c2⟩ := ab_iff.1 h3
  obtain ⟨d1, d2⟩ := ab_iff.1 h4
  obtain ⟨e1, e2⟩ := ab_iff.1 h5
  obtain ⟨f1, f2⟩ := ab_iff.1 h6
  obtain ⟨g1, g2⟩ := ab_iff.1 h7
  obtain ⟨i1, i2⟩ := ab_iff.1 h8
  obtain ⟨j1, j2⟩ := ab_iff.1 h9
  obtain ⟨k1, k2⟩ := ab_iff.1 h10
  clear h1 h2 h3 h4 h5 h6 h7 h8 h9 h10
  exact ab_le (by grind) (by grind)
set_option maxHeartbeats 2000000 in
/-- Many cells. -/
theorem rowM_near {W base d lo hi N : Nat} {B : Rat} (hl : Xs lo) (hh : Xs hi) (hd : Bd d 0) (hB0 : 120 ≤ B) (hB1 : B ≤ 1024) (hbl : ab (V lo) ≤ B) (hbh : ab (V hi) ≤ B) (hlt : V lo < V hi) (hN : fce hi = ffl lo + 3 + (N : Int)) :
    RowNear (frowM W base d lo hi N) W base (V d) (V lo) (V hi) B := by
  obtain ⟨_, el, l1, l2⟩ := hl.fl
  obtain ⟨_, eh, h1, h2⟩ := hh.ce
  obtain ⟨fl1, fl2⟩ := floor_near (V lo)
  obtain ⟨ce1, ce2⟩ := ceil_near (V hi)
  rw [← el] at fl1 fl2
  rw [← eh] at ce1 ce2
  have G := low_part hl
  have H := high_part hh
  obtain ⟨fr1, fr2⟩ := frac_near hl
  obtain ⟨s1, s2, s3, s4⟩ := inv_part hl hh hlt
  have hcr : (fce hi : Rat) = (ffl lo : Rat) + 3 + (N : Rat) := by rw [hN]; push_cast; rfl
  obtain ⟨g, hg⟩ : ∃ g, g = (ffl lo : Rat) + 1 - V lo := ⟨_, rfl⟩
  obtain ⟨h, hhh⟩ : ∃ h, h = V hi - ((fce hi : Rat) - 1) := ⟨_, rfl⟩
  obtain ⟨w, hw⟩ : ∃ w, w = V hi - V lo := ⟨_, rfl⟩
  rw [← hg] at G
  rw [← hhh] at H
  rw [← hw] at s4
  have hg0 := G.g0
  have hg1 := G.g1
  have hh0 := H.g0
  have hh1 := H.g1
  have hNn : (0 : Rat) ≤ (N : Rat) := by exact_mod_cast Nat.zero_le N
  have hwgh : w = g + h + (N + 1) := by grind
  have hw0 : 0 < w := by grind
  have hw2 : w ≤ 2048 := by
    obtain ⟨x, y⟩ := ab_iff.1 hbl
    obtain ⟨x2, y2⟩ := ab_iff.1 hbh
    grind
  have hwb : w ≤ 100000 := by grind
  have hN2 : (N : Rat) ≤ 2048 := by grind
  obtain ⟨s, hs, hs0⟩ := inv_of hw0
  obtain ⟨p1, p2', p3⟩ := half_part s1 s2 s3 hw0 hwb s4
  have p4 : V (fop .mul 1056964608 (fop .quo 1065353216 (fop .sub hi lo))) ≤ 300000000000000 := by
    obtain ⟨_, r⟩ := fmul_ok fhalf.1.fin s1 (big126 (by rw [fhalf.2]; exact ab_le (by grind) (by grind)))
    rw [fhalf.2] at r
    have n := r.near5.2
    rw [ab_of_nonneg (x := 1 / 2 * V (fop .quo 1065353216 (fop .sub hi lo))) (by grind)] at n
    obtain ⟨a, _⟩ := ab_iff.1 n
    grind
  obtain ⟨a1, a2, a3⟩ := quad_part (w := w) (s := s) G p1 p2' p4 hw0 hs p3 (by grind)
  obtain ⟨b1, b2, b3⟩ := quad_part (w := w) (s := s) H p1 p2' p4 hw0 hs p3 (by grind)
  obtain ⟨t1, t2, t3, t4, t5⟩ := tri_rat (Rat.le_of_lt hg0) hg1 (Rat.le_of_lt hh0) hh1 hs hs0 (by grind)
  -- products with s
  have hsN0 : 0 ≤ s * N := Rat.mul_nonneg (Rat.le_of_lt hs0) hNn
  have hsum : g * s + h * s + s * N + s = 1 := by
    have : s * (g + h + (N + 1)) = 1 := by rw [← hwgh]; exact hs
    grind
  have hgs0 : 0 ≤ g * s := Rat.mul_nonneg (Rat.le_of_lt hg0) (Rat.le_of_lt hs0)
  have hhs0 : 0 ≤ h * s := Rat.mul_nonneg (Rat.le_of_lt hh0) (Rat.le_of_lt hs0)
  have hAle : g * g / 2 * s ≤ g * s := by
    have m1 := Rat.mul_le_mul_of_nonneg_left hg1 hgs0
    have e : g * g / 2 * s = 1 / 2 * (g * s * g) := by grind
    have m2 := Rat.mul_nonneg hgs0 (Rat.le_of_lt hg0)
    rw [e]
    grind
  have hMle : h * h / 2 * s ≤ h * s := by
    have m1 := Rat.mul_le_mul_of_nonneg_left hh1 hhs0
    have e : h * h / 2 * s = 1 / 2 * (h * s * h) := by grind
    have m2 := Rat.mul_nonneg hhs0 (Rat.le_of_lt hh0)
    rw [e]
    grind
  -- the reciprocal itself
  have hS : ab (V (fop .quo 1065353216 (fop .sub hi lo)) - s) ≤ s * (3 / 16777216) := by
    have e : V (fop .quo 1065353216 (fop .sub hi lo)) - s = (V (fop .quo 1065353216 (fop .sub hi lo)) * w - 1) * s := by
      have : (V (fop .quo 1065353216 (fop .sub hi lo)) * w - 1) * s = V (fop .quo 1065353216 (fop .sub hi lo)) * (s * w) - s := by grind
      rw [this, hs]
      grind
    rw [e, ab_mul, ab_of_nonneg (Rat.le_of_lt hs0)]
    have := Rat.mul_le_mul_of_nonneg_right s4 (Rat.le_of_lt hs0)
    grind
  have hs1 : s ≤ 1 := by grind
  have hS3 : ab (V (fop .quo 1065353216 (fop .sub hi lo)) - s) ≤ 3 / 16777216 := by grind
  obtain ⟨k1, k2⟩ := ofInt_bd (n := fce hi - ffl lo - 3) (k := 17) (by decide) (by omega) (by omega)
  have k3 : V (floatOfInt .f32 (fce hi - ffl lo - 3)) = N := by
    rw [k2]
    have : fce hi - ffl lo - 3 = (N : Int) := by omega
    rw [this]
    push_cast
    rfl
  unfold frowM
  generalize fop .mul (fop .mul (fop .mul 1056964608 (fop .quo 1065353216 (fop .sub hi lo))) (fop .sub 1065353216 (fop .sub lo (floatOfInt .f32 (ffl lo))))) (fop .sub 1065353216 (fop .sub lo (floatOfInt .f32 (ffl lo)))) = A at *
  generalize fop .mul (fop .mul (fop .mul 1056964608 (fop .quo 1065353216 (fop .sub hi lo))) (fop .add (fop .sub hi (floatOfInt .f32 (fce hi))) 1065353216)) (fop .add (fop .sub hi (floatOfInt .f32 (fce hi))) 1065353216) = M at *
  generalize fop .quo 1065353216 (fop .sub hi lo) = S at *
  generalize fop .sub lo (floatOfInt .f32 (ffl lo)) = F at *
  generalize floatOfInt .f32 (fce hi - ffl lo - 3) = K at *
  have hAM : s * (g + N + 3 / 2 - (1 - h) * (1 - h) / 2) = 1 - h * h / 2 * s := by grind
  have hA0 : s * (g * g / 2) = g * g / 2 * s := by grind
  have hone : ab (V 1065353216 - 1) ≤ 0 := by rw [fone.2]; decide +kernel
  have h15 : ab (V 1069547520 - 3 / 2) ≤ 0 := by
    rw [f15.2]
    have : (3 : Rat) / 2 - 3 / 2 = 0 := by grind
    rw [this]; decide +kernel
  have zz : ∀ z : Nat, ab (V z - V z) ≤ 0 := fun z => by have : V z - V z = 0 := by grind
                                                         rw [this]; decide +kernel
  -- 3/2 - f
  obtain ⟨c1, c2⟩ := subE (X := 3 / 2) (E := 4 / 16777216) f15.1.fin fr1 h15 fr2 (ab_le (by grind) (by grind)) (by grind) (by grind)
  have e15 : (3 : Rat) / 2 - (V lo - (ffl lo : Rat)) = g + 1 / 2 := by grind
  rw [e15] at c2
  generalize fop .sub 1069547520 F = L at *
  -- a1
  obtain ⟨d1, d2⟩ := mulE (X := 1) (Y := 3 / 2) (e := 3 / 16777216) (f := 4 / 16777216) (E := 11 / 16777216) s1 c1 hS3 c2 (ab_le hs1 (by grind)) (ab_le (by grind) (by grind)) (by decide +kernel) (by decide +kernel) (by decide +kernel) (by decide +kernel)
  have ea1 : s * (g + 1 / 2) = g * s + s / 2 := by grind
  rw [ea1] at d2
  generalize fop .mul S L = C at *
  generalize hgA : g * g / 2 * s = A0 at *
  generalize hgM : h * h / 2 * s = AM at *
  generalize hgs : g * s = gs at *
  generalize hhs : h * s = hs' at *
  generalize hsN : s * (N : Rat) = sN at *
  -- a1 - a0
  obtain ⟨g1', g2'⟩ := subE (X := 3 / 2) (E := 29 / 16777216) d1 a1 d2 a3 (ab_le (by grind) (by grind)) (by grind) (by grind)
  obtain ⟨_, g3'⟩ := subE (X := 8 / 5) (E := 2 / 16777216) d1 a1 (zz C) (zz A) (by obtain ⟨x, y⟩ := ab_iff.1 a3; obtain ⟨x2, y2⟩ := ab_iff.1 d2; exact ab_le (by grind) (by grind)) (by grind) (by grind)
  generalize fop .sub C A = CA at *
  -- s * N
  have hSN : ab (V S * N) ≤ 11 / 10 := by
    have e : V S * N = (V S - s) * N + sN := by rw [← hsN]; grind
    have j1 : ab ((V S - s) * N) ≤ s * (3 / 16777216) * N := ab_mul_le hS (by rw [ab_of_nonneg hNn]; exact Rat.le_refl)
    have j2 : s * (3 / 16777216) * N = sN * (3 / 16777216) := by rw [← hsN]; grind
    have j3 := ab_add_le ((V S - s) * N) sN
    rw [ab_of_nonneg hsN0] at j3
    rw [e]
    grind
  obtain ⟨_, rN⟩ := fmul_ok s1 k1.fin (big126 (by rw [k3]; grind))
  rw [k3] at rN
  have nN := rN.near5.2
  have hSNd : ab (V S * N - sN) ≤ 3 / 16777216 := by
    have e : V S * N - sN = (V S - s) * N := by rw [← hsN]; grind
    have j1 : ab ((V S - s) * N) ≤ s * (3 / 16777216) * N := ab_mul_le hS (by rw [ab_of_nonneg hNn]; exact Rat.le_refl)
    have j2 : s * (3 / 16777216) * N = sN * (3 / 16777216) := by rw [← hsN]; grind
    rw [e]
    grind
  have fN := rN.fin
  generalize fop .mul S K = Z at *
  have nN2 : ab (V Z - V S * N) ≤ 2 / 16777216 := by grind
  have nN1 : ab (V Z - sN) ≤ 5 / 16777216 := by
    have e : V Z - sN = (V Z - V S * N) + (V S * N - sN) := by grind
    have j := ab_add_le (V Z - V S * N) (V S * N - sN)
    rw [← e] at j
    grind
  -- a2
  obtain ⟨i1, i2⟩ := addE (X := 1) (E := 18 / 16777216) d1 fN d2 nN1 (ab_le (by grind) (by grind)) (by grind) (by grind)
  obtain ⟨_, i3⟩ := addE (X := 11 / 10) (E := 2 / 16777216) d1 fN (zz C) (zz Z) (by obtain ⟨x, y⟩ := ab_iff.1 nN1; obtain ⟨x2, y2⟩ := ab_iff.1 d2; exact ab_le (by grind) (by grind)) (by grind) (by grind)
  generalize fop .add C Z = A2 at *
  obtain ⟨j1, j2⟩ := subE (X := 1) (E := 20 / 16777216) fone.1.fin i1 hone i2 (ab_le (by grind) (by grind)) (by grind) (by grind)
  obtain ⟨_, j3⟩ := subE (X := 11 / 10) (E := 2 / 16777216) fone.1.fin i1 hone (zz A2) (by obtain ⟨x, y⟩ := ab_iff.1 i2; exact ab_le (by grind) (by grind)) (by grind) (by grind)
  generalize fop .sub 1065353216 A2 = U1 at *
  obtain ⟨o1, o2⟩ := subE (X := 1) (E := 38 / 16777216) j1 b1 j2 b3 (ab_le (by grind) (by grind)) (by grind) (by grind)
  obtain ⟨_, o3⟩ := subE (X := 11 / 10) (E := 2 / 16777216) j1 b1 (zz U1) (zz M) (by obtain ⟨x, y⟩ := ab_iff.1 j2; obtain ⟨x2, y2⟩ := ab_iff.1 b3; exact ab_le (by grind) (by grind)) (by grind) (by grind)
  generalize fop .sub U1 M = U2 at *
  -- terms
  obtain ⟨q0, v0⟩ := termE hd a1 a3 (ab_le (by grind) (by grind)) (by grind)
  obtain ⟨q1, v1⟩ := termE hd g1' g2' (ab_le (by grind) (by grind)) (by grind)
  obtain ⟨q3, v3⟩ := termE hd o1 o2 (ab_le (by grind) (by grind)) (by grind)
  obtain ⟨q4, v4⟩ := termE hd b1 b3 (ab_le (by grind) (by grind)) (by grind)
  have u0 := termX hd a1 (by obtain ⟨x, y⟩ := ab_iff.1 a3; exact ab_le (by grind) (by grind))
  have u1 := termX hd g1' (by obtain ⟨x, y⟩ := ab_iff.1 g2'; exact ab_le (by grind) (by grind))
  have u3 := termX hd o1 (by obtain ⟨x, y⟩ := ab_iff.1 o2; exact ab_le (by grind) (by grind))
  have u4 := termX hd b1 (by obtain ⟨x, y⟩ := ab_iff.1 b3; exact ab_le (by grind) (by grind))
  have hD : ab (V d) ≤ 1 := by have := hd.ab; rwa [p2_zero] at this
  have hD0 := ab_nonneg (V d)
  have hVS : 0 ≤ V S ∧ V S ≤ s * (1001 / 1000) := by
    obtain ⟨x, y⟩ := ab_iff.1 hS
    exact ⟨by grind, by grind⟩
  have hmS : ab (V d * V S) ≤ ab (V d) * (s * (1001 / 1000)) := ab_mul_le Rat.le_refl (by rw [ab_of_nonneg hVS.1]; exact hVS.2)
  have hmS2 : ab (V d) * (s * (1001 / 1000)) ≤ 1 * (s * (1001 / 1000)) := Rat.mul_le_mul_of_nonneg_right hD (by grind)
  obtain ⟨_, rS⟩ := fmul_ok hd.fin s1 (big126 (by grind))
  have nS := rS.near5.2
  generalize fop .mul d A = x0 at *
  generalize fop .mul d CA = x1 at *
  generalize fop .mul d S = xS at *
  generalize fop .mul d U2 = x3 at *
  generalize fop .mul d M = x4 at *
  -- k fills
  have fills : ∀ k : Rat, 0 ≤ k → k ≤ N → ab (V xS * k - V d * (V S * k)) ≤ ab (V d) * (2 / 16777216) + 1 / 400000000000000000000000000 ∧ ab (V xS * k - V d * (s * k)) ≤ ab (V d) * (5 / 16777216) + 1 / 400000000000000000000000000 := by
    intro k hk0 hkN
    have hsk : s * k ≤ 1 := by
      have := Rat.mul_le_mul_of_nonneg_left hkN (Rat.le_of_lt hs0)
      grind
    have hsk0 : 0 ≤ s * k := Rat.mul_nonneg (Rat.le_of_lt hs0) hk0
    have e1 : V xS * k - V d * (V S * k) = (V xS - V d * V S) * k := by grind
    have m1 : ab ((V xS - V d * V S) * k) ≤ (ab (V d * V S) * (1 / 16777216) + 1 / 1000000000000000000000000000000) * k := ab_mul_le nS (by rw [ab_of_nonneg hk0]; exact Rat.le_refl)
    have m2 : ab (V d * V S) * k ≤ ab (V d) * (s * (1001 / 1000)) * k := Rat.mul_le_mul_of_nonneg_right hmS hk0
    have e2 : ab (V d) * (s * (1001 / 1000)) * k = ab (V d) * (s * k) * (1001 / 1000) := by grind
    have m3 : ab (V d) * (s * k) ≤ ab (V d) * 1 := Rat.mul_le_mul_of_nonneg_left hsk hD0
    have e3 : (ab (V d * V S) * (1 / 16777216) + 1 / 1000000000000000000000000000000) * k = ab (V d * V S) * k * (1 / 16777216) + k * (1 / 1000000000000000000000000000000) := by grind
    have h1 : ab (V xS * k - V d * (V S * k)) ≤ ab (V d) * (2 / 16777216) + 1 / 400000000000000000000000000 := by
      rw [e1]
      generalize ab ((V xS - V d * V S) * k) = z1 at *
      generalize ab (V d * V S) * k = z2 at *
      generalize ab (V d) * (s * k) = z3 at *
      grind
    refine ⟨h1, ?_⟩
    have e4 : V xS * k - V d * (s * k) = (V xS * k - V d * (V S * k)) + V d * ((V S - s) * k) := by grind
    have m4 : ab ((V S - s) * k) ≤ s * (3 / 16777216) * k := ab_mul_le hS (by rw [ab_of_nonneg hk0]; exact Rat.le_refl)
    have e5 : s * (3 / 16777216) * k = s * k * (3 / 16777216) := by grind
    have m5 : ab (V d * ((V S - s) * k)) ≤ ab (V d) * (3 / 16777216) := ab_mul_le Rat.le_refl (by rw [e5] at m4; grind)
    have j := ab_add_le (V xS * k - V d * (V S * k)) (V d * ((V S - s) * k))
    rw [e4]
    grind
  have hval : valL ([(base + clampN (ffl lo) W, x0), (base + clampN (ffl lo + 1) W, x1)] ++ ffill base W (ffl lo + 2) xS N ++ [(base + clampN (fce hi - 1) W, x3), (base + clampN (fce hi) W, x4)]) =
      [(base + clampN (ffl lo) W, V x0), (base + clampN (ffl lo + 1) W, V x1)] ++ valL (ffill base W (ffl lo + 2) xS N) ++ [(base + clampN (fce hi - 1) W, V x3), (base + clampN (fce hi) W, V x4)] := by
    rw [valL_append, valL_append]
    rfl
  obtain ⟨ft, fa, flen⟩ := totR_fill base W (ffl lo + 2) xS N
  have hDB : ab (V d) * 128 ≤ ab (V d) * (B + 8) := Rat.mul_le_mul_of_nonneg_left (by grind) hD0
  have eB2 : ab (V d) * ((B + 8) / 16777216) = ab (V d) * (B + 8) / 16777216 := by grind
  have fN' := fills N hNn Rat.le_refl
  have htot : ab (V x0 + V x1 + V xS * N + V x3 + V x4 - V d) ≤ ab (V d) * (24 / 16777216) + 1 / 200000000000000000000000000 := by
    have c1 : ab (V d * (V CA - (V C - V A))) ≤ ab (V d) * (2 / 16777216) := ab_mul_le Rat.le_refl g3'
    have c2 : ab (V d * (V Z - V S * N)) ≤ ab (V d) * (2 / 16777216) := ab_mul_le Rat.le_refl nN2
    have c3 : ab (V d * (V A2 - (V C + V Z))) ≤ ab (V d) * (2 / 16777216) := ab_mul_le Rat.le_refl i3
    have c4 : ab (V d * (V U1 - (1 - V A2))) ≤ ab (V d) * (2 / 16777216) := ab_mul_le Rat.le_refl j3
    have c5 : ab (V d * (V U2 - (V U1 - V M))) ≤ ab (V d) * (2 / 16777216) := ab_mul_le Rat.le_refl o3
    have e : V x0 + V x1 + V xS * N + V x3 + V x4 - V d = (V x0 - V d * V A) + ((V x1 - V d * V CA) + ((V xS * N - V d * (V S * N)) + ((V x3 - V d * V U2) + ((V x4 - V d * V M) +
        (V d * (V CA - (V C - V A)) + (V d * (V U2 - (V U1 - V M)) + (V d * (V U1 - (1 - V A2)) - (V d * (V A2 - (V C + V Z)) + V d * (V Z - V S * N))))))))) := by grind
    rw [e]
    exact sum10 u0 u1 fN'.1 u3 u4 c1 c5 c4 c3 c2
  refine ⟨fun X hX => ?_, ?_, ?_, ?_, ?_⟩
  · rw [hval, sumR_append, sumR_append, sumR_place hX, sumR_place hX, sumR_place hX, sumR_place hX, sumR_fill hX, eB2]
    simp only [sumR]
    have hms := mean_s (z := (X : Rat) + 1) hs hw
    rcases Int.lt_or_le (X : Int) (ffl lo) with c | c
    · have h3 := castLe (show (X : Int) + 1 ≤ ffl lo by omega)
      push_cast at h3
      have eu : upTo X (ffl lo + 2) N = 0 := by unfold upTo imin imax; split <;> split <;> omega
      rw [if_neg (by omega), if_neg (by omega), if_neg (by omega), if_neg (by omega), mean_zero (by grind) (by grind), eu, cast_zero]
      have e : (0 : Rat) + (0 + 0) + V xS * 0 + (0 + (0 + 0)) - V d * 0 = 0 := by grind
      rw [e, ab_of_nonneg Rat.le_refl]
      clear fills
      grind
    · rcases Int.lt_or_le (X : Int) (ffl lo + 1) with c2 | c2
      · have h3 : (X : Rat) = (ffl lo : Rat) := by
          have : (X : Int) = ffl lo := by omega
          rw [← this]; push_cast; rfl
        have eu : upTo X (ffl lo + 2) N = 0 := by unfold upTo imin imax; split <;> split <;> omega
        rw [if_pos (by omega), if_neg (by omega), if_neg (by omega), if_neg (by omega), hms, kk_mid (z := (X : Rat) + 1 - V lo) (by grind) (by grind), kk_low (z := (X : Rat) + 1 - V hi) (by grind), eu, cast_zero]
        have e0 : (X : Rat) + 1 - V lo = g := by grind
        rw [e0]
        have e : V x0 + (0 + 0) + V xS * 0 + (0 + (0 + 0)) - V d * (s * (g * g / 2 - 0)) = V x0 - V d * A0 := by rw [← hA0]; grind
        rw [e]
        clear fills
        grind
      · rcases Int.lt_or_le (X : Int) (ffl lo + 2 + (N : Int)) with c3 | c3
        · -- among the fills
          obtain ⟨k, hk⟩ : ∃ k : Nat, (X : Int) = ffl lo + 1 + (k : Int) := ⟨((X : Int) - ffl lo - 1).toNat, by omega⟩
          have hkN : k ≤ N := by omega
          have hkN2 : (k : Rat) ≤ (N : Rat) := by exact_mod_cast hkN
          have hk0 : (0 : Rat) ≤ (k : Rat) := by exact_mod_cast Nat.zero_le k
          have h3 : (X : Rat) = (ffl lo : Rat) + 1 + (k : Rat) := by
            have := congrArg (fun z : Int => (z : Rat)) hk
            push_cast at this
            exact this
          have eu : upTo X (ffl lo + 2) N = (k : Int) := by unfold upTo imin imax; split <;> split <;> omega
          have euR : ((upTo X (ffl lo + 2) N : Int) : Rat) = (k : Rat) := by rw [eu]; push_cast; rfl
          obtain ⟨_, fk⟩ := fills k hk0 hkN2
          rw [if_pos (by omega), if_pos (by omega), if_neg (by omega), if_neg (by omega), hms, kk_high (z := (X : Rat) + 1 - V lo) (by grind), kk_low (z := (X : Rat) + 1 - V hi) (by grind), euR]
          have e : V x0 + (V x1 + 0) + V xS * (k : Rat) + (0 + (0 + 0)) - V d * (s * ((X : Rat) + 1 - V lo - 1 / 2 - 0)) = (V x0 - V d * A0) + ((V x1 - V d * (gs + s / 2 - A0)) + (V xS * k - V d * (s * k))) := by
            have : (X : Rat) + 1 - V lo - 1 / 2 - 0 = g + 1 / 2 + k := by grind
            rw [this, ← hgs]
            grind
          rw [e]
          have y1 := ab_add_le (V x0 - V d * A0) ((V x1 - V d * (gs + s / 2 - A0)) + (V xS * k - V d * (s * k)))
          have y2 := ab_add_le (V x1 - V d * (gs + s / 2 - A0)) (V xS * k - V d * (s * k))
          clear fills
          grind
        · rcases Int.lt_or_le (X : Int) (fce hi) with c4 | c4
          · have h3 : (X : Rat) = (ffl lo : Rat) + 2 + (N : Rat) := by
              have : (X : Int) = ffl lo + 2 + (N : Int) := by omega
              have := congrArg (fun z : Int => (z : Rat)) this
              push_cast at this
              exact this
            have e0 : (X : Rat) + 1 - V lo = g + N + 2 := by grind
            have e1 : (X : Rat) + 1 - V hi = 1 - h := by grind
            have eu : upTo X (ffl lo + 2) N = (N : Int) := by unfold upTo imin imax; split <;> split <;> omega
            have euR : ((upTo X (ffl lo + 2) N : Int) : Rat) = (N : Rat) := by rw [eu]; push_cast; rfl
            rw [if_pos (by omega), if_pos (by omega), if_pos (by omega), if_neg (by omega), hms, kk_high (z := (X : Rat) + 1 - V lo) (by grind), kk_mid (z := (X : Rat) + 1 - V hi) (by grind) (by grind), e0, e1, euR]
            have e2 : g + N + 2 - 1 / 2 - (1 - h) * (1 - h) / 2 = g + N + 3 / 2 - (1 - h) * (1 - h) / 2 := by grind
            rw [e2, hAM]
            have fk := fN'.2
            rw [hsN] at fk
            have e : V x0 + (V x1 + 0) + V xS * (N : Rat) + (V x3 + (0 + 0)) - V d * (1 - AM) = (V x0 - V d * A0) + ((V x1 - V d * (gs + s / 2 - A0)) + ((V xS * N - V d * sN) + (V x3 - V d * (1 - (gs + s / 2 + sN) - AM)))) := by grind
            rw [e]
            have y1 := ab_add_le (V x0 - V d * A0) ((V x1 - V d * (gs + s / 2 - A0)) + ((V xS * N - V d * sN) + (V x3 - V d * (1 - (gs + s / 2 + sN) - AM))))
            have y2 := ab_add_le (V x1 - V d * (gs + s / 2 - A0)) ((V xS * N - V d * sN) + (V x3 - V d * (1 - (gs + s / 2 + sN) - AM)))
            have y3 := ab_add_le (V xS * N - V d * sN) (V x3 - V d * (1 - (gs + s / 2 + sN) - AM))
            clear fills
            grind
          · have h3 := castLe (show fce hi ≤ (X : Int) by omega)
            push_cast at h3
            have eu : upTo X (ffl lo + 2) N = (N : Int) := by unfold upTo imin imax; split <;> split <;> omega
            have euR : ((upTo X (ffl lo + 2) N : Int) : Rat) = (N : Rat) := by rw [eu]; push_cast; rfl
            rw [if_pos (by omega), if_pos (by omega), if_pos (by omega), if_pos (by omega), mean_one (by grind) (by grind), euR]
            have e : V x0 + (V x1 + 0) + V xS * (N : Rat) + (V x3 + (V x4 + 0)) - V d * 1 = V x0 + V x1 + V xS * N + V x3 + V x4 - V d := by grind
            rw [e]
            clear fills
            grind
  · rw [hval, totR_append, totR_append, ft]
    simp only [totR]
    have e : V x0 + (V x1 + 0) + V xS * (N : Rat) + (V x3 + (V x4 + 0)) - V d = V x0 + V x1 + V xS * N + V x3 + V x4 - V d := by grind
    rw [e]
    clear fills
    grind
  · rw [hval, absR_append, absR_append, fa]
    simp only [absR]
    have k0 := abs_term v0 t1
    have k1 := abs_term v1 (by grind)
    have k3 := abs_term v3 (by grind)
    have k4 := abs_term v4 t2
    have k2 : ab (V xS) * N ≤ ab (V d) * sN + ab (V d) * (5 / 16777216) + 1 / 400000000000000000000000000 := by
      have fk := fN'.2
      rw [hsN] at fk
      have j := ab_add_le (V xS * N - V d * sN) (V d * sN)
      have e : V xS * N - V d * sN + V d * sN = V xS * N := by grind
      rw [e, ab_mul (V xS), ab_of_nonneg hNn, ab_mul (V d) sN, ab_of_nonneg hsN0] at j
      grind
    have e1 : ab (V d) * (gs + s / 2 - A0) = ab (V d) * gs + ab (V d) * s / 2 - ab (V d) * A0 := by grind
    have e3 : ab (V d) * (1 - (gs + s / 2 + sN) - AM) = ab (V d) - ab (V d) * gs - ab (V d) * s / 2 - ab (V d) * sN - ab (V d) * AM := by grind
    rw [e1] at k1
    rw [e3] at k3
    generalize ab (V d) * A0 = z0 at *
    generalize ab (V d) * AM = z1 at *
    generalize ab (V d) * gs = z2 at *
    generalize ab (V d) * s = z3 at *
    generalize ab (V d) * sN = z4 at *
    clear fills
    grind
  · have : ab (V hi - V lo) = w := by rw [← hw]; exact ab_of_nonneg (Rat.le_of_lt hw0)
    rw [this]
    simp only [List.length_append, List.length_cons, List.length_nil, flen]
    push_cast
    grind
  · intro p hp
    simp only [List.mem_append, List.mem_cons, List.not_mem_nil, or_false] at hp
    rcases hp with ((rfl | rfl) | hp) | (rfl | rfl)
    · exact clamp_place _ _ _
    · exact clamp_place _ _ _
    · exact ffill_place hp
    · exact clamp_place _ _ _
    · exact clamp_place _ _ _
/-- A row. -/
theorem frow_near {W base x xn d : Nat} {B : Rat} (hx : Xs x) (hn : Xs xn) (hd : Bd d 0) (hB0 : 120 ≤ B) (hB1 : B ≤ 1024) (hbx : ab (V x) ≤ B) (hbn : ab (V xn) ≤ B) : RowNear (frow W base x xn d) W base (V d) (V x) (V xn) B := by
  unfold frow
  split
  · rename_i hc
    exact rowN_near hx hn hd rfl hB0 hB1 hbx hbn hc
  · rename_i hc
    rcases flo_fhi hx.bd.fin hn.bd.fin with ⟨e1, e2, h⟩ | ⟨e1, e2, h⟩
    · rw [e1, e2] at hc ⊢
      obtain ⟨_, el, l1, l2⟩ := hx.fl
      obtain ⟨_, eh, h1, h2⟩ := hn.ce
      obtain ⟨fl1, fl2⟩ := floor_near (V x)
      obtain ⟨ce1, ce2⟩ := ceil_near (V xn)
      rw [← el] at fl1 fl2
      rw [← eh] at ce1 ce2
      have h3 := castLe (show ffl x + 2 ≤ fce xn by omega)
      push_cast at h3
      split
      · exact rowT_near hx hn hd hB0 (by grind) (by omega)
      · exact rowM_near hx hn hd hB0 hB1 hbx hbn (by grind) (by omega)
    · rw [e1, e2] at hc ⊢
      obtain ⟨_, el, l1, l2⟩ := hn.fl
      obtain ⟨_, eh, h1, h2⟩ := hx.ce
      obtain ⟨fl1, fl2⟩ := floor_near (V xn)
      obtain ⟨ce1, ce2⟩ := ceil_near (V x)
      rw [← el] at fl1 fl2
      rw [← eh] at ce1 ce2
      have h3 := castLe (show ffl xn + 2 ≤ fce x by omega)
      push_cast at h3
      split
      · exact (rowT_near hn hx hd hB0 (by grind) (by omega)).swap
      · exact (rowM_near hn hx hd hB0 hB1 hbn hbx (by grind) (by omega)).swap
end Go.Proofs.Ytmgcbodlolnheaa

namespace Go.Proofs.Ytmgcbodlolnheaa
open Flt Go.RowKit
set_option linter.unusedVariables false

/-! ### sums over numbers up to n -/
def sumN (f : Nat → Rat) : Nat → Rat
  | 0 => 0
  | n + 1 => sumN f n + f n
theorem sumN_le {f g : Nat → Rat} : ∀ {n : Nat}, (∀ k, k < n → f k ≤ g k) → sumN f n ≤ sumN g n
  | 0, _ => Rat.le_refl
  | n + 1, h => by
    have h1 := sumN_le (f := f) (g := g) (n := n) fun k hk => h k (by omega)
    have h2 := h n (by omega)
    rw [sumN, sumN]
    grind
theorem sumN_nonneg {f : Nat → Rat} {n : Nat} (h : ∀ k, k < n → 0 ≤ f k) : 0 ≤ sumN f n := by
  induction n with
  | zero => exact Rat.le_refl
  | succ n ih =>
    have h1 := ih fun k hk => h k (by omega)
    have h2 := h n (by omega)
    rw [sumN]
    grind
theorem sumN_mono {f : Nat → Rat} {m n : Nat} (hf : ∀ k, 0 ≤ f k) (h : m ≤ n) : sumN f m ≤ sumN f n := by
  induction n with
  | zero =>
    have : m = 0 := by omega
    rw [this]
    exact Rat.le_refl
  | succ n ih =>
    by_cases hm : m = n + 1
    · rw [hm]; exact Rat.le_refl
    · have h1 := ih (by omega)
      have h2 := hf n
      rw [sumN]
      grind
theorem sumN_mem {f : Nat → Rat} {n k : Nat} (hf : ∀ i, 0 ≤ f i) (h : k < n) : f k ≤ sumN f n := by
  have h1 := sumN_mono (f := f) hf (show k + 1 ≤ n from h)
  have h2 := sumN_nonneg (f := f) (n := k) fun i _ => hf i
  rw [sumN] at h1
  grind
theorem sumN_add (f g : Nat → Rat) : ∀ n, sumN (fun k => f k + g k) n = sumN f n + sumN g n
  | 0 => by simp only [sumN]; grind
  | n + 1 => by simp only [sumN]; rw [sumN_add f g n]; grind
theorem sumN_mul (c : Rat) (f : Nat → Rat) : ∀ n, sumN (fun k => c * f k) n = c * sumN f n
  | 0 => by simp only [sumN]; grind
  | n + 1 => by simp only [sumN]; rw [sumN_mul c f n]; grind
theorem sumN_const (c : Rat) : ∀ n : Nat, sumN (fun _ => c) n = n * c
  | 0 => by simp only [sumN]; push_cast; grind
  | n + 1 => by simp only [sumN]; rw [sumN_const c n]; push_cast; grind
theorem sumN_congr {f g : Nat → Rat} {n : Nat} (h : ∀ k, k < n → f k = g k) : sumN f n = sumN g n := by
  induction n with
  | zero => rfl
  | succ n ih => rw [sumN, sumN, ih fun k hk => h k (by omega), h n (by omega)]
theorem sumN_split (f : Nat → Rat) (m : Nat) : ∀ n, sumN f (m + n) = sumN f m + sumN (fun k => f (m + k)) n
  | 0 => by simp only [sumN, Nat.add_zero]; grind
  | n + 1 => by rw [← Nat.add_assoc, sumN, sumN_split f m n, sumN]; grind
theorem sumN_one {f : Nat → Rat} {d : Rat} {n k : Nat} (hd : 0 ≤ d) : sumN (fun i => f i + if i = k then d else 0) n ≤ sumN f n + d := by
  rw [sumN_add]
  have : sumN (fun i => if i = k then d else 0) n ≤ d := by
    by_cases hk : k < n
    · clear hd
      induction n with
      | zero => omega
      | succ n ih =>
        rw [sumN]
        by_cases hkn : k = n
        · rw [if_pos hkn.symm]
          have : sumN (fun i => if i = k then d else 0) n = sumN (fun _ => 0) n := sumN_congr fun i hi => by rw [if_neg (by omega)]
          rw [this, sumN_const]
          grind
        · rw [if_neg (fun h => hkn h.symm)]
          have := ih (by omega)
          grind
    · have : sumN (fun i => if i = k then d else 0) n = sumN (fun _ => 0) n := sumN_congr fun i hi => by rw [if_neg (by omega)]
      rw [this, sumN_const]
      grind
  grind
/-- Rows of W. -/
theorem sumN_rows (g : Nat → Rat) (W : Nat) (hW : 0 < W) : ∀ H, sumN (fun k => g (k / W)) (H * W) = W * sumN g H
  | 0 => by simp only [Nat.zero_mul, sumN]; grind
  | H + 1 => by
    rw [Nat.add_mul, Nat.one_mul, sumN_split, sumN_rows g W hW H, sumN]
    have : sumN (fun k => g ((H * W + k) / W)) W = sumN (fun _ => g H) W := sumN_congr fun k hk => by
      congr 1
      rw [Nat.add_comm, Nat.add_mul_div_right _ _ hW, Nat.div_eq_of_lt hk]
      omega
    rw [this, sumN_const]
    grind

/-! ### cells -/
/-- What exact additions give to a cell; their sizes. -/
def cellR : List (Nat × Rat) → Nat → Rat
  | [], _ => 0
  | (k, v) :: t, p => (if k = p then v else 0) + cellR t p
def cellA : List (Nat × Rat) → Nat → Rat
  | [], _ => 0
  | (k, v) :: t, p => (if k = p then ab v else 0) + cellA t p
theorem cellR_append : ∀ (s t : List (Nat × Rat)) (p : Nat), cellR (s ++ t) p = cellR s p + cellR t p
  | [], _, _ => by simp only [List.nil_append, cellR]; grind
  | (k, v) :: s, t, p => by rw [List.cons_append, cellR, cellR_append s t, cellR]; grind
theorem cellA_append : ∀ (s t : List (Nat × Rat)) (p : Nat), cellA (s ++ t) p = cellA s p + cellA t p
  | [], _, _ => by simp only [List.nil_append, cellA]; grind
  | (k, v) :: s, t, p => by rw [List.cons_append, cellA, cellA_append s t, cellA]; grind
theorem cellA_nonneg : ∀ (s : List (Nat × Rat)) (p : Nat), 0 ≤ cellA s p
  | [], _ => Rat.le_refl
  | (k, v) :: s, p => by
    have h1 := cellA_nonneg s p
    have h2 := ab_nonneg v
    rw [cellA]
    split <;> grind
theorem cellR_ab : ∀ (s : List (Nat × Rat)) (p : Nat), ab (cellR s p) ≤ cellA s p
  | [], _ => by simp only [cellR, cellA]; decide +kernel
  | (k, v) :: s, p => by
    have h1 := cellR_ab s p
    rw [cellR, cellA]
    have h2 := ab_add_le (if k = p then v else 0) (cellR s p)
    split
    · rename_i h
      rw [if_pos h] at h2
      grind
    · rename_i h
      rw [if_neg h] at h2
      have : ab (0 : Rat) = 0 := by decide +kernel
      grind
theorem cellA_absR : ∀ (s : List (Nat × Rat)) (p : Nat), cellA s p ≤ absR s
  | [], _ => Rat.le_refl
  | (k, v) :: s, p => by
    have h1 := cellA_absR s p
    have h2 := ab_nonneg v
    rw [cellA, absR]
    split <;> grind
theorem cellA_none : ∀ {s : List (Nat × Rat)} {p : Nat}, (∀ x ∈ s, x.1 ≠ p) → cellA s p = 0
  | [], _, _ => rfl
  | (k, v) :: s, p, h => by
    have h1 := h (k, v) (by simp)
    simp only at h1
    rw [cellA, if_neg h1, cellA_none fun x hx => h x (by simp [hx])]
    grind
theorem sumN_cellR : ∀ (s : List (Nat × Rat)) (p : Nat), sumN (cellR s) (p + 1) = sumR s p
  | [], p => by
    have : sumN (cellR []) (p + 1) = sumN (fun _ => 0) (p + 1) := sumN_congr fun k _ => rfl
    rw [this, sumN_const]
    simp only [sumR]
    grind
  | (k, v) :: s, p => by
    have e : sumN (cellR ((k, v) :: s)) (p + 1) = sumN (fun i => (if k = i then v else 0) + cellR s i) (p + 1) := sumN_congr fun i _ => rfl
    rw [e, sumN_add, sumN_cellR s p, sumR]
    congr 1
    by_cases hk : k ≤ p
    · rw [if_pos hk]
      obtain ⟨j, hj⟩ : ∃ j, p + 1 = k + (1 + j) := ⟨p - k, by omega⟩
      rw [hj, sumN_split, sumN_split]
      have e1 : sumN (fun i => if k = i then v else 0) k = sumN (fun _ => 0) k := sumN_congr fun i hi => by rw [if_neg (by omega)]
      have e2 : sumN (fun i => if k = k + (1 + i) then v else 0) j = sumN (fun _ => 0) j := sumN_congr fun i hi => by rw [if_neg (by omega)]
      rw [e1, e2, sumN_const, sumN_const]
      simp only [sumN, Nat.add_zero, if_true]
      grind
    · rw [if_neg hk]
      have e1 : sumN (fun i => if k = i then v else 0) (p + 1) = sumN (fun _ => 0) (p + 1) := sumN_congr fun i hi => by rw [if_neg (by omega)]
      rw [e1, sumN_const]
      grind
/-- How far the cells of a buffer are from exact ones, in all. -/
def offL (l : List Nat) (s : List (Nat × Rat)) (n : Nat) : Rat := sumN (fun k => ab (V (fAt l k) - cellR s k)) n
theorem offL_nonneg (l : List Nat) (s : List (Nat × Rat)) (n : Nat) : 0 ≤ offL l s n := sumN_nonneg fun k _ => ab_nonneg _
theorem fAt_bump (l : List Nat) (k v i : Nat) : fAt (fbump l k v) i = if i = k ∧ k < l.length then fop .add (fAt l k) v else fAt l i := by
  unfold fAt fbump
  by_cases hi : i < l.length
  · have h1 : (l.modify k fun a => fop .add a v).getD i 0 = (l.modify k fun a => fop .add a v)[i]'(by simpa using hi) := by simp [List.getD, hi]
    rw [h1, List.getElem_modify]
    by_cases hk : k = i
    · subst hk
      rw [if_pos rfl, if_pos ⟨rfl, hi⟩]
      simp [List.getD, hi]
    · rw [if_neg hk, if_neg (fun h => hk h.1.symm)]
      simp [List.getD, hi]
  · have h1 : (l.modify k fun a => fop .add a v).getD i 0 = 0 := by simp [List.getD, hi]
    rw [h1]
    by_cases hk : i = k ∧ k < l.length
    · omega
    · rw [if_neg hk]
      simp [List.getD, hi]
theorem off_step {l : List Nat} {s : List (Nat × Rat)} {k v n : Nat} {C E : Rat} (hl : CellsBd l) (hv : Bd v 68) (hn : n ≤ l.length) (hC : ab (cellR s k + V v) ≤ C) (hE : offL l s n ≤ E) (hC0 : 0 ≤ C) (hE0 : 0 ≤ E) :
    offL (fbump l k v) (s ++ [(k, V v)]) n ≤ offL l s n + ((C + E) * (1 / 16777216) + 1 / 1000000000000000000000000000000) := by
  have hd : 0 ≤ (C + E) * (1 / 16777216) + 1 / 1000000000000000000000000000000 := by grind
  refine Rat.le_trans ?_ (sumN_one (k := k) hd)
  unfold offL
  refine sumN_le fun i hi => ?_
  rw [fAt_bump, cellR_append]
  simp only [cellR]
  by_cases hk : i = k
  · subst hk
    rw [if_pos ⟨rfl, by omega⟩, if_pos rfl, if_pos rfl]
    obtain ⟨q1, _⟩ := Bd.sat (hl.at i) (hv.mono (by decide)) (by decide) (by decide)
    have hb := (hl.at i).ab
    have hb2 := hv.ab
    have hsz : ab (V (fAt l i) + V v) ≤ p2 126 := by
      have k := ab_add_le (V (fAt l i)) (V v)
      have m1 := p2_mono (a := 68) (b := 100) (by decide)
      have m2 := p2_mono (a := 101) (b := 126) (by decide)
      have m3 : p2 101 = 2 * p2 100 := by rw [← p2_succ]; rfl
      grind
    obtain ⟨_, r⟩ := fadd_ok (hl.at i).fin hv.fin hsz
    have nr := r.near5.2
    have hi2 : ab (V (fAt l i) - cellR s i) ≤ E := Rat.le_trans (sumN_mem (f := fun k => ab (V (fAt l k) - cellR s k)) (fun _ => ab_nonneg _) hi) hE
    have e1 : V (fAt l i) + V v = (V (fAt l i) - cellR s i) + (cellR s i + V v) := by grind
    have k1 := ab_add_le (V (fAt l i) - cellR s i) (cellR s i + V v)
    rw [← e1] at k1
    have e2 : V (fop .add (fAt l i) v) - (cellR s i + (V v + 0)) = (V (fop .add (fAt l i) v) - (V (fAt l i) + V v)) + (V (fAt l i) - cellR s i) := by grind
    rw [e2]
    have k2 := ab_add_le (V (fop .add (fAt l i) v) - (V (fAt l i) + V v)) (V (fAt l i) - cellR s i)
    generalize ab (V (fop .add (fAt l i) v) - (V (fAt l i) + V v)) = z1 at *
    generalize ab (V (fAt l i) - cellR s i) = z2 at *
    generalize ab (V (fAt l i) + V v) = z3 at *
    generalize ab (cellR s i + V v) = z4 at *
    grind
  · rw [if_neg (fun h => hk h.1), if_neg (fun h => hk h.symm), if_neg hk]
    have e : cellR s i + (0 + 0) = cellR s i := by grind
    rw [e]
    grind
/-- One edge's additions. -/
theorem off_list {n : Nat} {C κ : Rat} (hC0 : 0 ≤ C) (hκ0 : 0 ≤ κ) (hκ1 : κ ≤ 1) : ∀ (t : List (Nat × Nat)) (l : List Nat) (s : List (Nat × Rat)) (E : Rat), CellsBd l → (∀ p ∈ t, Bd p.2 68) → n ≤ l.length → (∀ k, cellA s k + cellA (valL t) k ≤ C) → offL l s n ≤ E →
    E + t.length * ((C + κ) * (1 / 16777216) + 1 / 1000000000000000000000000000000) ≤ κ → 0 ≤ E →
    offL (fadds t l) (s ++ valL t) n ≤ E + t.length * ((C + κ) * (1 / 16777216) + 1 / 1000000000000000000000000000000)
  | [], l, s, E, hl, hv, hn, hC, hE, hb, hE0 => by
    simp only [fadds, valL, List.map_nil, List.append_nil, List.length_nil]
    push_cast
    grind
  | (k, v) :: t, l, s, E, hl, hv, hn, hC, hE, hb, hE0 => by
    have hv0 := hv (k, v) (by simp)
    simp only at hv0
    have hval : valL ((k, v) :: t) = (k, V v) :: valL t := rfl
    rw [List.length_cons] at hb
    have hlen : (0 : Rat) ≤ (t.length : Rat) := by exact_mod_cast Nat.zero_le _
    have hδ : 0 ≤ (C + κ) * (1 / 16777216) + 1 / 1000000000000000000000000000000 := by grind
    have hmul := Rat.mul_nonneg hlen hδ
    push_cast at hb
    have hk0 := hC k
    rw [hval, cellA, if_pos rfl] at hk0
    have hA := cellA_nonneg (valL t) k
    have hcr : ab (cellR s k + V v) ≤ C := by
      have k1 := ab_add_le (cellR s k) (V v)
      have k2 := cellR_ab s k
      grind
    have hE1 : E ≤ κ := by grind
    have st := off_step (k := k) (v := v) hl hv0 hn hcr hE hC0 hE0
    have st2 : offL (fbump l k v) (s ++ [(k, V v)]) n ≤ E + ((C + κ) * (1 / 16777216) + 1 / 1000000000000000000000000000000) := by grind
    have ih := off_list hC0 hκ0 hκ1 t (fbump l k v) (s ++ [(k, V v)]) (E + ((C + κ) * (1 / 16777216) + 1 / 1000000000000000000000000000000)) (hl.bump hv0) (fun p hp => hv p (by simp [hp])) (by rw [length_fbump]; exact hn)
      (fun i => by
        have h1 := hC i
        rw [hval, cellA] at h1
        rw [cellA_append]
        have e : cellA [(k, V v)] i = if k = i then ab (V v) else 0 := by simp only [cellA]; split <;> grind
        rw [e]
        grind) st2 (by grind) (by grind)
    rw [hval, fadds, List.length_cons]
    have e2 : s ++ (k, V v) :: valL t = (s ++ [(k, V v)]) ++ valL t := by simp
    rw [e2]
    push_cast
    grind

/-! ### the running sum -/
def accTo : Nat → List Nat → Nat → Nat
  | acc, [], _ => acc
  | acc, v :: _, 0 => fop .add acc v
  | acc, v :: t, p + 1 => accTo (fop .add acc v) t p
theorem floBytes_at : ∀ (l : List Nat) (acc p : Nat), p < l.length → (floBytes acc l)[p]? = some (floByte (accTo acc l p))
  | [], _, _, h => by simp at h
  | v :: t, acc, 0, _ => by simp [floBytes, accTo]
  | v :: t, acc, p + 1, h => by
    rw [floBytes, List.getElem?_cons_succ, floBytes_at t (fop .add acc v) p (by simpa using h), accTo]
/-- The exact sums T, the cells off by c, the running sum. -/
theorem acc_near {κ : Rat} (hκ0 : 0 ≤ κ) (hκ1 : κ ≤ 1) (T c : Nat → Rat) (hc0 : ∀ k, 0 ≤ c k) : ∀ (l : List Nat) (acc o p : Nat) (e : Rat), CellsBd l → F32 acc → (∀ i, i < l.length → ab (V (fAt l i) - (T (o + i + 1) - T (o + i))) ≤ c (o + i)) → (∀ k, ab (T k) ≤ 1000) → ab (V acc - T o) ≤ e → 0 ≤ e → p < l.length →
    e + sumN (fun i => c (o + i) + ((ab (T (o + i + 1)) + 2 * κ) * (1 / 16777216) + 1 / 1000000000000000000000000000000)) (p + 1) ≤ κ →
    F32 (accTo acc l p) ∧ ab (V (accTo acc l p) - T (o + p + 1)) ≤ e + sumN (fun i => c (o + i) + ((ab (T (o + i + 1)) + 2 * κ) * (1 / 16777216) + 1 / 1000000000000000000000000000000)) (p + 1)
  | [], _, _, _, _, _, _, _, _, _, _, h, _ => by simp at h
  | v :: t, acc, o, p, e, hl, ha, hcell, hT, hacc, he0, hp, hb => by
    have hv : Bd v 100 := hl v (by simp)
    have h0 := hcell 0 (by simp)
    have hf0 : fAt (v :: t) 0 = v := by simp [fAt]
    rw [hf0, Nat.add_zero] at h0
    have hpos : ∀ i, 0 ≤ c (o + i) + ((ab (T (o + i + 1)) + 2 * κ) * (1 / 16777216) + 1 / 1000000000000000000000000000000) := fun i => by
      have := hc0 (o + i)
      have := ab_nonneg (T (o + i + 1))
      grind
    have hfirst := sumN_mem (f := fun i => c (o + i) + ((ab (T (o + i + 1)) + 2 * κ) * (1 / 16777216) + 1 / 1000000000000000000000000000000)) hpos (show 0 < p + 1 by omega)
    simp only [Nat.add_zero] at hfirst
    have hc := hc0 o
    have hTn := ab_nonneg (T (o + 1))
    have hs1 : e ≤ κ := by grind
    have hs2 : c o ≤ κ := by grind
    -- the addition
    have e1 : V acc + V v = T (o + 1) + ((V acc - T o) + (V v - (T (o + 1) - T o))) := by grind
    have k1 := ab_add_le (T (o + 1)) ((V acc - T o) + (V v - (T (o + 1) - T o)))
    have k2 := ab_add_le (V acc - T o) (V v - (T (o + 1) - T o))
    rw [← e1] at k1
    have hT1 := hT (o + 1)
    obtain ⟨_, r⟩ := fadd_ok ha hv.fin (big126 (by grind))
    have nr := r.near5.2
    have hnew : ab (V (fop .add acc v) - T (o + 1)) ≤ e + (c o + ((ab (T (o + 1)) + 2 * κ) * (1 / 16777216) + 1 / 1000000000000000000000000000000)) := by
      have e2 : V (fop .add acc v) - T (o + 1) = (V (fop .add acc v) - (V acc + V v)) + ((V acc - T o) + (V v - (T (o + 1) - T o))) := by grind
      rw [e2]
      have k3 := ab_add_le (V (fop .add acc v) - (V acc + V v)) ((V acc - T o) + (V v - (T (o + 1) - T o)))
      generalize ab (V (fop .add acc v) - (V acc + V v)) = z1 at *
      generalize ab ((V acc - T o) + (V v - (T (o + 1) - T o))) = z2 at *
      generalize ab (V acc + V v) = z3 at *
      grind
    cases p with
    | zero =>
      refine ⟨r.fin, ?_⟩
      show ab (V (fop .add acc v) - T (o + 0 + 1)) ≤ _
      simp only [sumN, Nat.add_zero]
      grind
    | succ p =>
      have hsh : sumN (fun i => c (o + i) + ((ab (T (o + i + 1)) + 2 * κ) * (1 / 16777216) + 1 / 1000000000000000000000000000000)) (p + 1 + 1) =
          (c o + ((ab (T (o + 1)) + 2 * κ) * (1 / 16777216) + 1 / 1000000000000000000000000000000)) + sumN (fun i => c (o + 1 + i) + ((ab (T (o + 1 + i + 1)) + 2 * κ) * (1 / 16777216) + 1 / 1000000000000000000000000000000)) (p + 1) := by
        rw [show p + 1 + 1 = 1 + (p + 1) by omega, sumN_split]
        simp only [sumN, Nat.add_zero]
        have : ∀ i, o + (1 + i) = o + 1 + i := fun i => by omega
        simp only [this]
        grind
      rw [hsh] at hb ⊢
      have ih := acc_near hκ0 hκ1 T c hc0 t (fop .add acc v) (o + 1) p _ (fun a h => hl a (by simp [h])) r.fin (fun i hi => by
        have h1 := hcell (i + 1) (by simpa using hi)
        have h2 : fAt (v :: t) (i + 1) = fAt t i := by simp [fAt]
        rw [h2] at h1
        rw [show o + 1 + i = o + (i + 1) by omega]
        exact h1) hT hnew (by have := hpos 0; simp only [Nat.add_zero] at this; grind) (by simpa using hp) (by grind)
      rw [accTo]
      rw [show o + 1 + p + 1 = o + (p + 1) + 1 by omega] at ih
      refine ⟨ih.1, ?_⟩
      have := ih.2
      grind
end Go.Proofs.Ytmgcbodlolnheaa

namespace Go.Proofs.Ytmgcbodlolnheaa
open Flt Go.RowKit
set_option linter.unusedVariables false

theorem cell_rat {a b c d e : Rat} (k1 : a ≤ b) (k2 : b ≤ ab c * (5001 / 5000) + 1 / 100000000000000000000000000) (h : ab c ≤ 1) (i : d ≤ e) : a + d ≤ 10003 / 10000 + e := by
  generalize ab c = z at *
  grind
theorem zero_rat {d e : Rat} (i : d ≤ e) : 0 + d ≤ 0 + e := by grind
theorem pos_rat {d e : Rat} (i : d ≤ e) : 0 + d ≤ 10003 / 10000 + e := by grind
theorem len_rat {a b d p q k : Rat} (k1 : a ≤ ab d + 3) (h : ab d ≤ p / 64 * (1000001 / 1000000) + 1 / 10000) (i : b ≤ q / 64 * (1000001 / 1000000) + k * (3 + 1 / 10000)) : a + b ≤ (q + p) / 64 * (1000001 / 1000000) + (k * (3 + 1 / 10000) + (3 + 1 / 10000)) := by
  generalize ab d = z at *
  grind
theorem len2_rat {b p q k : Rat} (h : 0 ≤ p) (i : b ≤ q / 64 * (1000001 / 1000000) + k * (3 + 1 / 10000)) : b ≤ (q + p) / 64 * (1000001 / 1000000) + (k * (3 + 1 / 10000) + (3 + 1 / 10000)) := by grind
/-- Where a line is (in 64ths), behind n rows: near the exact place. -/
structure OnT (m1 m2 m3 m4 : Int) (B : Rat) (n : Nat) (y : Int) (x : Nat) : Prop where
  onf : OnF m1 m2 m3 m4 n y x
  near : ab (64 * V x - (m1 + slopeR m1 m2 m3 m4 * (prog64 m2 m4 y : Int))) ≤ ab (slopeR m1 m2 m3 m4) * (prog64 m2 m4 y : Int) * (3 / 16777216) + n * (64 * B / 16777216)
theorem prod_rat {S σ k P u t : Rat} (hu : u = 1 / 16777216) (ht : t = 1 / 1000000000000000000000000000000) (hk0 : 0 ≤ k) (hk1 : k ≤ 64) (h1 : ab (σ - S) ≤ ab S * u + t) (h2 : ab (P - k / 64 * σ) ≤ ab (k / 64 * σ) * u + t) :
    ab (64 * P - S * k) ≤ ab S * k * (3 / 16777216) + 1 / 1000000000000000000000000000 := by
  have e1 : ab (k / 64 * σ) = k / 64 * ab σ := by rw [ab_mul, ab_of_nonneg (by grind)]
  rw [e1] at h2
  have k1 := ab_add_le (σ - S) S
  have e2 : σ - S + S = σ := by grind
  rw [e2] at k1
  have m1 := Rat.mul_le_mul_of_nonneg_left (show ab σ ≤ ab S * (1 + u) + t by grind) hk0
  have e3 : k * (ab S * (1 + u) + t) = ab S * k * (1 + u) + k * t := by grind
  rw [e3] at m1
  have e4 : 64 * P - S * k = 64 * (P - k / 64 * σ) + k * (σ - S) := by grind
  rw [e4]
  have k2 := ab_add_le (64 * (P - k / 64 * σ)) (k * (σ - S))
  rw [ab_mul, ab_mul, ab_of_nonneg (x := (64 : Rat)) (by decide +kernel), ab_of_nonneg hk0] at k2
  have m2 := Rat.mul_le_mul_of_nonneg_left h1 hk0
  have e5 : k * (ab S * u + t) = ab S * k * u + k * t := by grind
  rw [e5] at m2
  have hSk := Rat.mul_nonneg (ab_nonneg S) hk0
  have e6 : k / 64 * ab σ = k * ab σ / 64 := by grind
  rw [e6] at h2
  generalize ab S * k = Sk at *
  generalize k * ab σ = kσ at *
  generalize k * ab (σ - S) = z1 at *
  generalize ab (P - k / 64 * σ) = z2 at *
  subst hu ht
  grind
section
variable {m1 m2 m3 m4 : Int} (h : Span m1 m2 m3 m4) {B : Rat} (hB0 : 120 ≤ B) (hB1 : B ≤ 1024)
  (hm1 : ab (m1 : Rat) ≤ 64 * (B - 1)) (hm3 : ab (m3 : Rat) ≤ 64 * (B - 1))
include h hm1 hm3
theorem exact_bd {p : Int} (h0 : 0 ≤ p) (h1 : p ≤ m4 - m2) : ab ((m1 : Rat) + slopeR m1 m2 m3 m4 * (p : Rat)) ≤ 64 * (B - 1) ∧ ab (slopeR m1 m2 m3 m4) * (p : Rat) ≤ 128 * (B - 1) := by
  have e := h.slopeR_mul
  have hp0 := castLe h0
  have hp1 := castLe h1
  rw [cast_zero] at hp0
  obtain ⟨a1, a2⟩ := ab_iff.1 hm1
  obtain ⟨b1, b2⟩ := ab_iff.1 hm3
  push_cast at e hp1
  generalize slopeR m1 m2 m3 m4 = S at *
  have hd : (0 : Rat) ≤ (m4 : Rat) - m2 := by grind
  rcases Rat.le_total (a := 0) (b := S) with hS | hS
  · have c1 := Rat.mul_nonneg hS hp0
    have c2 := Rat.mul_le_mul_of_nonneg_left hp1 hS
    rw [ab_of_nonneg hS]
    exact ⟨ab_le (by grind) (by grind), by grind⟩
  · have c1 := Rat.mul_nonneg (a := -S) (by grind) hp0
    have c2 := Rat.mul_le_mul_of_nonneg_left (c := -S) hp1 (by grind)
    rw [ab_of_nonpos hS]
    exact ⟨ab_le (by grind) (by grind), by grind⟩
include hB0 hB1
theorem OnT.bd {n : Nat} {y : Int} {x : Nat} (ho : OnT m1 m2 m3 m4 B n y x) (hn : n ≤ 2000) : ab (64 * V x) ≤ 64 * (B - 4 / 5) := by
  obtain ⟨b1, b2⟩ := exact_bd h hm1 hm3 (prog64_bd h.lt y).1 (prog64_bd h.lt y).2
  have hn' : (n : Rat) ≤ 2000 := by exact_mod_cast hn
  have hn0 : (0 : Rat) ≤ n := by exact_mod_cast Nat.zero_le n
  have k := ab_add_le (64 * V x - (m1 + slopeR m1 m2 m3 m4 * (prog64 m2 m4 y : Int))) (m1 + slopeR m1 m2 m3 m4 * (prog64 m2 m4 y : Int))
  have e : 64 * V x - (m1 + slopeR m1 m2 m3 m4 * (prog64 m2 m4 y : Int)) + (m1 + slopeR m1 m2 m3 m4 * (prog64 m2 m4 y : Int)) = 64 * V x := by grind
  rw [e] at k
  have hnB : (n : Rat) * (64 * B / 16777216) ≤ 2000 * (64 * 1024 / 16777216) := by
    have m1 := Rat.mul_le_mul_of_nonneg_right hn' (show (0 : Rat) ≤ 64 * B / 16777216 by grind)
    grind
  have := ho.near
  grind
theorem OnT.ab_bd {n : Nat} {y : Int} {x : Nat} (ho : OnT m1 m2 m3 m4 B n y x) (hn : n ≤ 2000) : ab (V x) ≤ B := by
  have k := ho.bd h hB0 hB1 hm1 hm3 hn
  rw [ab_mul, ab_of_nonneg (x := (64 : Rat)) (by decide +kernel)] at k
  grind
omit hB0 hB1 hm1 hm3 in
theorem OnT.first : OnT m1 m2 m3 m4 B 0 (m2 / 64) (wq m1) := by
  refine ⟨OnF.first h, ?_⟩
  rw [prog64_first h.lt, cast_zero, h.q1.2]
  have e : 64 * ((m1 : Rat) / 64) - (m1 + slopeR m1 m2 m3 m4 * 0) = 0 := by grind
  rw [e]
  have : ab (0 : Rat) = 0 := by decide +kernel
  rw [this]
  push_cast
  grind
theorem OnT.next {n : Nat} {y : Int} {x : Nat} {dir : Nat} (ho : OnT m1 m2 m3 m4 B n y x) (h1 : m2 / 64 ≤ y) (h2 : y < (m4 + 63) / 64) (hn : n + 1 ≤ 2000) :
    Q64 ((⟨wq m2, wq m4, dir, slopeW m1 m2 m3 m4⟩ : GL).dy y) (k64 m2 m4 y) ∧ OnT m1 m2 m3 m4 B (n + 1) (y + 1) ((⟨wq m2, wq m4, dir, slopeW m1 m2 m3 m4⟩ : GL).nx y x) ∧
    ab (V ((⟨wq m2, wq m4, dir, slopeW m1 m2 m3 m4⟩ : GL).nx y x) - V x) ≤ ab (slopeR m1 m2 m3 m4) * ((k64 m2 m4 y : Int) : Rat) / 64 * (1000001 / 1000000) + 1 / 10000 := by
  obtain ⟨⟨s1, t1, u1, s2⟩, hf⟩ := ho.onf.next h (dir := dir) h1 h2 (by omega)
  obtain ⟨p1, p2', p3⟩ := k64_bd h.lt h1 h2
  have hpb := prog64_bd h.lt y
  have hpb1 := prog64_bd h.lt (y + 1)
  refine ⟨s2, ?_⟩
  have hdir : (⟨wq m2, wq m4, dir, slopeW m1 m2 m3 m4⟩ : GL).nx y x = fop .add x (fop .mul ((⟨wq m2, wq m4, dir, slopeW m1 m2 m3 m4⟩ : GL).dy y) (slopeW m1 m2 m3 m4)) := rfl
  rw [hdir] at hf ⊢
  generalize (⟨wq m2, wq m4, dir, slopeW m1 m2 m3 m4⟩ : GL).dy y = dy at *
  have hk0 := castLe p2'
  have hk1 := castLe p3
  rw [cast_zero] at hk0
  push_cast at hk1
  have e1 : ((prog64 m2 m4 (y + 1) : Int) : Rat) = prog64 m2 m4 y + k64 m2 m4 y := by rw [p1]; push_cast; rfl
  -- the slope and the product
  obtain ⟨_, n1⟩ := h.slope.1.near5
  have hsl : ((m3 - m1 : Int) : Rat) / ((m4 - m2 : Int) : Rat) = slopeR m1 m2 m3 m4 := rfl
  rw [hsl] at n1
  have hb20 : ab (V (slopeW m1 m2 m3 m4)) ≤ 1048576 := by
    have := h.slope_bd.ab
    have e : p2 20 = 1048576 := by
      have : p2 ((20 : Nat) : Int) = ((2 ^ 20 : Nat) : Rat) := p2_nat 20
      simpa using this
    rwa [e] at this
  obtain ⟨_, r2⟩ := fmul_ok s2.1 h.slope_bd.fin (by
    rw [s2.2]
    have : ab (((k64 m2 m4 y : Int) : Rat) / 64 * V (slopeW m1 m2 m3 m4)) ≤ 1 * 1048576 := ab_mul_le (ab_le (by grind) (by grind)) hb20
    exact big126 (by grind))
  rw [s2.2] at r2
  have n2 := r2.near5.2
  have hpr := prod_rat rfl rfl hk0 hk1 n1 n2
  obtain ⟨x1, x2⟩ := exact_bd h hm1 hm3 hpb1.1 hpb1.2
  obtain ⟨x3, x4⟩ := exact_bd h hm1 hm3 (p := k64 m2 m4 y) p2' (by omega)
  rw [e1] at x1 x2
  have hob := ho.bd h hB0 hB1 hm1 hm3 (by omega)
  have hon := ho.near
  have hSk := Rat.mul_nonneg (ab_nonneg (slopeR m1 m2 m3 m4)) hk0
  have hpn := castLe hpb.1
  rw [cast_zero] at hpn
  have hSp := Rat.mul_nonneg (ab_nonneg (slopeR m1 m2 m3 m4)) hpn
  have hn' : (n : Rat) ≤ 2000 := by exact_mod_cast (show n ≤ 2000 by omega)
  have hn0 : (0 : Rat) ≤ n := by exact_mod_cast Nat.zero_le n
  have hP := r2.fin
  generalize fop .mul dy (slopeW m1 m2 m3 m4) = P at *
  -- the sum
  have hsumE : ab (64 * (V x + V P) - (m1 + slopeR m1 m2 m3 m4 * (prog64 m2 m4 y + k64 m2 m4 y))) ≤ ab (slopeR m1 m2 m3 m4) * ((prog64 m2 m4 y : Rat) + k64 m2 m4 y) * (3 / 16777216) + n * (64 * B / 16777216) + 1 / 1000000000000000000000000000 := by
    have e : 64 * (V x + V P) - (m1 + slopeR m1 m2 m3 m4 * (prog64 m2 m4 y + k64 m2 m4 y)) = (64 * V x - (m1 + slopeR m1 m2 m3 m4 * (prog64 m2 m4 y : Int))) + (64 * V P - slopeR m1 m2 m3 m4 * k64 m2 m4 y) := by grind
    rw [e]
    have k := ab_add_le (64 * V x - (m1 + slopeR m1 m2 m3 m4 * (prog64 m2 m4 y : Int))) (64 * V P - slopeR m1 m2 m3 m4 * k64 m2 m4 y)
    have e2 : ab (slopeR m1 m2 m3 m4) * ((prog64 m2 m4 y : Rat) + k64 m2 m4 y) = ab (slopeR m1 m2 m3 m4) * (prog64 m2 m4 y : Rat) + ab (slopeR m1 m2 m3 m4) * k64 m2 m4 y := by grind
    rw [e2]
    grind
  have hnB : (n : Rat) * (64 * B / 16777216) ≤ 2000 * (64 * 1024 / 16777216) := by
    have m1 := Rat.mul_le_mul_of_nonneg_right hn' (show (0 : Rat) ≤ 64 * B / 16777216 by grind)
    grind
  have hxP : ab (64 * (V x + V P)) ≤ 64 * (B - 4 / 5) := by
    have k := ab_add_le (64 * (V x + V P) - (m1 + slopeR m1 m2 m3 m4 * (prog64 m2 m4 y + k64 m2 m4 y))) (m1 + slopeR m1 m2 m3 m4 * (prog64 m2 m4 y + k64 m2 m4 y))
    have e : 64 * (V x + V P) - (m1 + slopeR m1 m2 m3 m4 * (prog64 m2 m4 y + k64 m2 m4 y)) + (m1 + slopeR m1 m2 m3 m4 * (prog64 m2 m4 y + k64 m2 m4 y)) = 64 * (V x + V P) := by grind
    rw [e] at k
    grind
  rw [ab_mul, ab_of_nonneg (x := (64 : Rat)) (by decide +kernel)] at hxP
  obtain ⟨_, r3⟩ := fadd_ok ho.onf.xs.bd.fin hP (big126 (by grind))
  have n3 := r3.near5.2
  have hrnd : ab (64 * V (fop .add x P) - 64 * (V x + V P)) ≤ 64 * (B - 4 / 5) / 16777216 + 64 / 1000000000000000000000000000000 := by
    have e : 64 * V (fop .add x P) - 64 * (V x + V P) = 64 * (V (fop .add x P) - (V x + V P)) := by grind
    rw [e, ab_mul, ab_of_nonneg (x := (64 : Rat)) (by decide +kernel)]
    grind
  refine ⟨⟨hf, ?_⟩, ?_⟩
  · rw [e1]
    have e : 64 * V (fop .add x P) - (m1 + slopeR m1 m2 m3 m4 * (prog64 m2 m4 y + k64 m2 m4 y)) = (64 * V (fop .add x P) - 64 * (V x + V P)) + (64 * (V x + V P) - (m1 + slopeR m1 m2 m3 m4 * (prog64 m2 m4 y + k64 m2 m4 y))) := by grind
    rw [e]
    have k := ab_add_le (64 * V (fop .add x P) - 64 * (V x + V P)) (64 * (V x + V P) - (m1 + slopeR m1 m2 m3 m4 * (prog64 m2 m4 y + k64 m2 m4 y)))
    have e3 : ((n + 1 : Nat) : Rat) * (64 * B / 16777216) = (n : Rat) * (64 * B / 16777216) + 64 * B / 16777216 := by push_cast; grind
    rw [e3]
    grind
  · have e : V (fop .add x P) - V x = (1 / 64) * ((64 * V (fop .add x P) - 64 * (V x + V P)) + ((64 * V P - slopeR m1 m2 m3 m4 * k64 m2 m4 y) + slopeR m1 m2 m3 m4 * k64 m2 m4 y)) := by grind
    rw [e, ab_mul, ab_of_nonneg (x := (1 / 64 : Rat)) (by decide +kernel)]
    have k := ab_add_le (64 * V (fop .add x P) - 64 * (V x + V P)) ((64 * V P - slopeR m1 m2 m3 m4 * k64 m2 m4 y) + slopeR m1 m2 m3 m4 * k64 m2 m4 y)
    have k2 := ab_add_le (64 * V P - slopeR m1 m2 m3 m4 * k64 m2 m4 y) (slopeR m1 m2 m3 m4 * k64 m2 m4 y)
    have e4 : ab (slopeR m1 m2 m3 m4 * ((k64 m2 m4 y : Int) : Rat)) = ab (slopeR m1 m2 m3 m4) * ((k64 m2 m4 y : Int) : Rat) := by rw [ab_mul, ab_of_nonneg hk0]
    rw [e4] at k2
    grind

/-- What is allowed to be wrong of a row's sum up to pixel (X, Y). -/
def rowErr (Y : Nat) (B : Rat) (d : Int) (r : Int) : Rat := if r < 0 then 0 else if r < Y then ab ((d : Rat) / 64) * (24 / 16777216) else if r = Y then ab ((d : Rat) / 64) * ((B + 8) / 16777216) else 0
omit h hm1 hm3 hB1 in
theorem rowErr_nonneg (Y : Nat) (d r : Int) : 0 ≤ rowErr Y B d r := by
  have h0 := ab_nonneg ((d : Rat) / 64)
  unfold rowErr
  split
  · exact Rat.le_refl
  · split
    · exact Rat.mul_nonneg h0 (by decide +kernel)
    · split
      · exact Rat.mul_nonneg h0 (by grind)
      · exact Rat.le_refl
theorem adds_cum {W X Y : Nat} {dirI : Int} {dir : Nat} (hd1 : dirI = 1 ∨ dirI = -1) (hdir : Ex 0 dir dirI) (hX : X < W) : ∀ (k n : Nat) (y : Int) (x : Nat), OnT m1 m2 m3 m4 B n y x → m2 / 64 ≤ y → y + k ≤ (m4 + 63) / 64 → n + k ≤ 2000 →
    ∃ m, 0 ≤ m ∧ m ≤ 1 ∧ (y ≤ Y → (Y : Int) < y + k → ∃ n' x' x'', n' ≤ n + k ∧ OnT m1 m2 m3 m4 B n' Y x' ∧ OnT m1 m2 m3 m4 B (n' + 1) ((Y : Int) + 1) x'' ∧ m = mean ((X : Rat) + 1 - V x') ((X : Rat) + 1 - V x'')) ∧
      ab (sumR (valL ((⟨wq m2, wq m4, dir, slopeW m1 m2 m3 m4⟩ : GL).adds W k y x)) (Y * W + X) - rowsR (fun r => rowF Y m (dirI * k64 m2 m4 r) r / 64) y k) ≤
        rowsR (fun r => rowErr Y B (dirI * k64 m2 m4 r) r) y k + k * (1 / 100000000000000000000000000)
  | 0, n, y, x, ho, h1, h2, h3 => by
    refine ⟨0, Rat.le_refl, by decide, fun a b => by omega, ?_⟩
    simp only [GL.adds, valL, List.map_nil, sumR, rowsR]
    have : ab ((0 : Rat) - 0) = 0 := by decide +kernel
    rw [this]
    push_cast
    grind
  | k + 1, n, y, x, ho, h1, h2, h3 => by
    obtain ⟨s2, hn, _⟩ := ho.next h hB0 hB1 hm1 hm3 (dir := dir) h1 (by omega) (by omega)
    obtain ⟨p1, p2', p3⟩ := k64_bd h.lt h1 (show y < (m4 + 63) / 64 by omega)
    obtain ⟨m, e1, e2, e3, e4⟩ := adds_cum (Y := Y) hd1 hdir hX k (n + 1) (y + 1) _ hn (by omega) (by omega) (by omega)
    have t4 := s2.ex.mul hdir (by rcases hd1 with rfl | rfl <;> omega) (by rcases hd1 with rfl | rfl <;> omega) (by decide) (by decide)
    have t5 : Q64 (fop .mul ((⟨wq m2, wq m4, dir, slopeW m1 m2 m3 m4⟩ : GL).dy y) dir) (dirI * k64 m2 m4 y) := by
      rw [Int.mul_comm] at t4
      exact Ex.q64 t4
    have hBd : Bd (fop .mul ((⟨wq m2, wq m4, dir, slopeW m1 m2 m3 m4⟩ : GL).dy y) dir) 0 := t5.bd0 (by rcases hd1 with rfl | rfl <;> omega) (by rcases hd1 with rfl | rfl <;> omega)
    rw [GL.adds]
    simp only [rowsR]
    have hk : ((k + 1 : Nat) : Rat) * (1 / 100000000000000000000000000) = (k : Rat) * (1 / 100000000000000000000000000) + 1 / 100000000000000000000000000 := by push_cast; grind
    rw [hk, valL_append, sumR_append]
    -- any m does behind row Y
    have other : ∀ m', (Y : Int) < y + 1 → rowsR (fun r => rowF Y m' (dirI * k64 m2 m4 r) r / 64) (y + 1) k = rowsR (fun r => rowF Y m (dirI * k64 m2 m4 r) r / 64) (y + 1) k := by
      intro m' hy
      refine rowsR_congr fun r r1 r2 => ?_
      unfold rowF
      split
      · rfl
      · rw [if_neg (by omega), if_neg (by omega), if_neg (by omega), if_neg (by omega)]
    by_cases hy : y < 0
    · rw [if_pos hy]
      refine ⟨m, e1, e2, fun a b => ?_, ?_⟩
      · obtain ⟨n', x', x'', q1, q2⟩ := e3 (by omega) (by omega)
        exact ⟨n', x', x'', by omega, q2⟩
      · have z1 : rowF Y m (dirI * k64 m2 m4 y) y = 0 := by unfold rowF; rw [if_pos hy]
        have z2 : rowErr Y B (dirI * k64 m2 m4 y) y = 0 := by unfold rowErr; rw [if_pos hy]
        rw [z1, z2]
        have z3 : sumR (valL []) (Y * W + X) = 0 := rfl
        rw [z3]
        have e : ∀ a b : Rat, 0 + a - (0 / 64 + b) = a - b := fun a b => by grind
        rw [e]
        grind
    · rw [if_neg hy]
      obtain ⟨yn, rfl⟩ : ∃ yn : Nat, y = yn := ⟨y.toNat, by omega⟩
      have ey : ((yn : Int)).toNat = yn := by omega
      rw [ey]
      have RN := frow_near (W := W) (base := yn * W) ho.onf.xs hn.onf.xs hBd hB0 hB1 (ho.ab_bd h hB0 hB1 hm1 hm3 (by omega)) (hn.ab_bd h hB0 hB1 hm1 hm3 (by omega))
      have hDv : V (fop .mul ((⟨wq m2, wq m4, dir, slopeW m1 m2 m3 m4⟩ : GL).dy (yn : Int)) dir) = ((dirI * k64 m2 m4 yn : Int) : Rat) / 64 := t5.2
      rw [hDv] at RN
      have hpl : ∀ q ∈ valL (frow W (yn * W) x ((⟨wq m2, wq m4, dir, slopeW m1 m2 m3 m4⟩ : GL).nx yn x) (fop .mul ((⟨wq m2, wq m4, dir, slopeW m1 m2 m3 m4⟩ : GL).dy yn) dir)), yn * W ≤ q.1 ∧ q.1 ≤ yn * W + W := by
        intro q hq
        obtain ⟨p, hp, rfl⟩ := List.mem_map.1 hq
        exact RN.place p hp
      rcases Nat.lt_trichotomy yn Y with hlt | heq | hgt
      · refine ⟨m, e1, e2, fun a b => ?_, ?_⟩
        · obtain ⟨n', x', x'', q1, q2⟩ := e3 (by omega) (by omega)
          exact ⟨n', x', x'', by omega, q2⟩
        · have z1 : rowF Y m (dirI * k64 m2 m4 yn) yn = ((dirI * k64 m2 m4 yn : Int) : Rat) := by unfold rowF; rw [if_neg (by omega), if_pos (by omega)]
          have z2 : rowErr Y B (dirI * k64 m2 m4 yn) yn = ab (((dirI * k64 m2 m4 yn : Int) : Rat) / 64) * (24 / 16777216) := by unfold rowErr; rw [if_neg (by omega), if_pos (by omega)]
          have hle : yn * W + W ≤ Y * W + X := by
            have := Nat.mul_le_mul_right W (show yn + 1 ≤ Y by omega)
            rw [Nat.add_mul, Nat.one_mul] at this
            omega
          rw [z1, z2, sumR_all (fun q hq => by have := (hpl q hq).2; omega)]
          have kt := RN.tot
          generalize totR (valL (frow W (yn * W) x ((⟨wq m2, wq m4, dir, slopeW m1 m2 m3 m4⟩ : GL).nx yn x) (fop .mul ((⟨wq m2, wq m4, dir, slopeW m1 m2 m3 m4⟩ : GL).dy yn) dir))) = A at *
          generalize sumR (valL ((⟨wq m2, wq m4, dir, slopeW m1 m2 m3 m4⟩ : GL).adds W k (yn + 1) ((⟨wq m2, wq m4, dir, slopeW m1 m2 m3 m4⟩ : GL).nx yn x))) (Y * W + X) = S at *
          generalize rowsR (fun r => rowF Y m (dirI * k64 m2 m4 r) r / 64) (yn + 1) k = R at *
          have e : A + S - (((dirI * k64 m2 m4 yn : Int) : Rat) / 64 + R) = (A - ((dirI * k64 m2 m4 yn : Int) : Rat) / 64) + (S - R) := by grind
          rw [e]
          have k1 := ab_add_le (A - ((dirI * k64 m2 m4 yn : Int) : Rat) / 64) (S - R)
          grind
      · subst heq
        refine ⟨mean ((X : Rat) + 1 - V x) ((X : Rat) + 1 - V ((⟨wq m2, wq m4, dir, slopeW m1 m2 m3 m4⟩ : GL).nx yn x)), (mean_bd _ _).1, (mean_bd _ _).2, fun a b => ⟨n, x, _, by omega, ho, hn, rfl⟩, ?_⟩
        rw [other _ (by omega)]
        have z1 : ∀ m', rowF yn m' (dirI * k64 m2 m4 yn) yn = ((dirI * k64 m2 m4 yn : Int) : Rat) * m' := fun m' => by unfold rowF; rw [if_neg (by omega), if_neg (by omega), if_pos rfl]
        have z2 : rowErr yn B (dirI * k64 m2 m4 yn) yn = ab (((dirI * k64 m2 m4 yn : Int) : Rat) / 64) * ((B + 8) / 16777216) := by unfold rowErr; rw [if_neg (by omega), if_neg (by omega), if_pos rfl]
        rw [z1, z2]
        have kt := RN.cum X hX
        generalize mean ((X : Rat) + 1 - V x) ((X : Rat) + 1 - V ((⟨wq m2, wq m4, dir, slopeW m1 m2 m3 m4⟩ : GL).nx yn x)) = M at *
        generalize sumR (valL (frow W (yn * W) x ((⟨wq m2, wq m4, dir, slopeW m1 m2 m3 m4⟩ : GL).nx yn x) (fop .mul ((⟨wq m2, wq m4, dir, slopeW m1 m2 m3 m4⟩ : GL).dy yn) dir))) (yn * W + X) = A at *
        generalize sumR (valL ((⟨wq m2, wq m4, dir, slopeW m1 m2 m3 m4⟩ : GL).adds W k (yn + 1) ((⟨wq m2, wq m4, dir, slopeW m1 m2 m3 m4⟩ : GL).nx yn x))) (yn * W + X) = S at *
        generalize rowsR (fun r => rowF yn m (dirI * k64 m2 m4 r) r / 64) (yn + 1) k = R at *
        have e : A + S - (((dirI * k64 m2 m4 yn : Int) : Rat) * M / 64 + R) = (A - ((dirI * k64 m2 m4 yn : Int) : Rat) / 64 * M) + (S - R) := by grind
        rw [e]
        have k1 := ab_add_le (A - ((dirI * k64 m2 m4 yn : Int) : Rat) / 64 * M) (S - R)
        grind
      · refine ⟨m, e1, e2, fun a b => by omega, ?_⟩
        have z1 : rowF Y m (dirI * k64 m2 m4 yn) yn = 0 := by unfold rowF; rw [if_neg (by omega), if_neg (by omega), if_neg (by omega)]
        have z2 : rowErr Y B (dirI * k64 m2 m4 yn) yn = 0 := by unfold rowErr; rw [if_neg (by omega), if_neg (by omega), if_neg (by omega)]
        have hle : Y * W + X < yn * W := by
          have := Nat.mul_le_mul_right W (show Y + 1 ≤ yn by omega)
          rw [Nat.add_mul, Nat.one_mul] at this
          omega
        rw [z1, z2, sumR_none (fun q hq => by have := (hpl q hq).1; omega)]
        have e : ∀ a b : Rat, 0 + a - (0 / 64 + b) = a - b := fun a b => by grind
        rw [e]
        grind
omit h hB0 hB1 hm1 hm3 in
/-- At most two rows give to a cell. -/
theorem rowsR_two {f : Int → Rat} {a : Int} {M : Rat} (hM : 0 ≤ M) (h1 : ∀ r, f r ≤ M) (h2 : ∀ r, r ≠ a → r ≠ a + 1 → f r = 0) : ∀ (k : Nat) (y : Int), rowsR f y k ≤ if y ≤ a then 2 * M else if y ≤ a + 1 then M else 0
  | 0, y => by
    simp only [rowsR]
    split
    · grind
    · split <;> grind
  | k + 1, y => by
    have ih := rowsR_two hM h1 h2 k (y + 1)
    rw [rowsR]
    have hy := h1 y
    by_cases c1 : y < a
    · rw [h2 y (by omega) (by omega), if_pos (by omega)]
      rw [if_pos (by omega)] at ih
      grind
    · by_cases c2 : y = a
      · rw [if_pos (by omega)]
        rw [if_neg (by omega), if_pos (by omega)] at ih
        grind
      · by_cases c3 : y = a + 1
        · rw [if_neg (by omega), if_pos (by omega)]
          rw [if_neg (by omega), if_neg (by omega)] at ih
          grind
        · rw [h2 y c2 c3, if_neg (by omega), if_neg (by omega)]
          rw [if_neg (by omega), if_neg (by omega)] at ih
          grind
theorem adds_cell {W c : Nat} {dirI : Int} {dir : Nat} (hd1 : dirI = 1 ∨ dirI = -1) (hdir : Ex 0 dir dirI) (hW : 0 < W) : ∀ (k n : Nat) (y : Int) (x : Nat), OnT m1 m2 m3 m4 B n y x → m2 / 64 ≤ y → y + k ≤ (m4 + 63) / 64 → n + k ≤ 2000 →
    cellA (valL ((⟨wq m2, wq m4, dir, slopeW m1 m2 m3 m4⟩ : GL).adds W k y x)) c ≤ rowsR (fun r => if (r * W ≤ c ∧ (c : Int) ≤ r * W + W) then 10003 / 10000 else 0) y k ∧
    ((((⟨wq m2, wq m4, dir, slopeW m1 m2 m3 m4⟩ : GL).adds W k y x).length : Nat) : Rat) ≤ ab (slopeR m1 m2 m3 m4) * ((prog64 m2 m4 (y + k) - prog64 m2 m4 y : Int) : Rat) / 64 * (1000001 / 1000000) + k * (3 + 1 / 10000)
  | 0, n, y, x, ho, h1, h2, h3 => by
    have e : y + ((0 : Nat) : Int) = y := by omega
    rw [e, Int.sub_self, cast_zero]
    simp only [GL.adds, valL, List.map_nil, cellA, rowsR, List.length_nil]
    refine ⟨Rat.le_refl, ?_⟩
    push_cast
    grind
  | k + 1, n, y, x, ho, h1, h2, h3 => by
    obtain ⟨s2, hn, hstep⟩ := ho.next h hB0 hB1 hm1 hm3 (dir := dir) h1 (by omega) (by omega)
    obtain ⟨p1, p2', p3⟩ := k64_bd h.lt h1 (show y < (m4 + 63) / 64 by omega)
    obtain ⟨i1, i2⟩ := adds_cell (c := c) hd1 hdir hW k (n + 1) (y + 1) _ hn (by omega) (by omega) (by omega)
    have t4 := s2.ex.mul hdir (by rcases hd1 with rfl | rfl <;> omega) (by rcases hd1 with rfl | rfl <;> omega) (by decide) (by decide)
    have t5 : Q64 (fop .mul ((⟨wq m2, wq m4, dir, slopeW m1 m2 m3 m4⟩ : GL).dy y) dir) (dirI * k64 m2 m4 y) := by
      rw [Int.mul_comm] at t4
      exact Ex.q64 t4
    have hBd : Bd (fop .mul ((⟨wq m2, wq m4, dir, slopeW m1 m2 m3 m4⟩ : GL).dy y) dir) 0 := t5.bd0 (by rcases hd1 with rfl | rfl <;> omega) (by rcases hd1 with rfl | rfl <;> omega)
    have hk0 := castLe p2'
    rw [cast_zero] at hk0
    have hSk := Rat.mul_nonneg (ab_nonneg (slopeR m1 m2 m3 m4)) hk0
    have e1 : (prog64 m2 m4 (y + ((k + 1 : Nat) : Int)) - prog64 m2 m4 y : Int) = (prog64 m2 m4 (y + 1 + (k : Int)) - prog64 m2 m4 (y + 1)) + k64 m2 m4 y := by
      have : y + ((k + 1 : Nat) : Int) = y + 1 + (k : Int) := by omega
      rw [this]
      omega
    rw [e1, GL.adds, valL_append, cellA_append, List.length_append]
    simp only [rowsR]
    have eZ : ((((prog64 m2 m4 (y + 1 + (k : Int)) - prog64 m2 m4 (y + 1)) + k64 m2 m4 y : Int)) : Rat) = ((prog64 m2 m4 (y + 1 + (k : Int)) - prog64 m2 m4 (y + 1) : Int) : Rat) + ((k64 m2 m4 y : Int) : Rat) := by push_cast; rfl
    rw [eZ]
    generalize ((prog64 m2 m4 (y + 1 + (k : Int)) - prog64 m2 m4 (y + 1) : Int) : Rat) = PR at *
    have e2 : ab (slopeR m1 m2 m3 m4) * (PR + ((k64 m2 m4 y : Int) : Rat)) = ab (slopeR m1 m2 m3 m4) * PR + ab (slopeR m1 m2 m3 m4) * ((k64 m2 m4 y : Int) : Rat) := by grind
    rw [e2]
    have hk : ((k + 1 : Nat) : Rat) * (3 + 1 / 10000) = (k : Rat) * (3 + 1 / 10000) + (3 + 1 / 10000) := by push_cast; grind
    rw [hk]
    by_cases hy : y < 0
    · rw [if_pos hy]
      constructor
      · have : cellA (valL []) c = 0 := rfl
        rw [this]
        split
        · exact pos_rat i1
        · exact zero_rat i1
      · simp only [List.length_nil, Nat.zero_add]
        exact len2_rat hSk i2
    · rw [if_neg hy]
      obtain ⟨yn, rfl⟩ : ∃ yn : Nat, y = yn := ⟨y.toNat, by omega⟩
      have ey : ((yn : Int)).toNat = yn := by omega
      rw [ey]
      have RN := frow_near (W := W) (base := yn * W) ho.onf.xs hn.onf.xs hBd hB0 hB1 (ho.ab_bd h hB0 hB1 hm1 hm3 (by omega)) (hn.ab_bd h hB0 hB1 hm1 hm3 (by omega))
      constructor
      · by_cases hc : (yn : Int) * W ≤ c ∧ (c : Int) ≤ yn * W + W
        · rw [if_pos hc]
          have k1 := cellA_absR (valL (frow W (yn * W) x ((⟨wq m2, wq m4, dir, slopeW m1 m2 m3 m4⟩ : GL).nx yn x) (fop .mul ((⟨wq m2, wq m4, dir, slopeW m1 m2 m3 m4⟩ : GL).dy yn) dir))) c
          have k2 := RN.abs
          have hD : ab (V (fop .mul ((⟨wq m2, wq m4, dir, slopeW m1 m2 m3 m4⟩ : GL).dy (yn : Int)) dir)) ≤ 1 := by have := hBd.ab; rwa [p2_zero] at this
          exact cell_rat k1 k2 hD i1
        · rw [if_neg hc, cellA_none]
          · exact zero_rat i1
          · intro q hq
            obtain ⟨p, hp, rfl⟩ := List.mem_map.1 hq
            obtain ⟨b1, b2⟩ := RN.place p hp
            intro he
            apply hc
            rw [← he]
            have c1 := Int.ofNat_le.2 b1
            have c2 := Int.ofNat_le.2 b2
            push_cast at c1 c2
            exact ⟨c1, c2⟩
      · have k1 := RN.len
        push_cast
        exact len_rat k1 hstep i2
end

/-! ### an edge -/
/-- Where the mean of a row comes from. -/
def MeanT (X Y : Nat) (B : Rat) (e : Pt × Pt) (m : Rat) : Prop :=
  ∃ m1 m2 m3 m4 : Int, ((((m1, m2), (m3, m4)) : Pt × Pt) = e ∨ (((m3, m4), (m1, m2)) : Pt × Pt) = e) ∧ Span m1 m2 m3 m4 ∧
    ∃ (n : Nat) (x' x'' : Nat), (n : Int) ≤ rowsE e ∧ OnT m1 m2 m3 m4 B n Y x' ∧ OnT m1 m2 m3 m4 B (n + 1) ((Y : Int) + 1) x'' ∧ m = mean ((X : Rat) + 1 - V x') ((X : Rat) + 1 - V x'')
structure EF (W H : Nat) (B : Rat) (e : Pt × Pt) : Prop where
  len : ((edgeF W H e).length : Rat) ≤ 2 * (B - 1) * (1000001 / 1000000) + rowsE e * (3 + 1 / 10000)
  cell : ∀ c, cellA (valL (edgeF W H e)) c ≤ 10003 / 5000
  bd : ∀ p ∈ edgeF W H e, Bd p.2 68
  cum : ∀ X Y : Nat, X < W → Y < H → ∃ m, 0 ≤ m ∧ m ≤ 1 ∧ (dph Y e ≠ 0 → MeanT X Y B e m) ∧
    ab (sumR (valL (edgeF W H e)) (Y * W + X) - (rowsR (fun r => (dph r e : Rat) / 64) 0 Y + (dph Y e : Rat) / 64 * m)) ≤
      rowsR (fun r => ab ((dph r e : Rat) / 64) * (24 / 16777216)) 0 Y + ab ((dph Y e : Rat) / 64) * ((B + 8) / 16777216) + 1 / 10000000000000000000000
theorem errs_upto {m2 m4 dir H : Int} {Y : Nat} {B : Rat} (hlt : m2 < m4) (hY : (Y : Int) < H) :
    rowsR (fun r => rowErr Y B (dir * (ph r m4 - ph r m2)) r) (m2 / 64) (imin H ((m4 + 63) / 64) - m2 / 64).toNat =
      rowsR (fun r => ab (((dir * (ph r m4 - ph r m2) : Int) : Rat) / 64) * (24 / 16777216)) 0 Y + ab (((dir * (ph Y m4 - ph Y m2) : Int) : Rat) / 64) * ((B + 8) / 16777216) := by
  have hz : ∀ r, rowErr Y B 0 r = 0 := by
    intro r
    have e : ab (((0 : Int) : Rat) / 64) = 0 := by decide +kernel
    unfold rowErr
    rw [e]
    split
    · rfl
    · split
      · grind
      · split
        · grind
        · rfl
  rw [rowsR_same (b := 0) (j := Y + 1), rowsR_last]
  · congr 1
    · refine rowsR_congr fun r h1 h2 => ?_
      unfold rowErr
      rw [if_neg (by omega), if_pos (by omega)]
    · unfold rowErr
      rw [if_neg (by omega), if_neg (by omega), if_pos rfl]
  · intro r hr
    have a1 := ph_cases r m2
    have a2 := ph_cases r m4
    by_cases hin : m2 / 64 ≤ r ∧ r < (m4 + 63) / 64
    · have hH : H ≤ r := by
        unfold imin at hr
        split at hr <;> omega
      unfold rowErr
      split
      · rfl
      · rw [if_neg (by omega), if_neg (by omega)]
    · have : ph r m4 - ph r m2 = 0 := by omega
      rw [this, Int.mul_zero, hz]
  · intro r hr
    unfold rowErr
    split
    · rfl
    · rw [if_neg (by omega), if_neg (by omega)]
theorem final_rat {s a b c : Rat} {k : Nat} (hk : k ≤ 2000) (h : ab (s - a) ≤ b + k * (1 / 100000000000000000000000000)) (hb : b = c) : ab (s - a) ≤ c + 1 / 10000000000000000000000 := by
  have hk' : (k : Rat) ≤ 2000 := by exact_mod_cast hk
  subst hb
  grind
theorem len_final {l S P : Rat} {k : Nat} {R : Int} {B : Rat} (hk : (k : Int) ≤ R) (h : l ≤ S * P / 64 * (1000001 / 1000000) + k * (3 + 1 / 10000)) (hS : S * P ≤ 128 * (B - 1)) : l ≤ 2 * (B - 1) * (1000001 / 1000000) + R * (3 + 1 / 10000) := by
  have hk' : (k : Rat) ≤ (R : Rat) := by
    have := castLe hk
    push_cast at this
    exact this
  generalize S * P = z at *
  grind
theorem down_facts {W H : Nat} {B : Rat} {m1 m2 m3 m4 dirI : Int} {dir : Nat} {e : Pt × Pt} (h : Span m1 m2 m3 m4) (hW : 0 < W) (hB0 : 120 ≤ B) (hB1 : B ≤ 1024) (hm1 : ab (m1 : Rat) ≤ 64 * (B - 1)) (hm3 : ab (m3 : Rat) ≤ 64 * (B - 1))
    (hd1 : dirI = 1 ∨ dirI = -1) (hdir : Ex 0 dir dirI) (he : (((m1, m2), (m3, m4)) : Pt × Pt) = e ∨ (((m3, m4), (m1, m2)) : Pt × Pt) = e) (hph : ∀ r, dirI * (ph r m4 - ph r m2) = dph r e) (hR : (m4 - m2 + 63) / 64 + 1 = rowsE e) (hR2 : rowsE e ≤ 2000)
    (hE : edgeF W H e = (⟨wq m2, wq m4, dir, slopeW m1 m2 m3 m4⟩ : GL).adds W (imin H ((m4 + 63) / 64) - m2 / 64).toNat (m2 / 64) (wq m1)) (hbd : ∀ p ∈ edgeF W H e, Bd p.2 68) : EF W H B e := by
  have hlt := h.lt
  obtain ⟨K, hK⟩ : ∃ K, K = (imin H ((m4 + 63) / 64) - m2 / 64).toNat := ⟨_, rfl⟩
  have hKR : (K : Int) ≤ rowsE e := by rw [hK, ← hR]; unfold imin; split <;> omega
  have hKend : m2 / 64 + (K : Int) ≤ (m4 + 63) / 64 := by rw [hK]; unfold imin; split <;> omega
  have hfirst := OnT.first h (B := B)
  rw [← hK] at hE
  refine ⟨?_, fun c => ?_, hbd, fun X Y hX hY => ?_⟩
  · obtain ⟨_, k2⟩ := adds_cell h hB0 hB1 hm1 hm3 (c := 0) hd1 hdir hW K 0 (m2 / 64) (wq m1) hfirst (Int.le_refl _) hKend (by omega)
    rw [← hE] at k2
    have hp := prog64_bd hlt (m2 / 64 + (K : Int))
    have hp0 := prog64_first hlt
    obtain ⟨_, x2⟩ := exact_bd h hm1 hm3 (p := prog64 m2 m4 (m2 / 64 + (K : Int)) - prog64 m2 m4 (m2 / 64)) (by omega) (by omega)
    exact len_final hKR k2 x2
  · obtain ⟨k1, _⟩ := adds_cell h hB0 hB1 hm1 hm3 (c := c) hd1 hdir hW K 0 (m2 / 64) (wq m1) hfirst (Int.le_refl _) hKend (by omega)
    rw [← hE] at k1
    have k2 := rowsR_two (f := fun r => if (r * (W : Int) ≤ (c : Int) ∧ (c : Int) ≤ r * W + W) then 10003 / 10000 else 0) (a := (c : Int) / W - 1) (M := 10003 / 10000) (by decide +kernel) (fun r => by split <;> decide +kernel) (fun r r1 r2 => by
      rw [if_neg]
      rintro ⟨c1, c2⟩
      have hWp : (0 : Int) < W := by omega
      have d1 : r ≤ (c : Int) / W := (Int.le_ediv_iff_mul_le hWp).2 c1
      have d2 : (c : Int) / W ≤ r + 1 := by
        have : (c : Int) / W < r + 2 := by
          rw [Int.ediv_lt_iff_lt_mul hWp, Int.add_mul]
          omega
        omega
      omega) K (m2 / 64)
    refine Rat.le_trans k1 (Rat.le_trans k2 ?_)
    split
    · decide +kernel
    · split <;> decide +kernel
  · obtain ⟨m, e1, e2, e3, e4⟩ := adds_cum h hB0 hB1 hm1 hm3 (Y := Y) hd1 hdir hX K 0 (m2 / 64) (wq m1) hfirst (Int.le_refl _) hKend (by omega)
    rw [← hE] at e4
    have c1 : rowsR (fun r => rowF Y m (dirI * k64 m2 m4 r) r / 64) (m2 / 64) K = rowsR (fun r => (dph r e : Rat) / 64) 0 Y + (dph Y e : Rat) / 64 * m := by
      have k1 := rows_upto (dir := dirI) (H := H) (Y := Y) m hlt (by omega)
      rw [← hK] at k1
      have k2 : rowsR (fun r => rowF Y m (dirI * k64 m2 m4 r) r / 64) (m2 / 64) K = rowsR (fun r => (1 / 64) * rowF Y m (dirI * (ph r m4 - ph r m2)) r) (m2 / 64) K := by
        refine rowsR_congr fun r r1 r2 => ?_
        rw [k64_ph hlt r1 (by omega)]
        grind
      rw [k2, rowsR_mul, k1]
      simp only [hph]
      have k3 : rowsR (fun r => (dph r e : Rat) / 64) 0 Y = 1 / 64 * rowsR (fun r => ((dph r e : Int) : Rat)) 0 Y := by
        rw [← rowsR_mul]
        refine rowsR_congr fun r _ _ => ?_
        grind
      rw [k3]
      grind
    have c2 : rowsR (fun r => rowErr Y B (dirI * k64 m2 m4 r) r) (m2 / 64) K = rowsR (fun r => ab ((dph r e : Rat) / 64) * (24 / 16777216)) 0 Y + ab ((dph Y e : Rat) / 64) * ((B + 8) / 16777216) := by
      have k1 := errs_upto (dir := dirI) (H := H) (Y := Y) (B := B) hlt (by omega)
      rw [← hK] at k1
      have k2 : rowsR (fun r => rowErr Y B (dirI * k64 m2 m4 r) r) (m2 / 64) K = rowsR (fun r => rowErr Y B (dirI * (ph r m4 - ph r m2)) r) (m2 / 64) K := by
        refine rowsR_congr fun r r1 r2 => ?_
        rw [k64_ph hlt r1 (by omega)]
      rw [k2, k1]
      simp only [hph]
    rw [c1] at e4
    refine ⟨m, e1, e2, fun hne => ?_, final_rat (k := K) (by omega) e4 c2⟩
    have hin : m2 / 64 ≤ (Y : Int) ∧ (Y : Int) < m2 / 64 + K := by
      have h0 := hph Y
      have a1 := ph_cases Y m2
      have a2 := ph_cases Y m4
      have hph0 : ph Y m4 - ph Y m2 ≠ 0 := by
        intro h9
        rw [h9, Int.mul_zero] at h0
        exact hne h0.symm
      rw [hK]
      unfold imin
      split <;> omega
    obtain ⟨n', x', x'', q1, q2, q3, q4⟩ := e3 hin.1 hin.2
    exact ⟨m1, m2, m3, m4, he, h, n', x', x'', by omega, q2, q3, q4⟩
/-- An edge whose numbers are at most so far. -/
structure FarE (B : Rat) (e : Pt × Pt) : Prop where
  s1 : Small e.1
  s2 : Small e.2
  x1 : ab (e.1.1 : Rat) ≤ 64 * (B - 1)
  x2 : ab (e.2.1 : Rat) ≤ 64 * (B - 1)
  rows : rowsE e ≤ 2000
theorem edgeF_flat (W : Nat) (H : Int) {a1 a2 b1 b2 : Int} (ha : Small (a1, a2)) (hb : Small (b1, b2)) (h : a2 = b2) : edgeF W H ((a1, a2), (b1, b2)) = [] := by
  subst h
  unfold edgeF
  have hA := (wq_ok (n := a1) (by have := ha.1; simp at this; omega) (by have := ha.1; simp at this; omega)).2
  have hB := (wq_ok (n := b1) (by have := hb.1; simp at this; omega) (by have := hb.1; simp at this; omega)).2
  have hC := (wq_ok (n := a2) (by have := ha.2; simp at this; omega) (by have := ha.2; simp at this; omega)).2
  have b1' := hA.bd (m := 262144) (by have := ha.1; simp at this; omega) (by have := ha.1; simp at this; omega)
  have b3' := hB.bd (m := 262144) (by have := hb.1; simp at this; omega) (by have := hb.1; simp at this; omega)
  push_cast at b1' b3'
  exact (floLine_flat W H hA.1 hC.1 hB.1 (by grind) (by grind)).1
theorem edge_facts {W H : Nat} {B : Rat} {e : Pt × Pt} (hW : 0 < W) (hB0 : 120 ≤ B) (hB1 : B ≤ 1024) (he : FarE B e) : EF W H B e := by
  obtain ⟨⟨a1, a2⟩, ⟨b1, b2⟩⟩ := e
  obtain ⟨ha, hb, x1, x2, hr⟩ := he
  simp only at ha hb x1 x2
  have hbd := (edgeF_ok W H ha hb).2
  rcases Int.lt_trichotomy a2 b2 with h | h | h
  · have hsp : Span a1 a2 b1 b2 := ⟨ha.1, ha.2, hb.1, hb.2, h⟩
    refine down_facts (dirI := 1) hsp hW hB0 hB1 x1 x2 (.inl rfl) (dir := 1065353216) ⟨fone.1.fin, by rw [fone.2, p2_zero]; push_cast; grind⟩ (.inl rfl) (fun r => by unfold dph; simp only; omega) ?_ hr (edgeF_down W H ha hb h) hbd
    unfold rowsE imax
    simp only
    split <;> omega
  · have hf := edgeF_flat W H ha hb h
    have hz : ∀ r, dph r ((a1, a2), (b1, b2)) = 0 := by intro r; unfold dph; simp only; rw [h]; omega
    have hrow : 0 ≤ rowsE ((a1, a2), (b1, b2)) := by unfold rowsE imax; simp only; split <;> omega
    have hrow' := castLe hrow
    rw [cast_zero] at hrow'
    refine ⟨?_, fun c => ?_, hbd, fun X Y hX hY => ⟨0, Rat.le_refl, by decide, fun hne => absurd (hz Y) hne, ?_⟩⟩
    · rw [hf]
      simp only [List.length_nil]
      push_cast
      grind
    · rw [hf]
      show (0 : Rat) ≤ _
      decide +kernel
    · have z0 : ab (((0 : Int) : Rat) / 64) = 0 := by decide +kernel
      have z1 : rowsR (fun r => (dph r ((a1, a2), (b1, b2)) : Rat) / 64) 0 Y = 0 := rowsR_zero fun r _ _ => by rw [hz, cast_zero]; grind
      have z2 : rowsR (fun r => ab ((dph r ((a1, a2), (b1, b2)) : Rat) / 64) * (24 / 16777216)) 0 Y = 0 := rowsR_zero fun r _ _ => by rw [hz, z0]; grind
      rw [hf, z1, z2, hz, z0, cast_zero]
      have z3 : sumR (valL []) (Y * W + X) = 0 := rfl
      rw [z3]
      have : ab ((0 : Rat) - (0 + 0 / 64 * 0)) = 0 := by decide +kernel
      rw [this]
      grind
  · have hsp : Span b1 b2 a1 a2 := ⟨hb.1, hb.2, ha.1, ha.2, h⟩
    refine down_facts (dirI := -1) hsp hW hB0 hB1 x2 x1 (.inr rfl) (dir := 3212836864) ⟨fmone.1.fin, by rw [fmone.2, p2_zero]; push_cast; grind⟩ (.inr rfl) (fun r => by unfold dph; simp only; omega) ?_ hr (edgeF_up W H ha hb h) hbd
    unfold rowsE imax
    simp only
    split <;> omega
end Go.Proofs.Ytmgcbodlolnheaa
