/- Floating numbers: what a row of a line adds, but for little, up to each cell. Floating numbers: how far the sums that a mask is made of are from exact sums. Floating numbers: what an edge adds, up to a pixel, but for -/
import Derived.Test.YtmgcbodlolnheaaZ08
namespace Go.Proofs.Ytmgcbodlolnheaa
open Flt Go.RowKit
set_option linter.unusedVariables false
theorem near_one {x : Rat} {r : Nat} (h : R32 x r) (h0 : 0 <= x) (h1 : x <= 1) : ab (V r - x) <= 1 - x := by
 have hle : V r <= 1 := by
  have := h.leInt (n := 1) (by push_cast; exact h1) (by decide) (by decide)
  push_cast at this
  exact this
 by_cases hx : x <= V r
 ·rw [ab_of_nonneg (by grind)]
  grind
 ·rw [ab_of_nonpos (by grind)]
  obtain ⟨L, k, l1, l2, l3, l4, l5, l6⟩ := Rounds.err h
  rw [least_single] at l1 l4
  rw [binade_single] at l4
  have hV : V r = fval Ieee.single r := rfl
  rw [<- hV] at l2 l3 l5
  have hL : L <= -23 := by
   rcases l4 with h4 | h4
   ·omega
   ·have e1 : ((8388608 : Nat) : Rat) * p2 L = p2 (L + 23) := by
     rw [p2_add, show (23 : Int) = ((23 : Nat) : Int) by rfl, p2_nat]; grind
    rw [e1, ab_of_nonneg h0] at h4
    have h5 : p2 (L + 23) <= p2 0 := by rw [p2_zero]; grind
    have := le_of_p2 h5
    omega
  have hp := p2_pos L
  obtain ⟨N, hN⟩ : ∃ N : Nat, -L = N := ⟨(-L).toNat, by omega⟩
  have e1 : (1 : Rat) = ((2 ^ N : Nat) : Rat) * p2 L := by
   rw [<- p2_nat, <- p2_add, <- hN]
   have : -L + L = 0 := by omega
   rw [this, p2_zero]
  have hk : (k : Rat) * p2 L < ((2 ^ N : Nat) : Rat) * p2 L := by rw [<- e1, <- l5]; grind
  have hk2 : (k : Rat) < (((2 ^ N : Nat) : Int) : Rat) := by
   have := Rat.lt_of_mul_lt_mul_right hk (Rat.le_of_lt hp)
   exact_mod_cast this
  have hk3 := Rat.intCast_lt_intCast.1 hk2
  have hk4 := castLe (show k <= ((2 ^ N : Nat) : Int) - 1 by omega)
  have hk5 := Rat.mul_le_mul_of_nonneg_right hk4 (Rat.le_of_lt hp)
  push_cast at hk5 e1
  have e3 : ((2 : Rat) ^ N - 1) * p2 L = 1 - p2 L := by grind
  rw [e3, <- l5] at hk5
  grind
theorem near_mone {x : Rat} {r : Nat} (h : R32 x r) (h0 : x <= 0) (h1 : -1 <= x) : ab (V r - x) <= 1 + x := by
 obtain ⟨f1, f2⟩ := fneg_ok h.fin
 have h2 : R32 (-x) (fneg r) := Rounds.neg_ h f1 f2
 have := near_one h2 (by grind) (by grind)
 rw [f2] at this
 have e : -V r - -x = -(V r - x) := by grind
 rw [e, ab_neg] at this
 grind
structure Part (G : Nat) (g : Rat) : Prop where
 fin : F32 G
 lo : 0 <= V G
 near : ab (V G - g) <= 3 / 16777216
 rel : ab (V G - g) <= g * (1001 / 1000)
 g0 : 0 < g
 g1 : g <= 1
theorem quad_rat {p w y g s R ρ A B : Rat} (hs : s * w = 1) (hw : 0 < w) (hp : ab (p * w - 1 / 2) <= 3 / 16777216) (hp0 : 0 <= p) (hy0 : 0 <= y) (hn : ab (y - g) <= 3 / 16777216) (hr : ab (y - g) <= g * (1001 / 1000)) (hg0 : 0 < g) (hg1 : g <= 1) (hgw : g <= w)
  (hA : ab (A - p * y) <= p * y * (1 / 16777216) + 1 / 1000000000000000000000000000000) (hA0 : 0 <= A) (hB : ab (B - A * y) <= A * y * (1 / 16777216) + 1 / 1000000000000000000000000000000) : ab (B - g * g / 2 * s) <= 16 / 16777216 := by
 have hs0 : 0 < s := by
  rcases Rat.le_total (a := s) (b := 0) with h | h
  ·have := Rat.mul_le_mul_of_nonneg_right h (Rat.le_of_lt hw)
   grind
  ·rcases lt_or_eq h with h1 | h1
   ·exact h1
   ·rw [<- h1] at hs; grind
 obtain ⟨a1, a2⟩ := ab_iff.1 hp
 obtain ⟨b1, b2⟩ := ab_iff.1 hn
 obtain ⟨c1, c2⟩ := ab_iff.1 hr
 obtain ⟨R, hR⟩ : ∃ R, R = g * s := ⟨_, rfl⟩
 obtain ⟨q, hq⟩ : ∃ q, q = y * s := ⟨_, rfl⟩
 have hR0 : 0 <= R := by rw [hR]; exact Rat.mul_nonneg (Rat.le_of_lt hg0) (Rat.le_of_lt hs0)
 have hR1 : R <= 1 := by
  have := Rat.mul_le_mul_of_nonneg_right hgw (Rat.le_of_lt hs0)
  grind
 have hq0 : 0 <= q := by rw [hq]; exact Rat.mul_nonneg hy0 (Rat.le_of_lt hs0)
 have hq1 : q <= 2001 / 1000 := by
  have := Rat.mul_le_mul_of_nonneg_right (show y <= g * (2001 / 1000) by grind) (Rat.le_of_lt hs0)
  have e : g * (2001 / 1000) * s = R * (2001 / 1000) := by rw [hR]; grind
  rw [e, <- hq] at this
  grind
 obtain ⟨P, hP⟩ : ∃ P, P = p * w := ⟨_, rfl⟩
 rw [<- hP] at a1 a2
 have hpy : p * y = P * q := by rw [hP, hq]; grind
 rw [hpy] at hA
 have m1 := Rat.mul_le_mul_of_nonneg_right a1 hq0
 have m2 := Rat.mul_le_mul_of_nonneg_right a2 hq0
 have e1 : (P - 1 / 2) * q = P * q - 1 / 2 * q := by grind
 rw [e1] at m1 m2
 obtain ⟨d1, d2⟩ := ab_iff.1 hA
 have hA1 : ab (A - 1 / 2 * q) <= 8 / 16777216 := by
  generalize P * q = pq at *
  exact ab_le (by grind) (by grind)
 obtain ⟨f1, f2⟩ := ab_iff.1 hA1
 obtain ⟨g1, g2⟩ := ab_iff.1 hB
 have hyb : y <= 1 + 3 / 16777216 := by grind
 have n1 := Rat.mul_le_mul_of_nonneg_right f1 hy0
 have n2 := Rat.mul_le_mul_of_nonneg_right f2 hy0
 have e2 : (A - 1 / 2 * q) * y = A * y - 1 / 2 * (q * y) := by grind
 rw [e2] at n1 n2
 have hqy : q * y <= 21 / 10 := by
  have := Rat.mul_le_mul_of_nonneg_left hyb hq0
  grind
 have hqy0 : 0 <= q * y := Rat.mul_nonneg hq0 hy0
 have hdiff : q * y - R * g = (y - g) * (q + R) := by rw [hq, hR]; grind
 have hqR : 0 <= q + R := by grind
 have k1 := Rat.mul_le_mul_of_nonneg_right b1 hqR
 have k2 := Rat.mul_le_mul_of_nonneg_right b2 hqR
 rw [<- hdiff] at k1 k2
 have hfin : g * g / 2 * s = 1 / 2 * (R * g) := by rw [hR]; grind
 rw [hfin]
 generalize A * y = ay at *
 generalize q * y = qy at *
 generalize R * g = rg at *
 clear hB hA hA1 e1 e2 hdiff hfin hpy hP hq hR hs hp hn hr m1 m2 d1 d2
 exact ab_le (by grind) (by grind)
theorem subE {a b : Nat} {x y e f X E : Rat} (ha : F32 a) (hb : F32 b) (hx : ab (V a - x) <= e) (hy : ab (V b - y) <= f) (hX : ab (x - y) <= X) (hb2 : X + (e + f) <= 1000000) (hE : e + f + (X + (e + f)) * (1 / 16777216) + 1 / 1000000000000000000000000000000 <= E) :
  F32 (fop .sub a b) /\ ab (V (fop .sub a b) - (x - y)) <= E := by
 have h1 : ab (V a - V b) <= X + (e + f) := by
  obtain ⟨a1, a2⟩ := ab_iff.1 hx
  obtain ⟨b1, b2⟩ := ab_iff.1 hy
  obtain ⟨c1, c2⟩ := ab_iff.1 hX
  exact ab_le (by grind) (by grind)
 obtain ⟨_, r⟩ := fsub_ok ha hb (big126 (by grind))
 have n := r.near5.2
 refine ⟨r.fin, ?_⟩
 generalize V (fop .sub a b) = z at *
 obtain ⟨a1, a2⟩ := ab_iff.1 hx
 obtain ⟨b1, b2⟩ := ab_iff.1 hy
 obtain ⟨c1, c2⟩ := ab_iff.1 n
 generalize ab (V a - V b) = k at *
 exact ab_le (by grind) (by grind)
theorem addE {a b : Nat} {x y e f X E : Rat} (ha : F32 a) (hb : F32 b) (hx : ab (V a - x) <= e) (hy : ab (V b - y) <= f) (hX : ab (x + y) <= X) (hb2 : X + (e + f) <= 1000000) (hE : e + f + (X + (e + f)) * (1 / 16777216) + 1 / 1000000000000000000000000000000 <= E) :
  F32 (fop .add a b) /\ ab (V (fop .add a b) - (x + y)) <= E := by
 have h1 : ab (V a + V b) <= X + (e + f) := by
  obtain ⟨a1, a2⟩ := ab_iff.1 hx
  obtain ⟨b1, b2⟩ := ab_iff.1 hy
  obtain ⟨c1, c2⟩ := ab_iff.1 hX
  exact ab_le (by grind) (by grind)
 obtain ⟨_, r⟩ := fadd_ok ha hb (big126 (by grind))
 have n := r.near5.2
 refine ⟨r.fin, ?_⟩
 generalize V (fop .add a b) = z at *
 obtain ⟨a1, a2⟩ := ab_iff.1 hx
 obtain ⟨b1, b2⟩ := ab_iff.1 hy
 obtain ⟨c1, c2⟩ := ab_iff.1 n
 generalize ab (V a + V b) = k at *
 exact ab_le (by grind) (by grind)
theorem termE {d Y : Nat} {y e : Rat} (hd : Bd d 0) (hY : F32 Y) (h : ab (V Y - y) <= e) (hy : ab y <= 2) (he : e <= 1 / 1000) :
  F32 (fop .mul d Y) /\ ab (V (fop .mul d Y) - V d * y) <= ab (V d) * (e + 3 / 16777216) + 1 / 1000000000000000000000000000000 := by
 have hD : ab (V d) <= 1 := by have := hd.ab; rwa [p2_zero] at this
 have hYb : ab (V Y) <= 2001 / 1000 := by
  have := ab_add_le (V Y - y) y
  have e1 : V Y - y + y = V Y := by grind
  rw [e1] at this
  grind
 have hm : ab (V d * V Y) <= ab (V d) * (2001 / 1000) := ab_mul_le Rat.le_refl hYb
 obtain ⟨_, r⟩ := fmul_ok hd.fin hY (big126 (by grind))
 have n := r.near5.2
 have hm2 : ab (V d * (V Y - y)) <= ab (V d) * e := ab_mul_le Rat.le_refl h
 refine ⟨r.fin, ?_⟩
 have e2 : V (fop .mul d Y) - V d * y = (V (fop .mul d Y) - V d * V Y) + V d * (V Y - y) := by grind
 rw [e2]
 have k := ab_add_le (V (fop .mul d Y) - V d * V Y) (V d * (V Y - y))
 generalize ab (V (fop .mul d Y) - V d * V Y) = k1 at *
 generalize ab (V d * (V Y - y)) = k2 at *
 generalize ab (V d * V Y) = k3 at *
 have e3 : ab (V d) * (e + 3 / 16777216) = ab (V d) * e + ab (V d) * (3 / 16777216) := by grind
 rw [e3]
 have h0 := ab_nonneg (V d)
 generalize ab (V d) * e = de at *
 grind
def absR : List (Nat × Rat) -> Rat
 | [] => 0
 | (_, v) :: t => ab v + absR t
theorem absR_append : ∀ (s t : List (Nat × Rat)), absR (s ++ t) = absR s + absR t
 | [], _ => by simp only [List.nil_append, absR]; grind
 | (k, v) :: s, t => by rw [List.cons_append, absR, absR_append s t, absR]; grind
theorem sumR_place {W base X : Nat} {k : Int} {v : Rat} (hX : X < W) (t : List (Nat × Rat)) : sumR ((base + clampN k W, v) :: t) (base + X) = (if k <= X then v else 0) + sumR t (base + X) := by
 rw [sumR]
 have h : (base + clampN k W <= base + X) ↔ k <= X := by rw [Nat.add_le_add_iff_left]; exact clamp_le_iff hX
 by_cases hk : k <= X
 ·rw [if_pos hk, if_pos (h.2 hk)]
 ·rw [if_neg hk, if_neg (fun c => hk (h.1 c))]
def upTo (X : Nat) (x0 : Int) (N : Nat) : Int := imin (imax ((X : Int) + 1 - x0) 0) N
theorem upTo_succ (X : Nat) (x0 : Int) (N : Nat) : upTo X x0 (N + 1) = upTo X x0 N + if x0 + (N : Int) <= X then 1 else 0 := by
 unfold upTo imin imax
 split <;> split <;> split <;> split <;> omega
theorem sumR_fill {W base X : Nat} (hX : X < W) (x0 : Int) (v : Nat) : ∀ N : Nat, sumR (valL (ffill base W x0 v N)) (base + X) = V v * (upTo X x0 N : Int)
 | 0 => by
  have e : upTo X x0 0 = 0 := by unfold upTo imin imax; split <;> split <;> omega
  rw [e, cast_zero]
  simp only [ffill, valL, List.map_nil, sumR]
  grind
 | N + 1 => by
  rw [ffill, valL_append, sumR_append, sumR_fill hX x0 v N, upTo_succ]
  have e : valL [(base + clampN (x0 + (N : Int)) W, v)] = [(base + clampN (x0 + (N : Int)) W, V v)] := rfl
  rw [e, sumR_place hX]
  simp only [sumR]
  by_cases h : x0 + (N : Int) <= X
  ·rw [if_pos h, if_pos h]; push_cast; grind
  ·rw [if_neg h, if_neg h]; push_cast; grind
theorem totR_fill (base W : Nat) (x0 : Int) (v : Nat) : ∀ N : Nat, totR (valL (ffill base W x0 v N)) = V v * N /\ absR (valL (ffill base W x0 v N)) = ab (V v) * N /\ (ffill base W x0 v N).length = N
 | 0 => by
  refine ⟨?_, ?_, rfl⟩
  ·simp only [ffill, valL, List.map_nil, totR]; push_cast; grind
  ·simp only [ffill, valL, List.map_nil, absR]; push_cast; grind
 | N + 1 => by
  obtain ⟨a, b, c⟩ := totR_fill base W x0 v N
  have e : valL [(base + clampN (x0 + (N : Int)) W, v)] = [(base + clampN (x0 + (N : Int)) W, V v)] := rfl
  rw [ffill, valL_append, totR_append, absR_append, a, b, e, List.length_append, c]
  simp only [totR, absR]
  refine ⟨?_, ?_, rfl⟩ <;> push_cast <;> grind
theorem clamp_place (k : Int) (W base : Nat) : base <= base + clampN k W /\ base + clampN k W <= base + W := by
 have := clampN_le k W
 omega
theorem ffill_place {base W : Nat} {x0 : Int} {v : Nat} {p : Nat × Nat} : ∀ {N : Nat}, p ∈ ffill base W x0 v N -> base <= p.1 /\ p.1 <= base + W
 | 0, h => by simp [ffill] at h
 | N + 1, h => by
  rw [ffill, List.mem_append] at h
  rcases h with h | h
  ·exact ffill_place h
  ·simp only [List.mem_singleton] at h
   rw [h]
   exact clamp_place _ _ _
structure RowNear (L : List (Nat × Nat)) (W base : Nat) (D a b B : Rat) : Prop where
 cum : ∀ X, X < W -> ab (sumR (valL L) (base + X) - D * mean ((X : Rat) + 1 - a) ((X : Rat) + 1 - b)) <= ab D * ((B + 8) / 16777216) + 1 / 100000000000000000000000000
 tot : ab (totR (valL L) - D) <= ab D * (24 / 16777216) + 1 / 100000000000000000000000000
 abs : absR (valL L) <= ab D * (5001 / 5000) + 1 / 100000000000000000000000000
 len : (L.length : Rat) <= ab (b - a) + 3
 place : ∀ p ∈ L, base <= p.1 /\ p.1 <= base + W
theorem RowNear.swap {L : List (Nat × Nat)} {W base : Nat} {D a b B : Rat} (h : RowNear L W base D a b B) : RowNear L W base D b a B := by
 refine ⟨fun X hX => ?_, h.tot, h.abs, ?_, h.place⟩
 ·rw [mean_comm]; exact h.cum X hX
 ·have e : a - b = -(b - a) := by grind
  rw [e, ab_neg]; exact h.len
theorem mean_s {s w z a b : Rat} (hs : s * w = 1) (hw : w = b - a) : mean (z - a) (z - b) = s * (kk (z - a) - kk (z - b)) := by
 have h := mean_mul (z - a) (z - b)
 have e : z - b - (z - a) = -w := by grind
 rw [e] at h
 have h2 : s * (mean (z - a) (z - b) * -w) = s * (kk (z - b) - kk (z - a)) := by rw [h]
 generalize mean (z - a) (z - b) = m at *
 grind
theorem termX {d Y : Nat} (hd : Bd d 0) (hY : F32 Y) (hy : ab (V Y) <= 2) : ab (V (fop .mul d Y) - V d * V Y) <= ab (V d) * (3 / 16777216) + 1 / 1000000000000000000000000000000 := by
 have h := (termE (y := V Y) (e := 0) hd hY (by have : V Y - V Y = 0 := by grind
                                                rw [this]; decide +kernel) hy (by decide +kernel)).2
 have e : (0 : Rat) + 3 / 16777216 = 3 / 16777216 := by grind
 rw [e] at h
 exact h
theorem inv_of {w : Rat} (hw : 0 < w) : ∃ s, s * w = 1 /\ 0 < s := ⟨w⁻¹, Rat.inv_mul_cancel w (by grind), Rat.inv_pos.2 hw⟩
theorem abs_term {z D y k : Rat} (h : ab (z - D * y) <= ab D * k + 1 / 1000000000000000000000000000000) (hy : 0 <= y) : ab z <= ab D * y + ab D * k + 1 / 1000000000000000000000000000000 := by
 have k1 := ab_add_le (z - D * y) (D * y)
 have e : z - D * y + D * y = z := by grind
 rw [e, ab_mul D y, ab_of_nonneg hy] at k1
 grind
theorem tri_rat {g h s w : Rat} (hg0 : 0 <= g) (hg1 : g <= 1) (hh0 : 0 <= h) (hh1 : h <= 1) (hs : s * w = 1) (hs0 : 0 < s) (hw : g + h <= w) : 0 <= g * g / 2 * s /\ 0 <= h * h / 2 * s /\ g * g / 2 * s + h * h / 2 * s <= 1 /\ g * s <= 1 /\ h * s <= 1 := by
 have m1 := Rat.mul_le_mul_of_nonneg_right hw (Rat.le_of_lt hs0)
 have a1 := Rat.mul_nonneg hg0 (Rat.le_of_lt hs0)
 have a2 := Rat.mul_nonneg hh0 (Rat.le_of_lt hs0)
 have b1 := Rat.mul_nonneg a1 hg0
 have b2 := Rat.mul_nonneg a2 hh0
 have c1 := Rat.mul_le_mul_of_nonneg_left hg1 a1
 have c2 := Rat.mul_le_mul_of_nonneg_left hh1 a2
 have e1 : g * g / 2 * s = 1 / 2 * (g * s * g) := by grind
 have e2 : h * h / 2 * s = 1 / 2 * (h * s * h) := by grind
 have e3 : (g + h) * s = g * s + h * s := by grind
 rw [e1, e2]
 rw [e3] at m1
 have e4 : w * s = 1 := by grind
 rw [e4] at m1
 generalize g * s * g = p at *
 generalize h * s * h = q at *
 generalize g * s = gs at *
 generalize h * s = hs' at *
 grind
theorem mulE {a b : Nat} {x y e f X Y E : Rat} (ha : F32 a) (hb : F32 b) (hx : ab (V a - x) <= e) (hy : ab (V b - y) <= f) (hX : ab x <= X) (hY : ab y <= Y) (he : 0 <= e) (hf : 0 <= f) (hbig : (X + e) * (Y + f) <= 1000000)
  (hE : e * Y + X * f + e * f + (X + e) * (Y + f) * (1 / 16777216) + 1 / 1000000000000000000000000000000 <= E) :
  F32 (fop .mul a b) /\ ab (V (fop .mul a b) - x * y) <= E := by
 have k1 : ab (V a) <= X + e := by
  have k := ab_add_le (V a - x) x
  have e1 : V a - x + x = V a := by grind
  rw [e1] at k
  grind
 have k2 : ab (V b) <= Y + f := by
  have k := ab_add_le (V b - y) y
  have e1 : V b - y + y = V b := by grind
  rw [e1] at k
  grind
 have k3 : ab (V a * V b) <= (X + e) * (Y + f) := ab_mul_le k1 k2
 obtain ⟨_, r⟩ := fmul_ok ha hb (big126 (by grind))
 have n := r.near5.2
 refine ⟨r.fin, ?_⟩
 have j1 : ab ((V a - x) * y) <= e * Y := ab_mul_le hx hY
 have j2 : ab (x * (V b - y)) <= X * f := ab_mul_le hX hy
 have j3 : ab ((V a - x) * (V b - y)) <= e * f := ab_mul_le hx hy
 have e1 : V (fop .mul a b) - x * y = (V (fop .mul a b) - V a * V b) + ((V a - x) * y + (x * (V b - y) + (V a - x) * (V b - y))) := by grind
 rw [e1]
 have i1 := ab_add_le (V (fop .mul a b) - V a * V b) ((V a - x) * y + (x * (V b - y) + (V a - x) * (V b - y)))
 have i2 := ab_add_le ((V a - x) * y) (x * (V b - y) + (V a - x) * (V b - y))
 have i3 := ab_add_le (x * (V b - y)) ((V a - x) * (V b - y))
 generalize ab (V (fop .mul a b) - V a * V b) = z1 at *
 generalize ab (V a * V b) = z2 at *
 generalize (X + e) * (Y + f) = z3 at *
 generalize e * Y = z4 at *
 generalize X * f = z5 at *
 generalize e * f = z6 at *
 grind
theorem sum10 {D a b c d e f g h i j : Rat} (h1 : ab a <= D * (3 / 16777216) + 1 / 1000000000000000000000000000000) (h2 : ab b <= D * (3 / 16777216) + 1 / 1000000000000000000000000000000) (h3 : ab c <= D * (2 / 16777216) + 1 / 400000000000000000000000000)
  (h4 : ab d <= D * (3 / 16777216) + 1 / 1000000000000000000000000000000) (h5 : ab e <= D * (3 / 16777216) + 1 / 1000000000000000000000000000000) (h6 : ab f <= D * (2 / 16777216)) (h7 : ab g <= D * (2 / 16777216)) (h8 : ab h <= D * (2 / 16777216)) (h9 : ab i <= D * (2 / 16777216)) (h10 : ab j <= D * (2 / 16777216)) :
  ab (a + (b + (c + (d + (e + (f + (g + (h - (i + j))))))))) <= D * (24 / 16777216) + 1 / 200000000000000000000000000 := by
 obtain ⟨a1, a2⟩ := ab_iff.1 h1
 obtain ⟨b1, b2⟩ := ab_iff.1 h2
 obtain ⟨c1, c2⟩ := ab_iff.1 h3
 obtain ⟨d1, d2⟩ := ab_iff.1 h4
 obtain ⟨e1, e2⟩ := ab_iff.1 h5
 obtain ⟨f1, f2⟩ := ab_iff.1 h6
 obtain ⟨g1, g2⟩ := ab_iff.1 h7
 obtain ⟨i1, i2⟩ := ab_iff.1 h8
 obtain ⟨j1, j2⟩ := ab_iff.1 h9
 obtain ⟨k1, k2⟩ := ab_iff.1 h10
 clear h1 h2 h3 h4 h5 h6 h7 h8 h9 h10
 exact ab_le (by grind) (by grind)
def sumN (f : Nat -> Rat) : Nat -> Rat
 | 0 => 0
 | n + 1 => sumN f n + f n
theorem sumN_le {f g : Nat -> Rat} : ∀ {n : Nat}, (∀ k, k < n -> f k <= g k) -> sumN f n <= sumN g n
 | 0, _ => Rat.le_refl
 | n + 1, h => by
  have h1 := sumN_le (f := f) (g := g) (n := n) fun k hk => h k (by omega)
  have h2 := h n (by omega)
  rw [sumN, sumN]
  grind
theorem sumN_nonneg {f : Nat -> Rat} {n : Nat} (h : ∀ k, k < n -> 0 <= f k) : 0 <= sumN f n := by
 induction n with
 | zero => exact Rat.le_refl
 | succ n ih =>
  have h1 := ih fun k hk => h k (by omega)
  have h2 := h n (by omega)
  rw [sumN]
  grind
theorem sumN_mono {f : Nat -> Rat} {m n : Nat} (hf : ∀ k, 0 <= f k) (h : m <= n) : sumN f m <= sumN f n := by
 induction n with
 | zero =>
  have : m = 0 := by omega
  rw [this]
  exact Rat.le_refl
 | succ n ih =>
  by_cases hm : m = n + 1
  ·rw [hm]; exact Rat.le_refl
  ·have h1 := ih (by omega)
   have h2 := hf n
   rw [sumN]
   grind
theorem sumN_mem {f : Nat -> Rat} {n k : Nat} (hf : ∀ i, 0 <= f i) (h : k < n) : f k <= sumN f n := by
 have h1 := sumN_mono (f := f) hf (show k + 1 <= n from h)
 have h2 := sumN_nonneg (f := f) (n := k) fun i _ => hf i
 rw [sumN] at h1
 grind
theorem sumN_add (f g : Nat -> Rat) : ∀ n, sumN (fun k => f k + g k) n = sumN f n + sumN g n
 | 0 => by simp only [sumN]; grind
 | n + 1 => by simp only [sumN]; rw [sumN_add f g n]; grind
theorem sumN_mul (c : Rat) (f : Nat -> Rat) : ∀ n, sumN (fun k => c * f k) n = c * sumN f n
 | 0 => by simp only [sumN]; grind
 | n + 1 => by simp only [sumN]; rw [sumN_mul c f n]; grind
theorem sumN_const (c : Rat) : ∀ n : Nat, sumN (fun _ => c) n = n * c
 | 0 => by simp only [sumN]; push_cast; grind
 | n + 1 => by simp only [sumN]; rw [sumN_const c n]; push_cast; grind
theorem sumN_congr {f g : Nat -> Rat} {n : Nat} (h : ∀ k, k < n -> f k = g k) : sumN f n = sumN g n := by
 induction n with
 | zero => rfl
 | succ n ih => rw [sumN, sumN, ih fun k hk => h k (by omega), h n (by omega)]
theorem sumN_split (f : Nat -> Rat) (m : Nat) : ∀ n, sumN f (m + n) = sumN f m + sumN (fun k => f (m + k)) n
 | 0 => by simp only [sumN, Nat.add_zero]; grind
 | n + 1 => by rw [<- Nat.add_assoc, sumN, sumN_split f m n, sumN]; grind
theorem sumN_one {f : Nat -> Rat} {d : Rat} {n k : Nat} (hd : 0 <= d) : sumN (fun i => f i + if i = k then d else 0) n <= sumN f n + d := by
 rw [sumN_add]
 have : sumN (fun i => if i = k then d else 0) n <= d := by
  by_cases hk : k < n
  ·clear hd
   induction n with
   | zero => omega
   | succ n ih =>
    rw [sumN]
    by_cases hkn : k = n
    ·rw [if_pos hkn.symm]
     have : sumN (fun i => if i = k then d else 0) n = sumN (fun _ => 0) n := sumN_congr fun i hi => by rw [if_neg (by omega)]
     rw [this, sumN_const]
     grind
    ·rw [if_neg (fun h => hkn h.symm)]
     have := ih (by omega)
     grind
  ·have : sumN (fun i => if i = k then d else 0) n = sumN (fun _ => 0) n := sumN_congr fun i hi => by rw [if_neg (by omega)]
   rw [this, sumN_const]
   grind
 grind
theorem sumN_rows (g : Nat -> Rat) (W : Nat) (hW : 0 < W) : ∀ H, sumN (fun k => g (k / W)) (H * W) = W * sumN g H
 | 0 => by simp only [Nat.zero_mul, sumN]; grind
 | H + 1 => by
  rw [Nat.add_mul, Nat.one_mul, sumN_split, sumN_rows g W hW H, sumN]
  have : sumN (fun k => g ((H * W + k) / W)) W = sumN (fun _ => g H) W := sumN_congr fun k hk => by
   congr 1
   rw [Nat.add_comm, Nat.add_mul_div_right _ _ hW, Nat.div_eq_of_lt hk]
   omega
  rw [this, sumN_const]
  grind
def cellR : List (Nat × Rat) -> Nat -> Rat
 | [], _ => 0
 | (k, v) :: t, p => (if k = p then v else 0) + cellR t p
def cellA : List (Nat × Rat) -> Nat -> Rat
 | [], _ => 0
 | (k, v) :: t, p => (if k = p then ab v else 0) + cellA t p
theorem cellR_append : ∀ (s t : List (Nat × Rat)) (p : Nat), cellR (s ++ t) p = cellR s p + cellR t p
 | [], _, _ => by simp only [List.nil_append, cellR]; grind
 | (k, v) :: s, t, p => by rw [List.cons_append, cellR, cellR_append s t, cellR]; grind
theorem cellA_append : ∀ (s t : List (Nat × Rat)) (p : Nat), cellA (s ++ t) p = cellA s p + cellA t p
 | [], _, _ => by simp only [List.nil_append, cellA]; grind
 | (k, v) :: s, t, p => by rw [List.cons_append, cellA, cellA_append s t, cellA]; grind
theorem cellA_nonneg : ∀ (s : List (Nat × Rat)) (p : Nat), 0 <= cellA s p
 | [], _ => Rat.le_refl
 | (k, v) :: s, p => by
  have h1 := cellA_nonneg s p
  have h2 := ab_nonneg v
  rw [cellA]
  split <;> grind
theorem cellR_ab : ∀ (s : List (Nat × Rat)) (p : Nat), ab (cellR s p) <= cellA s p
 | [], _ => by simp only [cellR, cellA]; decide +kernel
 | (k, v) :: s, p => by
  have h1 := cellR_ab s p
  rw [cellR, cellA]
  have h2 := ab_add_le (if k = p then v else 0) (cellR s p)
  split
  ·rename_i h
   rw [if_pos h] at h2
   grind
  ·rename_i h
   rw [if_neg h] at h2
   have : ab (0 : Rat) = 0 := by decide +kernel
   grind
theorem cellA_absR : ∀ (s : List (Nat × Rat)) (p : Nat), cellA s p <= absR s
 | [], _ => Rat.le_refl
 | (k, v) :: s, p => by
  have h1 := cellA_absR s p
  have h2 := ab_nonneg v
  rw [cellA, absR]
  split <;> grind
theorem cellA_none : ∀ {s : List (Nat × Rat)} {p : Nat}, (∀ x ∈ s, x.1 ≠ p) -> cellA s p = 0
 | [], _, _ => rfl
 | (k, v) :: s, p, h => by
  have h1 := h (k, v) (by simp)
  simp only at h1
  rw [cellA, if_neg h1, cellA_none fun x hx => h x (by simp [hx])]
  grind
theorem sumN_cellR : ∀ (s : List (Nat × Rat)) (p : Nat), sumN (cellR s) (p + 1) = sumR s p
 | [], p => by
  have : sumN (cellR []) (p + 1) = sumN (fun _ => 0) (p + 1) := sumN_congr fun k _ => rfl
  rw [this, sumN_const]
  simp only [sumR]
  grind
 | (k, v) :: s, p => by
  have e : sumN (cellR ((k, v) :: s)) (p + 1) = sumN (fun i => (if k = i then v else 0) + cellR s i) (p + 1) := sumN_congr fun i _ => rfl
  rw [e, sumN_add, sumN_cellR s p, sumR]
  congr 1
  by_cases hk : k <= p
  ·rw [if_pos hk]
   obtain ⟨j, hj⟩ : ∃ j, p + 1 = k + (1 + j) := ⟨p - k, by omega⟩
   rw [hj, sumN_split, sumN_split]
   have e1 : sumN (fun i => if k = i then v else 0) k = sumN (fun _ => 0) k := sumN_congr fun i hi => by rw [if_neg (by omega)]
   have e2 : sumN (fun i => if k = k + (1 + i) then v else 0) j = sumN (fun _ => 0) j := sumN_congr fun i hi => by rw [if_neg (by omega)]
   rw [e1, e2, sumN_const, sumN_const]
   simp only [sumN, Nat.add_zero, if_true]
   grind
  ·rw [if_neg hk]
   have e1 : sumN (fun i => if k = i then v else 0) (p + 1) = sumN (fun _ => 0) (p + 1) := sumN_congr fun i hi => by rw [if_neg (by omega)]
   rw [e1, sumN_const]
   grind
def offL (l : List Nat) (s : List (Nat × Rat)) (n : Nat) : Rat := sumN (fun k => ab (V (fAt l k) - cellR s k)) n
theorem fAt_bump (l : List Nat) (k v i : Nat) : fAt (fbump l k v) i = if i = k /\ k < l.length then fop .add (fAt l k) v else fAt l i := by
 unfold fAt fbump
 by_cases hi : i < l.length
 ·have h1 : (l.modify k fun a => fop .add a v).getD i 0 = (l.modify k fun a => fop .add a v)[i]'(by simpa using hi) := by simp [List.getD, hi]
  rw [h1, List.getElem_modify]
  by_cases hk : k = i
  ·subst hk
   rw [if_pos rfl, if_pos ⟨rfl, hi⟩]
   simp [List.getD, hi]
  ·rw [if_neg hk, if_neg (fun h => hk h.1.symm)]
   simp [List.getD, hi]
 ·have h1 : (l.modify k fun a => fop .add a v).getD i 0 = 0 := by simp [List.getD, hi]
  rw [h1]
  by_cases hk : i = k /\ k < l.length
  ·omega
  ·rw [if_neg hk]
   simp [List.getD, hi]
theorem off_step {l : List Nat} {s : List (Nat × Rat)} {k v n : Nat} {C E : Rat} (hl : CellsBd l) (hv : Bd v 68) (hn : n <= l.length) (hC : ab (cellR s k + V v) <= C) (hE : offL l s n <= E) (hC0 : 0 <= C) (hE0 : 0 <= E) :
  offL (fbump l k v) (s ++ [(k, V v)]) n <= offL l s n + ((C + E) * (1 / 16777216) + 1 / 1000000000000000000000000000000) := by
 have hd : 0 <= (C + E) * (1 / 16777216) + 1 / 1000000000000000000000000000000 := by grind
 refine Rat.le_trans ?_ (sumN_one (k := k) hd)
 unfold offL
 refine sumN_le fun i hi => ?_
 rw [fAt_bump, cellR_append]
 simp only [cellR]
 by_cases hk : i = k
 ·subst hk
  rw [if_pos ⟨rfl, by omega⟩, if_pos rfl, if_pos rfl]
  obtain ⟨q1, _⟩ := Bd.sat (hl.at i) (hv.mono (by decide)) (by decide) (by decide)
  have hb := (hl.at i).ab
  have hb2 := hv.ab
  have hsz : ab (V (fAt l i) + V v) <= p2 126 := by
   have k := ab_add_le (V (fAt l i)) (V v)
   have m1 := p2_mono (a := 68) (b := 100) (by decide)
   have m2 := p2_mono (a := 101) (b := 126) (by decide)
   have m3 : p2 101 = 2 * p2 100 := by rw [<- p2_succ]; rfl
   grind
  obtain ⟨_, r⟩ := fadd_ok (hl.at i).fin hv.fin hsz
  have nr := r.near5.2
  have hi2 : ab (V (fAt l i) - cellR s i) <= E := Rat.le_trans (sumN_mem (f := fun k => ab (V (fAt l k) - cellR s k)) (fun _ => ab_nonneg _) hi) hE
  have e1 : V (fAt l i) + V v = (V (fAt l i) - cellR s i) + (cellR s i + V v) := by grind
  have k1 := ab_add_le (V (fAt l i) - cellR s i) (cellR s i + V v)
  rw [<- e1] at k1
  have e2 : V (fop .add (fAt l i) v) - (cellR s i + (V v + 0)) = (V (fop .add (fAt l i) v) - (V (fAt l i) + V v)) + (V (fAt l i) - cellR s i) := by grind
  rw [e2]
  have k2 := ab_add_le (V (fop .add (fAt l i) v) - (V (fAt l i) + V v)) (V (fAt l i) - cellR s i)
  generalize ab (V (fop .add (fAt l i) v) - (V (fAt l i) + V v)) = z1 at *
  generalize ab (V (fAt l i) - cellR s i) = z2 at *
  generalize ab (V (fAt l i) + V v) = z3 at *
  generalize ab (cellR s i + V v) = z4 at *
  grind
 ·rw [if_neg (fun h => hk h.1), if_neg (fun h => hk h.symm), if_neg hk]
  have e : cellR s i + (0 + 0) = cellR s i := by grind
  rw [e]
  grind
def accTo : Nat -> List Nat -> Nat -> Nat
 | acc, [], _ => acc
 | acc, v :: _, 0 => fop .add acc v
 | acc, v :: t, p + 1 => accTo (fop .add acc v) t p
theorem floBytes_at : ∀ (l : List Nat) (acc p : Nat), p < l.length -> (floBytes acc l)[p]? = some (floByte (accTo acc l p))
 | [], _, _, h => by simp at h
 | v :: t, acc, 0, _ => by simp [floBytes, accTo]
 | v :: t, acc, p + 1, h => by
  rw [floBytes, List.getElem?_cons_succ, floBytes_at t (fop .add acc v) p (by simpa using h), accTo]
theorem acc_near {κ : Rat} (hκ0 : 0 <= κ) (hκ1 : κ <= 1) (T c : Nat -> Rat) (hc0 : ∀ k, 0 <= c k) : ∀ (l : List Nat) (acc o p : Nat) (e : Rat), CellsBd l -> F32 acc -> (∀ i, i < l.length -> ab (V (fAt l i) - (T (o + i + 1) - T (o + i))) <= c (o + i)) -> (∀ k, ab (T k) <= 1000) -> ab (V acc - T o) <= e -> 0 <= e -> p < l.length ->
  e + sumN (fun i => c (o + i) + ((ab (T (o + i + 1)) + 2 * κ) * (1 / 16777216) + 1 / 1000000000000000000000000000000)) (p + 1) <= κ ->
  F32 (accTo acc l p) /\ ab (V (accTo acc l p) - T (o + p + 1)) <= e + sumN (fun i => c (o + i) + ((ab (T (o + i + 1)) + 2 * κ) * (1 / 16777216) + 1 / 1000000000000000000000000000000)) (p + 1)
 | [], _, _, _, _, _, _, _, _, _, _, h, _ => by simp at h
 | v :: t, acc, o, p, e, hl, ha, hcell, hT, hacc, he0, hp, hb => by
  have hv : Bd v 100 := hl v (by simp)
  have h0 := hcell 0 (by simp)
  have hf0 : fAt (v :: t) 0 = v := by simp [fAt]
  rw [hf0, Nat.add_zero] at h0
  have hpos : ∀ i, 0 <= c (o + i) + ((ab (T (o + i + 1)) + 2 * κ) * (1 / 16777216) + 1 / 1000000000000000000000000000000) := fun i => by
   have := hc0 (o + i)
   have := ab_nonneg (T (o + i + 1))
   grind
  have hfirst := sumN_mem (f := fun i => c (o + i) + ((ab (T (o + i + 1)) + 2 * κ) * (1 / 16777216) + 1 / 1000000000000000000000000000000)) hpos (show 0 < p + 1 by omega)
  simp only [Nat.add_zero] at hfirst
  have hc := hc0 o
  have hTn := ab_nonneg (T (o + 1))
  have hs1 : e <= κ := by grind
  have hs2 : c o <= κ := by grind
  have e1 : V acc + V v = T (o + 1) + ((V acc - T o) + (V v - (T (o + 1) - T o))) := by grind
  have k1 := ab_add_le (T (o + 1)) ((V acc - T o) + (V v - (T (o + 1) - T o)))
  have k2 := ab_add_le (V acc - T o) (V v - (T (o + 1) - T o))
  rw [<- e1] at k1
  have hT1 := hT (o + 1)
  obtain ⟨_, r⟩ := fadd_ok ha hv.fin (big126 (by grind))
  have nr := r.near5.2
  have hnew : ab (V (fop .add acc v) - T (o + 1)) <= e + (c o + ((ab (T (o + 1)) + 2 * κ) * (1 / 16777216) + 1 / 1000000000000000000000000000000)) := by
   have e2 : V (fop .add acc v) - T (o + 1) = (V (fop .add acc v) - (V acc + V v)) + ((V acc - T o) + (V v - (T (o + 1) - T o))) := by grind
   rw [e2]
   have k3 := ab_add_le (V (fop .add acc v) - (V acc + V v)) ((V acc - T o) + (V v - (T (o + 1) - T o)))
   generalize ab (V (fop .add acc v) - (V acc + V v)) = z1 at *
   generalize ab ((V acc - T o) + (V v - (T (o + 1) - T o))) = z2 at *
   generalize ab (V acc + V v) = z3 at *
   grind
  cases p with
  | zero =>
   refine ⟨r.fin, ?_⟩
   show ab (V (fop .add acc v) - T (o + 0 + 1)) <= _
   simp only [sumN, Nat.add_zero]
   grind
  | succ p =>
   have hsh : sumN (fun i => c (o + i) + ((ab (T (o + i + 1)) + 2 * κ) * (1 / 16777216) + 1 / 1000000000000000000000000000000)) (p + 1 + 1) =
     (c o + ((ab (T (o + 1)) + 2 * κ) * (1 / 16777216) + 1 / 1000000000000000000000000000000)) + sumN (fun i => c (o + 1 + i) + ((ab (T (o + 1 + i + 1)) + 2 * κ) * (1 / 16777216) + 1 / 1000000000000000000000000000000)) (p + 1) := by
    rw [show p + 1 + 1 = 1 + (p + 1) by omega, sumN_split]
    simp only [sumN, Nat.add_zero]
    have : ∀ i, o + (1 + i) = o + 1 + i := fun i => by omega
    simp only [this]
    grind
   rw [hsh] at hb ⊢
   have ih := acc_near hκ0 hκ1 T c hc0 t (fop .add acc v) (o + 1) p _ (fun a h => hl a (by simp [h])) r.fin (fun i hi => by
    have h1 := hcell (i + 1) (by simpa using hi)
    have h2 : fAt (v :: t) (i + 1) = fAt t i := by simp [fAt]
    rw [h2] at h1
    rw [show o + 1 + i = o + (i + 1) by omega]
    exact h1) hT hnew (by have := hpos 0; simp only [Nat.add_zero] at this; grind) (by simpa using hp) (by grind)
   rw [accTo]
   rw [show o + 1 + p + 1 = o + (p + 1) + 1 by omega] at ih
   refine ⟨ih.1, ?_⟩
   have := ih.2
   grind
section
variable {m1 m2 m3 m4 : Int} (h : Span m1 m2 m3 m4) {B : Rat} (hB0 : 120 <= B) (hB1 : B <= 1024)
 (hm1 : ab (m1 : Rat) <= 64 * (B - 1)) (hm3 : ab (m3 : Rat) <= 64 * (B - 1))
include h hm1 hm3
include hB0 hB1
end
theorem edgeF_flat (W : Nat) (H : Int) {a1 a2 b1 b2 : Int} (ha : Small (a1, a2)) (hb : Small (b1, b2)) (h : a2 = b2) : edgeF W H ((a1, a2), (b1, b2)) = [] := by
 subst h
 unfold edgeF
 have hA := (wq_ok (n := a1) (by have := ha.1; simp at this; omega) (by have := ha.1; simp at this; omega)).2
 have hB := (wq_ok (n := b1) (by have := hb.1; simp at this; omega) (by have := hb.1; simp at this; omega)).2
 have hC := (wq_ok (n := a2) (by have := ha.2; simp at this; omega) (by have := ha.2; simp at this; omega)).2
 have b1' := hA.bd (m := 262144) (by have := ha.1; simp at this; omega) (by have := ha.1; simp at this; omega)
 have b3' := hB.bd (m := 262144) (by have := hb.1; simp at this; omega) (by have := hb.1; simp at this; omega)
 push_cast at b1' b3'
 exact (floLine_flat W H hA.1 hC.1 hB.1 (by grind) (by grind)).1
end Go.Proofs.Ytmgcbodlolnheaa
