/- Any floating numbers: what a row of a line adds, but for little, up to each cell. A line between any floating numbers: where it is, row by row. A line between any floating numbers: what it adds. Lines behind each other that go along one straight line, but for little: what they add. A chain of lines along an edge: what it adds, against the edge's exact area. Square roots over the model's words, -/
import Derived.Test.YtmgcbodlolnheaaZ09
import Derived.Test.YtmgcbodlolnheaaZ07
namespace Go.Proofs.Ytmgcbodlolnheaa
open Flt Go.RowKit
set_option linter.unusedVariables false
theorem p2_m110 : p2 (-110) = 1 / 1298074214633706907132624082305024 := by have := p2_neg 110; push_cast at this ⊢; grind
theorem p2_123 : (10000000000000000000000000000000000000 : Rat) <= p2 123 := by
 have : p2 ((123 : Nat) : Int) = ((2 ^ 123 : Nat) : Rat) := p2_nat 123
 rw [show p2 123 = p2 ((123 : Nat) : Int) from rfl, this]
 have e : (2 ^ 123 : Nat) = 10633823966279326983230456482242756608 := by decide
 rw [e]
 decide +kernel
theorem big126G {x : Rat} (h : x <= 10000000000000000000000000000000000000) : x <= p2 126 := Rat.le_trans h (Rat.le_trans p2_123 (p2_mono (by decide)))
theorem big125G {x : Rat} (h : x <= 10000000000000000000000000000000000000) : x <= p2 125 := Rat.le_trans h (Rat.le_trans p2_123 (p2_mono (by decide)))
theorem p2_m150G : p2 (-150) <= 1 / 100000000000000000000000000000000000000000000 := by
 have h := p2_neg 150
 have e : ((2 ^ 150 : Nat) : Rat) = 1427247692705959881058285969449495136382746624 := by
  have : (2 ^ 150 : Nat) = 1427247692705959881058285969449495136382746624 := by decide
  rw [this]
  rfl
 have h2 : p2 (-150) * 1427247692705959881058285969449495136382746624 = 1 := by
  rw [<- e, <- p2_nat, <- p2_add]
  exact p2_zero
 have hp := p2_pos (-150)
 grind
theorem R32.nearG {x : Rat} {r : Nat} (h : R32 x r) : ab (V r) <= ab x * (100001 / 100000) + 1 / 100000000000000000000000000000000000000000000 /\ ab (V r - x) <= ab x * (1 / 16777216) + 1 / 100000000000000000000000000000000000000000000 := by
 obtain ⟨h1, h2⟩ := h.rel
 rw [p2_m24] at h1 h2
 have h3 := p2_m150G
 have ha := ab_nonneg x
 have hx1 := le_ab x
 have hx2 := neg_le_ab x
 constructor
 ·refine ab_le ?_ ?_ <;> grind
 ·refine ab_le ?_ ?_ <;> grind
structure XsG (x : Nat) : Prop where
 bd : Bd x 15
theorem XsG.rng {x : Nat} (h : XsG x) : -32768 <= V x /\ V x <= 32768 := by
 have h1 := h.bd.hi
 have h2 := h.bd.lo
 rw [p2_15] at h1 h2
 exact ⟨h2, h1⟩
theorem XsG.fl {x : Nat} (h : XsG x) : FlOk x /\ ffl x = (V x).floor /\ -32768 <= ffl x /\ ffl x <= 32768 := by
 obtain ⟨r1, r2⟩ := h.rng
 obtain ⟨f1, f2⟩ := floor_bd r1 r2
 obtain ⟨a, b⟩ := ffl_ok h.bd.fin (Rat.le_trans h.bd.ab (p2_mono (by decide))) (by omega) (by omega)
 exact ⟨a, b, by rw [b]; exact f1, by rw [b]; exact f2⟩
theorem XsG.ce {x : Nat} (h : XsG x) : CeOk x /\ fce x = ceilR (V x) /\ -32768 <= fce x /\ fce x <= 32768 := by
 obtain ⟨r1, r2⟩ := h.rng
 obtain ⟨f1, f2⟩ := ceil_bd r1 r2
 obtain ⟨a, b⟩ := fce_ok h.bd.fin (Rat.le_trans h.bd.ab (p2_mono (by decide))) (by omega) (by omega)
 exact ⟨a, b, by rw [b]; exact f1, by rw [b]; exact f2⟩
theorem XsG.frac {x : Nat} (h : XsG x) : Fok .sub x (floatOfInt .f32 (ffl x)) /\ Bd (fop .sub x (floatOfInt .f32 (ffl x))) 0 := by
 obtain ⟨_, e, b1, b2⟩ := h.fl
 obtain ⟨i1, i2⟩ := int15 b1 b2
 have hx : Flt.ab (V x - V (floatOfInt .f32 (ffl x))) <= p2 0 := by
  rw [i2, e, p2_zero]
  obtain ⟨f1, f2⟩ := floor_near (V x)
  exact ab_le (by grind) (by grind)
 obtain ⟨q1, q2⟩ := fsub_ok h.bd.fin i1.fin (Rat.le_trans hx (p2_mono (by decide)))
 exact ⟨q1, q2.bd hx (by decide)⟩
theorem XsG.top {x : Nat} (h : XsG x) : Fok .sub x (floatOfInt .f32 (fce x)) /\ Bd (fop .sub x (floatOfInt .f32 (fce x))) 0 := by
 obtain ⟨_, e, b1, b2⟩ := h.ce
 obtain ⟨i1, i2⟩ := int15 b1 b2
 have hx : Flt.ab (V x - V (floatOfInt .f32 (fce x))) <= p2 0 := by
  rw [i2, e, p2_zero]
  obtain ⟨f1, f2⟩ := ceil_near (V x)
  exact ab_le (by grind) (by grind)
 obtain ⟨q1, q2⟩ := fsub_ok h.bd.fin i1.fin (Rat.le_trans hx (p2_mono (by decide)))
 exact ⟨q1, q2.bd hx (by decide)⟩
theorem widthG {lo hi : Nat} (hl : XsG lo) (hh : XsG hi) (hw : p2 (-110) <= V hi - V lo) : Fok .sub hi lo /\ F32 (fop .sub hi lo) /\ p2 (-110) <= V (fop .sub hi lo) := by
 obtain ⟨q1, q2⟩ := Bd.sub hh.bd hl.bd
 have hx : Flt.ab (V hi - V lo) <= p2 126 := by
  have a := hh.rng; have b := hl.rng
  exact big126 (ab_le (by grind) (by grind))
 obtain ⟨_, r⟩ := fsub_ok hh.bd.fin hl.bd.fin hx
 have := r.ge (n := 1) (q := -110) (by rw [show ((1 : Int) : Rat) = 1 from rfl, Rat.one_mul]; exact hw) (by decide) (by decide) (by decide)
 rw [show ((1 : Int) : Rat) = 1 from rfl, Rat.one_mul] at this
 exact ⟨q1, q2.fin, this⟩
theorem half_nearG {m : Nat} (hm : F32 m) {r : Nat} (h : R32 (1 / 2 * V m) r) : ab (V r - 1 / 2 * V m) <= 1 / 10000000000000000000000000000000000000000 := by
 obtain ⟨n, q, e1', e2, e3, e4⟩ := val_rep hm
 have e1 : V m = n * p2 q := e1'
 rw [binade_single] at e2 e3
 rw [least_single] at e4
 by_cases hq : q = -149
 ·have hn : ab (n : Rat) <= ((16777216 : Nat) : Rat) := ab_int_le (by omega) (by omega)
  have hp := p2_pos (-149)
  have h149 : p2 (-149) <= 2 / 100000000000000000000000000000000000000000000 := by
   have h1 : p2 (-149) = 2 * p2 (-150) := by rw [<- p2_succ]; rfl
   have := p2_m150G
   grind
  have hV : ab (V m) <= 1 / 1000000000000000000000000000000000000 := by
   rw [e1, hq, ab_mul, ab_of_nonneg (x := p2 (-149)) (Rat.le_of_lt hp)]
   have k1 := Rat.mul_le_mul_of_nonneg_right hn (Rat.le_of_lt hp)
   push_cast at k1
   grind
  have k := h.nearG.2
  rw [ab_mul, ab_of_nonneg (x := (1 / 2 : Rat)) (by decide +kernel)] at k
  grind
 ·have e5 : 1 / 2 * V m = n * p2 (q - 1) := by
   rw [e1]
   have : p2 q = 2 * p2 (q - 1) := by rw [<- p2_succ]; congr 1; omega
   rw [this]
   grind
  rw [h.eq e5 (by omega) (by omega) (by omega)]
  have : 1 / 2 * V m - 1 / 2 * V m = 0 := by grind
  rw [this]
  decide +kernel
theorem below_one {a : Nat} (ha : F32 a) (h : V a < 1) : V a <= 1 - 1 / 16777216 := by
 obtain ⟨n, q, e1', e2, e3, e4⟩ := val_rep ha
 have e1 : V a = n * p2 q := e1'
 rw [binade_single] at e2 e3
 have hp := p2_pos q
 rcases Int.lt_or_le q (-24) with hq | hq
 ·have h1 := p2_mono (a := q) (b := -25) (by omega)
  have h25 : p2 (-25) = 1 / 33554432 := by have := p2_neg 25; push_cast at this ⊢; grind
  have hn : (n : Rat) <= ((16777216 : Int) : Rat) := castLe (by omega)
  have m1 := Rat.mul_le_mul_of_nonneg_right hn (Rat.le_of_lt hp)
  push_cast at m1
  rw [h25] at h1
  rw [e1]
  clear h e1 e1' e2 e3 e4 hn hq hp h25 ha
  generalize p2 q = z at *
  generalize (n : Rat) * z = y at *
  grind
 ·obtain ⟨k, hk⟩ : ∃ k : Int, V a = k * p2 (-24) := ⟨_, (Grid.up ⟨n, e1⟩ hq).choose_spec⟩
  have h24 : p2 (-24) = 1 / 16777216 := by have := p2_neg 24; push_cast at this ⊢; grind
  rw [h24] at hk
  rw [hk] at h ⊢
  have h1 : (k : Rat) < ((16777216 : Int) : Rat) := by push_cast; grind
  have h2 := castLe (show k <= 16777216 - 1 by have := Rat.intCast_lt_intCast.1 h1; omega)
  push_cast at h2
  grind
theorem one_less {f z : Nat} (hf : F32 f) (h1 : V f <= 1) (h : R32 (1 - V f) z) : ab (V z - (1 - V f)) <= (1 - V f) * (1 / 16777216 + 1 / 1000000000000000000000000000000) := by
 by_cases he : V f = 1
 ·rw [he] at h ⊢
  have hz : V z = 0 := by
   have := h.eq (n := 0) (q := 0) (by rw [p2_zero, cast_zero]; grind) (by decide) (by decide) (by decide)
   grind
  rw [hz]
  decide +kernel
 ·have hb := below_one hf (by grind)
  have k := h.nearG.2
  rw [ab_of_nonneg (x := 1 - V f) (by grind)] at k
  grind
theorem part_ratG {x f z g : Rat} (hg : g = 1 - x) (h0 : 0 <= x) (hg0 : 0 < g) (hf0 : 0 <= f) (e1 : ab (f - x) <= 1 - x) (e2 : ab (f - x) <= ab x * (1 / 16777216) + 1 / 100000000000000000000000000000000000000000000)
  (e3 : ab (z - (1 - f)) <= (1 - f) * (1 / 16777216 + 1 / 1000000000000000000000000000000)) (hf : f <= 1) : ab (z - g) <= 3 / 16777216 /\ ab (z - g) <= g * (1001 / 1000) := by
 rw [ab_of_nonneg h0] at e2
 obtain ⟨a1, a2⟩ := ab_iff.1 e1
 obtain ⟨b1, b2⟩ := ab_iff.1 e2
 obtain ⟨c1, c2⟩ := ab_iff.1 e3
 exact ⟨ab_le (by grind) (by grind), ab_le (by grind) (by grind)⟩
theorem low_partG {lo : Nat} (h : XsG lo) : Part (fop .sub 1065353216 (fop .sub lo (floatOfInt .f32 (ffl lo)))) ((ffl lo : Rat) + 1 - V lo) := by
 obtain ⟨_, e, b1, b2⟩ := h.fl
 obtain ⟨i1, i2⟩ := int15 b1 b2
 obtain ⟨f1, f2⟩ := floor_near (V lo)
 rw [<- e] at f1 f2
 obtain ⟨g, hg⟩ : ∃ g, g = (ffl lo : Rat) + 1 - V lo := ⟨_, rfl⟩
 have hx : V lo - V (floatOfInt .f32 (ffl lo)) = 1 - g := by rw [i2]; grind
 have hg0 : 0 < g := by grind
 have hg1 : g <= 1 := by grind
 obtain ⟨q1, q2⟩ := fsub_ok h.bd.fin i1.fin (by rw [hx]; exact big126G (ab_le (by grind) (by grind)))
 rw [hx] at q2
 have n1 := near_one q2 (by grind) (by grind)
 have n2 := q2.nearG.2
 have hf1 : V (fop .sub lo (floatOfInt .f32 (ffl lo))) <= 1 := by
  have := q2.leInt (n := 1) (by push_cast; grind) (by decide) (by decide)
  push_cast at this
  exact this
 have hf0 := q2.nonneg (by grind)
 obtain ⟨_, r2⟩ := fsub_ok fone.1.fin q2.fin (by rw [fone.2]; exact big126G (ab_le (by grind) (by grind)))
 rw [fone.2] at r2
 obtain ⟨p1, p2'⟩ := part_ratG (x := 1 - g) (g := g) (by grind) (by grind) hg0 hf0 n1 n2 (one_less q2.fin hf1 r2) hf1
 rw [<- hg]
 exact ⟨r2.fin, r2.nonneg (by grind), p1, p2', hg0, hg1⟩
theorem high_partG {hi : Nat} (h : XsG hi) : Part (fop .add (fop .sub hi (floatOfInt .f32 (fce hi))) 1065353216) (V hi - ((fce hi : Rat) - 1)) := by
 obtain ⟨_, e, b1, b2⟩ := h.ce
 obtain ⟨i1, i2⟩ := int15 b1 b2
 obtain ⟨f1, f2⟩ := ceil_near (V hi)
 rw [<- e] at f1 f2
 obtain ⟨g, hg⟩ : ∃ g, g = V hi - ((fce hi : Rat) - 1) := ⟨_, rfl⟩
 have hx : V hi - V (floatOfInt .f32 (fce hi)) = -(1 - g) := by rw [i2]; grind
 have hg0 : 0 < g := by grind
 have hg1 : g <= 1 := by grind
 obtain ⟨q1, q2⟩ := fsub_ok h.bd.fin i1.fin (by rw [hx]; exact big126G (ab_le (by grind) (by grind)))
 rw [hx] at q2
 have n1 := near_mone q2 (by grind) (by grind)
 have n2 := q2.nearG.2
 have hf1 : -1 <= V (fop .sub hi (floatOfInt .f32 (fce hi))) := by
  have := q2.geInt (n := -1) (by push_cast; grind) (by decide) (by decide)
  push_cast at this
  exact this
 have hf0 := q2.nonpos (by grind)
 obtain ⟨_, r2⟩ := fadd_ok q2.fin fone.1.fin (by rw [fone.2]; exact big126G (ab_le (by grind) (by grind)))
 rw [fone.2] at r2
 have r3 : ab (V (fop .add (fop .sub hi (floatOfInt .f32 (fce hi))) 1065353216) - (V (fop .sub hi (floatOfInt .f32 (fce hi))) + 1)) <= (V (fop .sub hi (floatOfInt .f32 (fce hi))) + 1) * (1 / 16777216 + 1 / 1000000000000000000000000000000) := by
  obtain ⟨u1, u2⟩ := fneg_ok q2.fin
  have e9 : V (fop .sub hi (floatOfInt .f32 (fce hi))) + 1 = 1 - V (fneg (fop .sub hi (floatOfInt .f32 (fce hi)))) := by rw [u2]; grind
  rw [e9] at r2 ⊢
  exact one_less u1 (by rw [u2]; grind) r2
 have r4 := r2.nonneg (by grind)
 have r5 := r2.fin
 generalize V (fop .sub hi (floatOfInt .f32 (fce hi))) = f at *
 generalize fop .add (fop .sub hi (floatOfInt .f32 (fce hi))) 1065353216 = G at *
 obtain ⟨p1, p2'⟩ := part_ratG (x := 1 - g) (f := -f) (z := V G) (g := g) (by grind) (by grind) hg0 (by grind)
  (by have e9 : -f - (1 - g) = -(f - -(1 - g)) := by grind
      rw [e9, ab_neg]; grind)
  (by have e9 : -f - (1 - g) = -(f - -(1 - g)) := by grind
      rw [e9, ab_neg]; rw [ab_neg] at n2; exact n2)
  (by have e9 : (1 : Rat) - -f = f + 1 := by grind
      rw [e9]; exact r3) (by grind)
 rw [<- hg]
 exact ⟨r5, r4, p1, p2', hg0, hg1⟩
theorem inv_ratG {w z s : Rat} (hw : 1 / 1298074214633706907132624082305024 <= w) (hw2 : w <= 100000) (hz0 : 1 / 1298074214633706907132624082305024 <= z) (hz : ab (z - w) <= w * (1 / 16777216) + 1 / 100000000000000000000000000000000000000000000) (hs0 : 0 <= s)
  (hs : ab (s - 1 / z) <= 1 / z * (1 / 16777216) + 1 / 100000000000000000000000000000000000000000000) : ab (s * w - 1) <= 3 / 16777216 := by
 have hz' : 0 < z := by grind
 obtain ⟨i, hi⟩ : ∃ i, i = 1 / z := ⟨_, rfl⟩
 have hiz : i * z = 1 := by rw [hi, Rat.div_mul_cancel (by grind)]
 rw [<- hi] at hs
 have hi0 : 0 < i := by
  rw [hi, Rat.div_def]
  exact Rat.mul_pos (by decide) (Rat.inv_pos.2 hz')
 have hib : i <= 1298074214633706907132624082305024 := by
  have := Rat.mul_le_mul_of_nonneg_left hz0 (Rat.le_of_lt hi0)
  grind
 obtain ⟨a1, a2⟩ := ab_iff.1 hs
 obtain ⟨b1, b2⟩ := ab_iff.1 hz
 have m1 := Rat.mul_le_mul_of_nonneg_right a1 (Rat.le_of_lt hz')
 have m2 := Rat.mul_le_mul_of_nonneg_right a2 (Rat.le_of_lt hz')
 have e1 : (s - i) * z = s * z - 1 := by grind
 have e2 : (i * (1 / 16777216) + 1 / 100000000000000000000000000000000000000000000) * z = 1 / 16777216 + z * (1 / 100000000000000000000000000000000000000000000) := by grind
 rw [e1] at m1 m2
 rw [e2] at m1
 have n1 := Rat.mul_le_mul_of_nonneg_left b1 hs0
 have n2 := Rat.mul_le_mul_of_nonneg_left b2 hs0
 have e3 : s * (z - w) = s * z - s * w := by grind
 have e4 : s * (w * (1 / 16777216) + 1 / 100000000000000000000000000000000000000000000) = s * w * (1 / 16777216) + s * (1 / 100000000000000000000000000000000000000000000) := by grind
 have e5 : s * -(w * (1 / 16777216) + 1 / 100000000000000000000000000000000000000000000) = -(s * w * (1 / 16777216) + s * (1 / 100000000000000000000000000000000000000000000)) := by grind
 rw [e3, e4] at n1
 rw [e3, e5] at n2
 have hsb : s <= 1500000000000000000000000000000000 := by grind
 have hzb : -(i * (1 / 16777216) + 1 / 100000000000000000000000000000000000000000000) * z = -(1 / 16777216 + z * (1 / 100000000000000000000000000000000000000000000)) := by grind
 rw [hzb] at m2
 have hzb2 : z <= 200000 := by grind
 generalize s * w = p at *
 generalize s * z = q at *
 clear b1 b2 hz a1 a2 hs hi hiz hz' hw hz0 hib e1 e2 e3 e4 e5 hi0
 exact ab_le (by grind) (by grind)
theorem inv_partG {lo hi : Nat} (hl : XsG lo) (hh : XsG hi) (hw : p2 (-110) <= V hi - V lo) :
  F32 (fop .quo 1065353216 (fop .sub hi lo)) /\ 0 <= V (fop .quo 1065353216 (fop .sub hi lo)) /\ V (fop .quo 1065353216 (fop .sub hi lo)) <= 1500000000000000000000000000000000 /\ ab (V (fop .quo 1065353216 (fop .sub hi lo)) * (V hi - V lo) - 1) <= 3 / 16777216 := by
 obtain ⟨_, w1, w2⟩ := widthG hl hh hw
 have r1 := hl.rng
 have r2 := hh.rng
 have hgt : 1 / 1298074214633706907132624082305024 <= V hi - V lo := by
  rw [<- p2_m110]
  exact hw
 obtain ⟨_, q⟩ := fsub_ok hh.bd.fin hl.bd.fin (big126G (ab_le (by grind) (by grind)))
 have n1 := q.nearG.2
 rw [ab_of_nonneg (x := V hi - V lo) (by grind)] at n1
 rw [p2_m110] at w2
 generalize fop .sub hi lo = z at *
 have hz : 0 < V z := by grind
 have h125 : (10000000000000000000000000000000000000 : Rat) <= p2 125 := big125G Rat.le_refl
 have hbig : ab (V 1065353216) <= p2 125 * ab (V z) := by
  rw [fone.2, ab_of_nonneg (Rat.le_of_lt hz), ab_of_nonneg (x := (1 : Rat)) (by decide)]
  have m1 := Rat.mul_le_mul_of_nonneg_right h125 (Rat.le_of_lt hz)
  have m2 := Rat.mul_le_mul_of_nonneg_left w2 (show (0 : Rat) <= 10000000000000000000000000000000000000 by decide)
  grind
 obtain ⟨_, r⟩ := fquo_ok fone.1.fin w1 (by grind) hbig
 rw [fone.2] at r
 have hi0 : 0 <= 1 / V z := by rw [Rat.div_def]; exact Rat.mul_nonneg (by decide) (Rat.le_of_lt (Rat.inv_pos.2 hz))
 have s0 := r.nonneg hi0
 have n2 := r.nearG.2
 rw [ab_of_nonneg hi0] at n2
 refine ⟨r.fin, s0, ?_, inv_ratG hgt (by grind) w2 n1 s0 n2⟩
 have hiz : 1 / V z * V z = 1 := Rat.div_mul_cancel (by grind)
 have := Rat.mul_le_mul_of_nonneg_left w2 hi0
 obtain ⟨a1, _⟩ := ab_iff.1 n2
 generalize 1 / V z = i at *
 grind
theorem half_partG {S : Nat} {w : Rat} (hS : F32 S) (h0 : 0 <= V S) (hb : V S <= 1500000000000000000000000000000000) (hw : 0 < w) (hw2 : w <= 100000) (h : ab (V S * w - 1) <= 3 / 16777216) :
  F32 (fop .mul 1056964608 S) /\ 0 <= V (fop .mul 1056964608 S) /\ ab (V (fop .mul 1056964608 S) * w - 1 / 2) <= 3 / 16777216 := by
 obtain ⟨_, r⟩ := fmul_ok fhalf.1.fin hS (big126G (by rw [fhalf.2]; exact ab_le (by grind) (by grind)))
 rw [fhalf.2] at r
 have n := r.near5.2
 rw [ab_of_nonneg (x := 1 / 2 * V S) (by grind)] at n
 refine ⟨r.fin, r.nonneg (by grind), ?_⟩
 obtain ⟨a1, a2⟩ := ab_iff.1 n
 obtain ⟨b1, b2⟩ := ab_iff.1 h
 generalize V (fop .mul 1056964608 S) = p at *
 have m1 := Rat.mul_le_mul_of_nonneg_right a1 (Rat.le_of_lt hw)
 have m2 := Rat.mul_le_mul_of_nonneg_right a2 (Rat.le_of_lt hw)
 have e1 : (p - 1 / 2 * V S) * w = p * w - 1 / 2 * (V S * w) := by grind
 have e2 : (1 / 2 * V S * (1 / 16777216) + 1 / 1000000000000000000000000000000) * w = 1 / 2 * (V S * w) * (1 / 16777216) + w * (1 / 1000000000000000000000000000000) := by grind
 have e3 : -(1 / 2 * V S * (1 / 16777216) + 1 / 1000000000000000000000000000000) * w = -(1 / 2 * (V S * w) * (1 / 16777216) + w * (1 / 1000000000000000000000000000000)) := by grind
 rw [e1, e2] at m1
 rw [e1, e3] at m2
 generalize V S * w = q at *
 generalize p * w = p' at *
 clear e1 e2 e3 n h r
 exact ab_le (by grind) (by grind)
theorem quad_partG {P0 G : Nat} {g w s : Rat} (hG : Part G g) (hP : F32 P0) (hP0 : 0 <= V P0) (hPb : V P0 <= 1500000000000000000000000000000000) (hw : 0 < w) (hs : s * w = 1) (h : ab (V P0 * w - 1 / 2) <= 3 / 16777216) (hgw : g <= w) :
  F32 (fop .mul (fop .mul P0 G) G) /\ 0 <= V (fop .mul (fop .mul P0 G) G) /\ ab (V (fop .mul (fop .mul P0 G) G) - g * g / 2 * s) <= 16 / 16777216 := by
 obtain ⟨f, l0, hn, hr, g0, g1⟩ := hG
 have hGb : V G <= 2 := by obtain ⟨a, _⟩ := ab_iff.1 hn; grind
 have hm0 := Rat.mul_nonneg hP0 l0
 have hmb : V P0 * V G <= 3000000000000000000000000000000000 := by
  have m1 := Rat.mul_le_mul_of_nonneg_left hGb hP0
  grind
 obtain ⟨_, r1⟩ := fmul_ok hP f (big126G (by rw [ab_of_nonneg hm0]; grind))
 have a0 := r1.nonneg hm0
 have n1 := r1.near5.2
 rw [ab_of_nonneg hm0] at n1
 have hAb : V (fop .mul P0 G) <= 3200000000000000000000000000000000 := by obtain ⟨a, _⟩ := ab_iff.1 n1; grind
 have hm1 := Rat.mul_nonneg a0 l0
 obtain ⟨_, r2⟩ := fmul_ok r1.fin f (big126G (by
  rw [ab_of_nonneg hm1]
  have m1 := Rat.mul_le_mul_of_nonneg_left hGb a0
  grind))
 have n2 := r2.near5.2
 rw [ab_of_nonneg hm1] at n2
 exact ⟨r2.fin, r2.nonneg hm1, quad_rat (R := 0) (ρ := 0) hs hw h hP0 l0 hn hr g0 g1 hgw n1 a0 n2⟩
theorem rowN_nearG {W base x xn d lo : Nat} {B : Rat} (hx : XsG x) (hn : XsG xn) (hd : Bd d 0) (hlo : lo = flo x xn) (hB0 : 120 <= B) (hB1 : B <= 1024) (hbx : ab (V x) <= B) (hbn : ab (V xn) <= B) (hc : fce (fhi x xn) <= ffl lo + 1) :
  RowNear (frowN W base x xn d lo) W base (V d) (V x) (V xn) B := by
 obtain ⟨hl, hh, hle, hsum, hmin, hmax⟩ : XsG lo /\ XsG (fhi x xn) /\ V lo <= V (fhi x xn) /\ V lo + V (fhi x xn) = V x + V xn /\ (V lo <= V x /\ V lo <= V xn) /\ (V x <= V (fhi x xn) /\ V xn <= V (fhi x xn)) := by
  rw [hlo]
  rcases flo_fhi hx.bd.fin hn.bd.fin with ⟨e1, e2, h⟩ | ⟨e1, e2, h⟩ <;> rw [e1, e2]
  ·exact ⟨hx, hn, h, rfl, ⟨Rat.le_refl, h⟩, h, Rat.le_refl⟩
  ·exact ⟨hn, hx, h, by grind, ⟨h, Rat.le_refl⟩, Rat.le_refl, h⟩
 obtain ⟨_, el, l1, l2⟩ := hl.fl
 obtain ⟨_, eh, h1, h2⟩ := hh.ce
 obtain ⟨i1, i2⟩ := int15 l1 l2
 obtain ⟨fl1, fl2⟩ := floor_near (V lo)
 obtain ⟨ce1, ce2⟩ := ceil_near (V (fhi x xn))
 rw [<- el] at fl1 fl2
 rw [<- eh] at ce1 ce2
 have hcr := castLe hc
 push_cast at hcr
 generalize V (fhi x xn) = hi at *
 obtain ⟨bx1, bx2⟩ := ab_iff.1 hbx
 obtain ⟨bn1, bn2⟩ := ab_iff.1 hbn
 obtain ⟨_, r1⟩ := fadd_ok hx.bd.fin hn.bd.fin (big126G (ab_le (by grind) (by grind)))
 have n1 := r1.near5.2
 have hs2 : ab (V x + V xn) <= 2 * B := ab_le (by grind) (by grind)
 have hm1 : ab (V (fop .add x xn)) <= 3000 := by
  have k := ab_add_le (V (fop .add x xn) - (V x + V xn)) (V x + V xn)
  have e : V (fop .add x xn) - (V x + V xn) + (V x + V xn) = V (fop .add x xn) := by grind
  rw [e] at k
  grind
 obtain ⟨_, r2⟩ := fmul_ok fhalf.1.fin r1.fin (big126G (by
  rw [fhalf.2]
  have : ab (1 / 2 * V (fop .add x xn)) <= 1 / 2 * 3000 := ab_mul_le (a := 1 / 2) (b := 3000) (by decide +kernel) hm1
  grind))
 rw [fhalf.2] at r2
 have n2 := half_nearG r1.fin r2
 obtain ⟨y, hy⟩ : ∃ y, y = (V x + V xn) / 2 - (ffl lo : Rat) := ⟨_, rfl⟩
 have hy0 : 0 <= y := by grind
 have hy1 : y <= 1 := by grind
 have hmid : ab (V (fop .mul 1056964608 (fop .add x xn)) - (V x + V xn) / 2) <= B * (1 / 16777216) + 1 / 1000000000000000000000000000000 := by
  have e : V (fop .mul 1056964608 (fop .add x xn)) - (V x + V xn) / 2 = (V (fop .mul 1056964608 (fop .add x xn)) - 1 / 2 * V (fop .add x xn)) + 1 / 2 * (V (fop .add x xn) - (V x + V xn)) := by grind
  rw [e]
  have k := ab_add_le (V (fop .mul 1056964608 (fop .add x xn)) - 1 / 2 * V (fop .add x xn)) (1 / 2 * (V (fop .add x xn) - (V x + V xn)))
  rw [ab_mul (1 / 2), ab_of_nonneg (x := (1 / 2 : Rat)) (by decide +kernel)] at k
  grind
 obtain ⟨f3, n3⟩ := subE (X := 1) (E := (B + 2) * (1 / 16777216)) r2.fin i1.fin hmid (y := (ffl lo : Rat)) (f := 0) (by rw [i2]; exact ab_le (by grind) (by grind)) (by rw [<- hy]; exact ab_le hy1 (by grind)) (by grind) (by grind)
 rw [<- hy] at n3
 obtain ⟨f4, n4⟩ := termE hd f3 n3 (ab_le (by grind) (by grind)) (by grind)
 have hD : ab (V d) <= 1 := by have := hd.ab; rwa [p2_zero] at this
 have hD0 := ab_nonneg (V d)
 unfold frowN
 generalize hq : fop .mul d (fop .sub (fop .mul 1056964608 (fop .add x xn)) (floatOfInt .f32 (ffl lo))) = q at *
 have hDy : ab (V d * y) <= ab (V d) * 1 := ab_mul_le Rat.le_refl (ab_le hy1 (by grind))
 have hD1y : ab (V d * (1 - y)) = ab (V d) * (1 - y) := by rw [ab_mul, ab_of_nonneg (x := 1 - y) (by grind)]
 have hDyy : ab (V d * y) = ab (V d) * y := by rw [ab_mul, ab_of_nonneg hy0]
 have eB : ab (V d) * ((B + 2) * (1 / 16777216) + 3 / 16777216) = ab (V d) * B / 16777216 + ab (V d) * (5 / 16777216) := by grind
 have eB2 : ab (V d) * ((B + 8) / 16777216) = ab (V d) * B / 16777216 + ab (V d) * (8 / 16777216) := by grind
 rw [eB] at n4
 have hDB : ab (V d) * B <= ab (V d) * 1024 := Rat.mul_le_mul_of_nonneg_left hB1 hD0
 have hDB0 : 0 <= ab (V d) * B := Rat.mul_nonneg hD0 (by grind)
 have hdq : ab (V d - V q) <= ab (V d) * (1001 / 1000) + 1 / 1000000000000000000000000000000 := by
  have e : V d - V q = V d * (1 - y) - (V q - V d * y) := by grind
  rw [e]
  have k := ab_sub_le (V d * (1 - y)) (V q - V d * y)
  rw [hD1y] at k
  have hDy2 : ab (V d) * (1 - y) <= ab (V d) * 1 := Rat.mul_le_mul_of_nonneg_left (by grind) hD0
  generalize ab (V d) * B = DB at *
  grind
 obtain ⟨_, r5⟩ := fsub_ok hd.fin f4 (big126G (by grind))
 have n5 := r5.near5.2
 generalize hv : fop .sub d q = v at *
 have n6 : ab (V v - (V d - V q)) <= ab (V d) * (2 / 16777216) + 1 / 500000000000000000000000000000 := by grind
 have hval : valL [(base + clampN (ffl lo) W, v), (base + clampN (ffl lo + 1) W, q)] = [(base + clampN (ffl lo) W, V v), (base + clampN (ffl lo + 1) W, V q)] := rfl
 have htot : ab (V v + V q - V d) <= ab (V d) * (2 / 16777216) + 1 / 500000000000000000000000000000 := by
  have e : V v + V q - V d = V v - (V d - V q) := by grind
  rw [e]; exact n6
 refine ⟨fun X hX => ?_, ?_, ?_, ?_, ?_⟩
 ·rw [hval, sumR_place hX, sumR_place hX, eB2]
  simp only [sumR]
  rcases Int.lt_trichotomy (X : Int) (ffl lo) with h | h | h
  ·have h3 := castLe (show (X : Int) + 1 <= ffl lo by omega)
   push_cast at h3
   rw [if_neg (by omega), if_neg (by omega), mean_zero (by grind) (by grind)]
   have e : (0 : Rat) + (0 + 0) - V d * 0 = 0 := by grind
   rw [e, ab_of_nonneg Rat.le_refl]
   generalize ab (V d) * B = DB at *
   grind
  ·have h3 : (X : Rat) = (ffl lo : Rat) := by rw [<- h]; push_cast; rfl
   rw [if_pos (by omega), if_neg (by omega), mean_mid (by grind) (by grind) (by grind) (by grind)]
   have e : V v + (0 + 0) - V d * (((X : Rat) + 1 - V x + ((X : Rat) + 1 - V xn)) / 2) = (V v - (V d - V q)) - (V q - V d * y) := by rw [h3, hy]; grind
   rw [e]
   have k := ab_sub_le (V v - (V d - V q)) (V q - V d * y)
   generalize ab (V v - (V d - V q)) = k1 at *
   generalize ab (V q - V d * y) = k2 at *
   generalize ab (V d) * B = DB at *
   grind
  ·have h3 := castLe (show ffl lo + 1 <= (X : Int) by omega)
   push_cast at h3
   rw [if_pos (by omega), if_pos (by omega), mean_one (by grind) (by grind)]
   have e : V v + (V q + 0) - V d * 1 = V v + V q - V d := by grind
   rw [e]
   generalize ab (V d) * B = DB at *
   grind
 ·rw [hval]
  simp only [totR]
  have e : V v + (V q + 0) - V d = V v + V q - V d := by grind
  rw [e]
  grind
 ·rw [hval]
  simp only [absR]
  have k1 : ab (V v) <= ab (V d) * (1 - y) + (ab (V d) * B / 16777216 + ab (V d) * (7 / 16777216)) + 1 / 200000000000000000000000000000 := by
   have e : V v = V d * (1 - y) + ((V v - (V d - V q)) - (V q - V d * y)) := by grind
   have k := ab_add_le (V d * (1 - y)) ((V v - (V d - V q)) - (V q - V d * y))
   rw [<- e, hD1y] at k
   have k2 := ab_sub_le (V v - (V d - V q)) (V q - V d * y)
   generalize ab (V v - (V d - V q)) = k1 at *
   generalize ab (V q - V d * y) = k2 at *
   generalize ab (V d) * (1 - y) = Dy1 at *
   generalize ab (V d) * B = DB at *
   grind
  have k2 : ab (V q) <= ab (V d) * y + (ab (V d) * B / 16777216 + ab (V d) * (5 / 16777216)) + 1 / 1000000000000000000000000000000 := by
   have e : V q = V d * y + (V q - V d * y) := by grind
   have k := ab_add_le (V d * y) (V q - V d * y)
   rw [<- e, hDyy] at k
   grind
  have e3 : ab (V d) * (1 - y) = ab (V d) - ab (V d) * y := by grind
  rw [e3] at k1
  generalize ab (V d) * y = Dy at *
  generalize ab (V d) * B = DB at *
  grind
 ·have := ab_nonneg (V xn - V x)
  simp only [List.length_cons, List.length_nil]
  push_cast
  grind
 ·intro p hp
  simp only [List.mem_cons, List.not_mem_nil, or_false] at hp
  rcases hp with rfl | rfl <;> exact clamp_place _ _ _
set_option maxHeartbeats 1000000 in
theorem rowT_nearG {W base d lo hi : Nat} {B : Rat} (hl : XsG lo) (hh : XsG hi) (hd : Bd d 0) (hB0 : 120 <= B) (hlt : V lo < V hi) (hw110 : p2 (-110) <= V hi - V lo) (hc : fce hi = ffl lo + 2) :
  RowNear (frowT W base d lo hi) W base (V d) (V lo) (V hi) B := by
 obtain ⟨_, el, l1, l2⟩ := hl.fl
 obtain ⟨_, eh, h1, h2⟩ := hh.ce
 obtain ⟨fl1, fl2⟩ := floor_near (V lo)
 obtain ⟨ce1, ce2⟩ := ceil_near (V hi)
 rw [<- el] at fl1 fl2
 rw [<- eh] at ce1 ce2
 have G := low_partG hl
 have H := high_partG hh
 obtain ⟨s1, s2, s3, s4⟩ := inv_partG hl hh hw110
 have hcr : (fce hi : Rat) = (ffl lo : Rat) + 2 := by rw [hc]; push_cast; rfl
 obtain ⟨g, hg⟩ : ∃ g, g = (ffl lo : Rat) + 1 - V lo := ⟨_, rfl⟩
 obtain ⟨h, hhh⟩ : ∃ h, h = V hi - ((fce hi : Rat) - 1) := ⟨_, rfl⟩
 obtain ⟨w, hw⟩ : ∃ w, w = V hi - V lo := ⟨_, rfl⟩
 rw [<- hg] at G
 rw [<- hhh] at H
 rw [<- hw] at s4
 have hw0 : 0 < w := by grind
 have hwgh : w = g + h := by grind
 have hwb : w <= 100000 := by have := G.g1; have := H.g1; grind
 obtain ⟨s, hs, hs0⟩ := inv_of hw0
 obtain ⟨p1, p2', p3⟩ := half_partG s1 s2 s3 hw0 hwb s4
 have p4 : V (fop .mul 1056964608 (fop .quo 1065353216 (fop .sub hi lo))) <= 1500000000000000000000000000000000 := by
  obtain ⟨_, r⟩ := fmul_ok fhalf.1.fin s1 (big126G (by rw [fhalf.2]; exact ab_le (by grind) (by grind)))
  rw [fhalf.2] at r
  have n := r.near5.2
  rw [ab_of_nonneg (x := 1 / 2 * V (fop .quo 1065353216 (fop .sub hi lo))) (by grind)] at n
  obtain ⟨a, _⟩ := ab_iff.1 n
  grind
 obtain ⟨a1, a2, a3⟩ := quad_partG (w := w) (s := s) G p1 p2' p4 hw0 hs p3 (by have := H.g0; grind)
 obtain ⟨b1, b2, b3⟩ := quad_partG (w := w) (s := s) H p1 p2' p4 hw0 hs p3 (by have := G.g0; grind)
 obtain ⟨t1, t2, t3, t4, t5⟩ := tri_rat (Rat.le_of_lt G.g0) G.g1 (Rat.le_of_lt H.g0) H.g1 hs hs0 (by rw [hwgh]; exact Rat.le_refl)
 have hg0 := G.g0
 have hg1 := G.g1
 have hh0 := H.g0
 have hh1 := H.g1
 unfold frowT
 generalize fop .mul (fop .mul (fop .mul 1056964608 (fop .quo 1065353216 (fop .sub hi lo))) (fop .sub 1065353216 (fop .sub lo (floatOfInt .f32 (ffl lo))))) (fop .sub 1065353216 (fop .sub lo (floatOfInt .f32 (ffl lo)))) = A at *
 generalize fop .mul (fop .mul (fop .mul 1056964608 (fop .quo 1065353216 (fop .sub hi lo))) (fop .add (fop .sub hi (floatOfInt .f32 (fce hi))) 1065353216)) (fop .add (fop .sub hi (floatOfInt .f32 (fce hi))) 1065353216) = M at *
 have hAM : s * (g + 1 / 2 - (1 - h) * (1 - h) / 2) = 1 - h * h / 2 * s := by
  have : s * (g + h) = 1 := by rw [<- hwgh]; exact hs
  grind
 have hA0 : s * (g * g / 2) = g * g / 2 * s := by grind
 generalize g * g / 2 * s = A0 at *
 generalize h * h / 2 * s = AM at *
 have hone : ab (V 1065353216 - 1) <= 0 := by rw [fone.2]; decide +kernel
 obtain ⟨f1, n1⟩ := subE (X := 1) (E := 18 / 16777216) fone.1.fin a1 hone a3 (ab_le (by grind) (by grind)) (by grind) (by grind)
 obtain ⟨f2, n2⟩ := subE (X := 1) (E := 36 / 16777216) f1 b1 n1 b3 (ab_le (by grind) (by grind)) (by grind) (by grind)
 have habA : ab (V A) <= 2 := by obtain ⟨x, y⟩ := ab_iff.1 a3; exact ab_le (by grind) (by grind)
 have habM : ab (V M) <= 2 := by obtain ⟨x, y⟩ := ab_iff.1 b3; exact ab_le (by grind) (by grind)
 have zz : ∀ z : Nat, ab (V z - V z) <= 0 := fun z => by have : V z - V z = 0 := by grind
                                                         rw [this]; decide +kernel
 obtain ⟨_, m1⟩ := subE (X := 11 / 10) (E := 2 / 16777216) fone.1.fin a1 hone (zz A) (by obtain ⟨x, y⟩ := ab_iff.1 a3; exact ab_le (by grind) (by grind)) (by grind) (by grind)
 obtain ⟨_, m2⟩ := subE (X := 11 / 10) (E := 2 / 16777216) f1 b1 (zz _) (zz M) (by obtain ⟨x, y⟩ := ab_iff.1 n1; obtain ⟨x2, y2⟩ := ab_iff.1 b3; exact ab_le (by grind) (by grind)) (by grind) (by grind)
 generalize hT1 : fop .sub 1065353216 A = T1 at *
 generalize hT2 : fop .sub T1 M = T2 at *
 obtain ⟨q0, v0⟩ := termE hd a1 a3 (ab_le (by grind) (by grind)) (by grind)
 obtain ⟨q1, v1⟩ := termE hd f2 n2 (ab_le (by grind) (by grind)) (by grind)
 obtain ⟨q2, v2⟩ := termE hd b1 b3 (ab_le (by grind) (by grind)) (by grind)
 have u0 := termX hd a1 habA
 have u1 := termX hd f2 (by obtain ⟨x, y⟩ := ab_iff.1 n2; exact ab_le (by grind) (by grind))
 have u2 := termX hd b1 habM
 generalize fop .mul d A = x0 at *
 generalize fop .mul d T2 = x1 at *
 generalize fop .mul d M = x2 at *
 have hD0 := ab_nonneg (V d)
 have hval : valL [(base + clampN (ffl lo) W, x0), (base + clampN (ffl lo + 1) W, x1), (base + clampN (fce hi) W, x2)] = [(base + clampN (ffl lo) W, V x0), (base + clampN (ffl lo + 1) W, V x1), (base + clampN (fce hi) W, V x2)] := rfl
 have hDB : ab (V d) * 128 <= ab (V d) * (B + 8) := Rat.mul_le_mul_of_nonneg_left (by grind) hD0
 have eB2 : ab (V d) * ((B + 8) / 16777216) = ab (V d) * (B + 8) / 16777216 := by grind
 have htot : ab (V x0 + V x1 + V x2 - V d) <= ab (V d) * (24 / 16777216) + 1 / 200000000000000000000000000000 := by
  have k1 : ab (V d * (V T2 - (V T1 - V M))) <= ab (V d) * (2 / 16777216) := ab_mul_le Rat.le_refl m2
  have k2 : ab (V d * (V T1 - (1 - V A))) <= ab (V d) * (2 / 16777216) := ab_mul_le Rat.le_refl m1
  have e : V x0 + V x1 + V x2 - V d = (V x0 - V d * V A) + ((V x1 - V d * V T2) + ((V x2 - V d * V M) + (V d * (V T2 - (V T1 - V M)) + V d * (V T1 - (1 - V A))))) := by grind
  rw [e]
  have j1 := ab_add_le (V x0 - V d * V A) ((V x1 - V d * V T2) + ((V x2 - V d * V M) + (V d * (V T2 - (V T1 - V M)) + V d * (V T1 - (1 - V A)))))
  have j2 := ab_add_le (V x1 - V d * V T2) ((V x2 - V d * V M) + (V d * (V T2 - (V T1 - V M)) + V d * (V T1 - (1 - V A))))
  have j3 := ab_add_le (V x2 - V d * V M) (V d * (V T2 - (V T1 - V M)) + V d * (V T1 - (1 - V A)))
  have j4 := ab_add_le (V d * (V T2 - (V T1 - V M))) (V d * (V T1 - (1 - V A)))
  grind
 refine ⟨fun X hX => ?_, ?_, ?_, ?_, ?_⟩
 ·rw [hval, sumR_place hX, sumR_place hX, sumR_place hX, eB2]
  simp only [sumR]
  have hms := mean_s (z := (X : Rat) + 1) hs hw
  rcases Int.lt_or_le (X : Int) (ffl lo) with c | c
  ·have h3 := castLe (show (X : Int) + 1 <= ffl lo by omega)
   push_cast at h3
   rw [if_neg (by omega), if_neg (by omega), if_neg (by omega), mean_zero (by grind) (by grind)]
   have e : (0 : Rat) + (0 + (0 + 0)) - V d * 0 = 0 := by grind
   rw [e, ab_of_nonneg Rat.le_refl]
   grind
  ·rcases Int.lt_or_le (X : Int) (ffl lo + 1) with c2 | c2
   ·have h3 : (X : Rat) = (ffl lo : Rat) := by
     have : (X : Int) = ffl lo := by omega
     rw [<- this]; push_cast; rfl
    rw [if_pos (by omega), if_neg (by omega), if_neg (by omega), hms, kk_mid (z := (X : Rat) + 1 - V lo) (by grind) (by grind), kk_low (z := (X : Rat) + 1 - V hi) (by grind)]
    have e0 : (X : Rat) + 1 - V lo = g := by grind
    rw [e0]
    have e : V x0 + (0 + (0 + 0)) - V d * (s * (g * g / 2 - 0)) = V x0 - V d * A0 := by rw [<- hA0]; grind
    rw [e]
    grind
   ·rcases Int.lt_or_le (X : Int) (ffl lo + 2) with c3 | c3
    ·have h3 : (X : Rat) = (ffl lo : Rat) + 1 := by
      have : (X : Int) = ffl lo + 1 := by omega
      have := congrArg (fun z : Int => (z : Rat)) this
      push_cast at this
      exact this
     have e0 : (X : Rat) + 1 - V lo = g + 1 := by grind
     have e1 : (X : Rat) + 1 - V hi = 1 - h := by grind
     rw [if_pos (by omega), if_pos (by omega), if_neg (by omega), hms, kk_high (z := (X : Rat) + 1 - V lo) (by grind), kk_mid (z := (X : Rat) + 1 - V hi) (by grind) (by grind), e0, e1]
     have e2 : g + 1 - 1 / 2 - (1 - h) * (1 - h) / 2 = g + 1 / 2 - (1 - h) * (1 - h) / 2 := by grind
     rw [e2, hAM]
     have e : V x0 + (V x1 + (0 + 0)) - V d * (1 - AM) = (V x0 - V d * A0) + (V x1 - V d * (1 - A0 - AM)) := by grind
     rw [e]
     have k := ab_add_le (V x0 - V d * A0) (V x1 - V d * (1 - A0 - AM))
     grind
    ·have h3 := castLe (show ffl lo + 2 <= (X : Int) by omega)
     push_cast at h3
     rw [if_pos (by omega), if_pos (by omega), if_pos (by omega), mean_one (by grind) (by grind)]
     have e : V x0 + (V x1 + (V x2 + 0)) - V d * 1 = V x0 + V x1 + V x2 - V d := by grind
     rw [e]
     grind
 ·rw [hval]
  simp only [totR]
  have e : V x0 + (V x1 + (V x2 + 0)) - V d = V x0 + V x1 + V x2 - V d := by grind
  rw [e]
  grind
 ·rw [hval]
  simp only [absR]
  have k0 := abs_term v0 t1
  have k1 := abs_term v1 (by grind)
  have k2 := abs_term v2 t2
  have e : ab (V d) * (1 - A0 - AM) = ab (V d) - ab (V d) * A0 - ab (V d) * AM := by grind
  rw [e] at k1
  generalize ab (V d) * A0 = z0 at *
  generalize ab (V d) * AM = z1 at *
  grind
 ·have := ab_nonneg (V hi - V lo)
  simp only [List.length_cons, List.length_nil]
  push_cast
  grind
 ·intro p hp
  simp only [List.mem_cons, List.not_mem_nil, or_false] at hp
  rcases hp with rfl | rfl | rfl <;> exact clamp_place _ _ _
theorem frac_nearG {lo : Nat} (h : XsG lo) : F32 (fop .sub lo (floatOfInt .f32 (ffl lo))) /\ ab (V (fop .sub lo (floatOfInt .f32 (ffl lo))) - (V lo - (ffl lo : Rat))) <= 2 / 16777216 := by
 obtain ⟨_, e, b1, b2⟩ := h.fl
 obtain ⟨i1, i2⟩ := int15 b1 b2
 obtain ⟨f1, f2⟩ := floor_near (V lo)
 rw [<- e] at f1 f2
 have zz : ab (V lo - V lo) <= 0 := by have : V lo - V lo = 0 := by grind
                                       rw [this]; decide +kernel
 have z2 : ab (V (floatOfInt .f32 (ffl lo)) - (ffl lo : Rat)) <= 0 := by
  rw [i2]
  have : (ffl lo : Rat) - (ffl lo : Rat) = 0 := by grind
  rw [this]; decide +kernel
 exact subE (X := 1) (E := 2 / 16777216) h.bd.fin i1.fin zz z2 (ab_le (by grind) (by grind)) (by grind) (by grind)
set_option maxHeartbeats 2000000 in
theorem rowM_nearG {W base d lo hi N : Nat} {B : Rat} (hl : XsG lo) (hh : XsG hi) (hd : Bd d 0) (hB0 : 120 <= B) (hB1 : B <= 1024) (hbl : ab (V lo) <= B) (hbh : ab (V hi) <= B) (hlt : V lo < V hi) (hw110 : p2 (-110) <= V hi - V lo) (hN : fce hi = ffl lo + 3 + (N : Int)) :
  RowNear (frowM W base d lo hi N) W base (V d) (V lo) (V hi) B := by
 obtain ⟨_, el, l1, l2⟩ := hl.fl
 obtain ⟨_, eh, h1, h2⟩ := hh.ce
 obtain ⟨fl1, fl2⟩ := floor_near (V lo)
 obtain ⟨ce1, ce2⟩ := ceil_near (V hi)
 rw [<- el] at fl1 fl2
 rw [<- eh] at ce1 ce2
 have G := low_partG hl
 have H := high_partG hh
 obtain ⟨fr1, fr2⟩ := frac_nearG hl
 obtain ⟨s1, s2, s3, s4⟩ := inv_partG hl hh hw110
 have hcr : (fce hi : Rat) = (ffl lo : Rat) + 3 + (N : Rat) := by rw [hN]; push_cast; rfl
 obtain ⟨g, hg⟩ : ∃ g, g = (ffl lo : Rat) + 1 - V lo := ⟨_, rfl⟩
 obtain ⟨h, hhh⟩ : ∃ h, h = V hi - ((fce hi : Rat) - 1) := ⟨_, rfl⟩
 obtain ⟨w, hw⟩ : ∃ w, w = V hi - V lo := ⟨_, rfl⟩
 rw [<- hg] at G
 rw [<- hhh] at H
 rw [<- hw] at s4
 have hg0 := G.g0
 have hg1 := G.g1
 have hh0 := H.g0
 have hh1 := H.g1
 have hNn : (0 : Rat) <= (N : Rat) := by exact_mod_cast Nat.zero_le N
 have hwgh : w = g + h + (N + 1) := by grind
 have hw0 : 0 < w := by grind
 have hw2 : w <= 2048 := by
  obtain ⟨x, y⟩ := ab_iff.1 hbl
  obtain ⟨x2, y2⟩ := ab_iff.1 hbh
  grind
 have hwb : w <= 100000 := by grind
 have hN2 : (N : Rat) <= 2048 := by grind
 obtain ⟨s, hs, hs0⟩ := inv_of hw0
 obtain ⟨p1, p2', p3⟩ := half_partG s1 s2 s3 hw0 hwb s4
 have p4 : V (fop .mul 1056964608 (fop .quo 1065353216 (fop .sub hi lo))) <= 1500000000000000000000000000000000 := by
  obtain ⟨_, r⟩ := fmul_ok fhalf.1.fin s1 (big126G (by rw [fhalf.2]; exact ab_le (by grind) (by grind)))
  rw [fhalf.2] at r
  have n := r.near5.2
  rw [ab_of_nonneg (x := 1 / 2 * V (fop .quo 1065353216 (fop .sub hi lo))) (by grind)] at n
  obtain ⟨a, _⟩ := ab_iff.1 n
  grind
 obtain ⟨a1, a2, a3⟩ := quad_partG (w := w) (s := s) G p1 p2' p4 hw0 hs p3 (by grind)
 obtain ⟨b1, b2, b3⟩ := quad_partG (w := w) (s := s) H p1 p2' p4 hw0 hs p3 (by grind)
 obtain ⟨t1, t2, t3, t4, t5⟩ := tri_rat (Rat.le_of_lt hg0) hg1 (Rat.le_of_lt hh0) hh1 hs hs0 (by grind)
 have hsN0 : 0 <= s * N := Rat.mul_nonneg (Rat.le_of_lt hs0) hNn
 have hsum : g * s + h * s + s * N + s = 1 := by
  have : s * (g + h + (N + 1)) = 1 := by rw [<- hwgh]; exact hs
  grind
 have hgs0 : 0 <= g * s := Rat.mul_nonneg (Rat.le_of_lt hg0) (Rat.le_of_lt hs0)
 have hhs0 : 0 <= h * s := Rat.mul_nonneg (Rat.le_of_lt hh0) (Rat.le_of_lt hs0)
 have hAle : g * g / 2 * s <= g * s := by
  have m1 := Rat.mul_le_mul_of_nonneg_left hg1 hgs0
  have e : g * g / 2 * s = 1 / 2 * (g * s * g) := by grind
  have m2 := Rat.mul_nonneg hgs0 (Rat.le_of_lt hg0)
  rw [e]
  grind
 have hMle : h * h / 2 * s <= h * s := by
  have m1 := Rat.mul_le_mul_of_nonneg_left hh1 hhs0
  have e : h * h / 2 * s = 1 / 2 * (h * s * h) := by grind
  have m2 := Rat.mul_nonneg hhs0 (Rat.le_of_lt hh0)
  rw [e]
  grind
 have hS : ab (V (fop .quo 1065353216 (fop .sub hi lo)) - s) <= s * (3 / 16777216) := by
  have e : V (fop .quo 1065353216 (fop .sub hi lo)) - s = (V (fop .quo 1065353216 (fop .sub hi lo)) * w - 1) * s := by
   have : (V (fop .quo 1065353216 (fop .sub hi lo)) * w - 1) * s = V (fop .quo 1065353216 (fop .sub hi lo)) * (s * w) - s := by grind
   rw [this, hs]
   grind
  rw [e, ab_mul, ab_of_nonneg (Rat.le_of_lt hs0)]
  have := Rat.mul_le_mul_of_nonneg_right s4 (Rat.le_of_lt hs0)
  grind
 have hs1 : s <= 1 := by grind
 have hS3 : ab (V (fop .quo 1065353216 (fop .sub hi lo)) - s) <= 3 / 16777216 := by grind
 obtain ⟨k1, k2⟩ := ofInt_bd (n := fce hi - ffl lo - 3) (k := 17) (by decide) (by omega) (by omega)
 have k3 : V (floatOfInt .f32 (fce hi - ffl lo - 3)) = N := by
  rw [k2]
  have : fce hi - ffl lo - 3 = (N : Int) := by omega
  rw [this]
  push_cast
  rfl
 unfold frowM
 generalize fop .mul (fop .mul (fop .mul 1056964608 (fop .quo 1065353216 (fop .sub hi lo))) (fop .sub 1065353216 (fop .sub lo (floatOfInt .f32 (ffl lo))))) (fop .sub 1065353216 (fop .sub lo (floatOfInt .f32 (ffl lo)))) = A at *
 generalize fop .mul (fop .mul (fop .mul 1056964608 (fop .quo 1065353216 (fop .sub hi lo))) (fop .add (fop .sub hi (floatOfInt .f32 (fce hi))) 1065353216)) (fop .add (fop .sub hi (floatOfInt .f32 (fce hi))) 1065353216) = M at *
 generalize fop .quo 1065353216 (fop .sub hi lo) = S at *
 generalize fop .sub lo (floatOfInt .f32 (ffl lo)) = F at *
 generalize floatOfInt .f32 (fce hi - ffl lo - 3) = K at *
 have hAM : s * (g + N + 3 / 2 - (1 - h) * (1 - h) / 2) = 1 - h * h / 2 * s := by grind
 have hA0 : s * (g * g / 2) = g * g / 2 * s := by grind
 have hone : ab (V 1065353216 - 1) <= 0 := by rw [fone.2]; decide +kernel
 have h15 : ab (V 1069547520 - 3 / 2) <= 0 := by
  rw [f15.2]
  have : (3 : Rat) / 2 - 3 / 2 = 0 := by grind
  rw [this]; decide +kernel
 have zz : ∀ z : Nat, ab (V z - V z) <= 0 := fun z => by have : V z - V z = 0 := by grind
                                                         rw [this]; decide +kernel
 obtain ⟨c1, c2⟩ := subE (X := 3 / 2) (E := 4 / 16777216) f15.1.fin fr1 h15 fr2 (ab_le (by grind) (by grind)) (by grind) (by grind)
 have e15 : (3 : Rat) / 2 - (V lo - (ffl lo : Rat)) = g + 1 / 2 := by grind
 rw [e15] at c2
 generalize fop .sub 1069547520 F = L at *
 obtain ⟨d1, d2⟩ := mulE (X := 1) (Y := 3 / 2) (e := 3 / 16777216) (f := 4 / 16777216) (E := 11 / 16777216) s1 c1 hS3 c2 (ab_le hs1 (by grind)) (ab_le (by grind) (by grind)) (by decide +kernel) (by decide +kernel) (by decide +kernel) (by decide +kernel)
 have ea1 : s * (g + 1 / 2) = g * s + s / 2 := by grind
 rw [ea1] at d2
 generalize fop .mul S L = C at *
 generalize hgA : g * g / 2 * s = A0 at *
 generalize hgM : h * h / 2 * s = AM at *
 generalize hgs : g * s = gs at *
 generalize hhs : h * s = hs' at *
 generalize hsN : s * (N : Rat) = sN at *
 obtain ⟨g1', g2'⟩ := subE (X := 3 / 2) (E := 29 / 16777216) d1 a1 d2 a3 (ab_le (by grind) (by grind)) (by grind) (by grind)
 obtain ⟨_, g3'⟩ := subE (X := 8 / 5) (E := 2 / 16777216) d1 a1 (zz C) (zz A) (by obtain ⟨x, y⟩ := ab_iff.1 a3; obtain ⟨x2, y2⟩ := ab_iff.1 d2; exact ab_le (by grind) (by grind)) (by grind) (by grind)
 generalize fop .sub C A = CA at *
 have hSN : ab (V S * N) <= 11 / 10 := by
  have e : V S * N = (V S - s) * N + sN := by rw [<- hsN]; grind
  have j1 : ab ((V S - s) * N) <= s * (3 / 16777216) * N := ab_mul_le hS (by rw [ab_of_nonneg hNn]; exact Rat.le_refl)
  have j2 : s * (3 / 16777216) * N = sN * (3 / 16777216) := by rw [<- hsN]; grind
  have j3 := ab_add_le ((V S - s) * N) sN
  rw [ab_of_nonneg hsN0] at j3
  rw [e]
  grind
 obtain ⟨_, rN⟩ := fmul_ok s1 k1.fin (big126G (by rw [k3]; grind))
 rw [k3] at rN
 have nN := rN.near5.2
 have hSNd : ab (V S * N - sN) <= 3 / 16777216 := by
  have e : V S * N - sN = (V S - s) * N := by rw [<- hsN]; grind
  have j1 : ab ((V S - s) * N) <= s * (3 / 16777216) * N := ab_mul_le hS (by rw [ab_of_nonneg hNn]; exact Rat.le_refl)
  have j2 : s * (3 / 16777216) * N = sN * (3 / 16777216) := by rw [<- hsN]; grind
  rw [e]
  grind
 have fN := rN.fin
 generalize fop .mul S K = Z at *
 have nN2 : ab (V Z - V S * N) <= 2 / 16777216 := by grind
 have nN1 : ab (V Z - sN) <= 5 / 16777216 := by
  have e : V Z - sN = (V Z - V S * N) + (V S * N - sN) := by grind
  have j := ab_add_le (V Z - V S * N) (V S * N - sN)
  rw [<- e] at j
  grind
 obtain ⟨i1, i2⟩ := addE (X := 1) (E := 18 / 16777216) d1 fN d2 nN1 (ab_le (by grind) (by grind)) (by grind) (by grind)
 obtain ⟨_, i3⟩ := addE (X := 11 / 10) (E := 2 / 16777216) d1 fN (zz C) (zz Z) (by obtain ⟨x, y⟩ := ab_iff.1 nN1; obtain ⟨x2, y2⟩ := ab_iff.1 d2; exact ab_le (by grind) (by grind)) (by grind) (by grind)
 generalize fop .add C Z = A2 at *
 obtain ⟨j1, j2⟩ := subE (X := 1) (E := 20 / 16777216) fone.1.fin i1 hone i2 (ab_le (by grind) (by grind)) (by grind) (by grind)
 obtain ⟨_, j3⟩ := subE (X := 11 / 10) (E := 2 / 16777216) fone.1.fin i1 hone (zz A2) (by obtain ⟨x, y⟩ := ab_iff.1 i2; exact ab_le (by grind) (by grind)) (by grind) (by grind)
 generalize fop .sub 1065353216 A2 = U1 at *
 obtain ⟨o1, o2⟩ := subE (X := 1) (E := 38 / 16777216) j1 b1 j2 b3 (ab_le (by grind) (by grind)) (by grind) (by grind)
 obtain ⟨_, o3⟩ := subE (X := 11 / 10) (E := 2 / 16777216) j1 b1 (zz U1) (zz M) (by obtain ⟨x, y⟩ := ab_iff.1 j2; obtain ⟨x2, y2⟩ := ab_iff.1 b3; exact ab_le (by grind) (by grind)) (by grind) (by grind)
 generalize fop .sub U1 M = U2 at *
 obtain ⟨q0, v0⟩ := termE hd a1 a3 (ab_le (by grind) (by grind)) (by grind)
 obtain ⟨q1, v1⟩ := termE hd g1' g2' (ab_le (by grind) (by grind)) (by grind)
 obtain ⟨q3, v3⟩ := termE hd o1 o2 (ab_le (by grind) (by grind)) (by grind)
 obtain ⟨q4, v4⟩ := termE hd b1 b3 (ab_le (by grind) (by grind)) (by grind)
 have u0 := termX hd a1 (by obtain ⟨x, y⟩ := ab_iff.1 a3; exact ab_le (by grind) (by grind))
 have u1 := termX hd g1' (by obtain ⟨x, y⟩ := ab_iff.1 g2'; exact ab_le (by grind) (by grind))
 have u3 := termX hd o1 (by obtain ⟨x, y⟩ := ab_iff.1 o2; exact ab_le (by grind) (by grind))
 have u4 := termX hd b1 (by obtain ⟨x, y⟩ := ab_iff.1 b3; exact ab_le (by grind) (by grind))
 have hD : ab (V d) <= 1 := by have := hd.ab; rwa [p2_zero] at this
 have hD0 := ab_nonneg (V d)
 have hVS : 0 <= V S /\ V S <= s * (1001 / 1000) := by
  obtain ⟨x, y⟩ := ab_iff.1 hS
  exact ⟨by grind, by grind⟩
 have hmS : ab (V d * V S) <= ab (V d) * (s * (1001 / 1000)) := ab_mul_le Rat.le_refl (by rw [ab_of_nonneg hVS.1]; exact hVS.2)
 have hmS2 : ab (V d) * (s * (1001 / 1000)) <= 1 * (s * (1001 / 1000)) := Rat.mul_le_mul_of_nonneg_right hD (by grind)
 obtain ⟨_, rS⟩ := fmul_ok hd.fin s1 (big126G (by grind))
 have nS := rS.near5.2
 generalize fop .mul d A = x0 at *
 generalize fop .mul d CA = x1 at *
 generalize fop .mul d S = xS at *
 generalize fop .mul d U2 = x3 at *
 generalize fop .mul d M = x4 at *
 have fills : ∀ k : Rat, 0 <= k -> k <= N -> ab (V xS * k - V d * (V S * k)) <= ab (V d) * (2 / 16777216) + 1 / 400000000000000000000000000 /\ ab (V xS * k - V d * (s * k)) <= ab (V d) * (5 / 16777216) + 1 / 400000000000000000000000000 := by
  intro k hk0 hkN
  have hsk : s * k <= 1 := by
   have := Rat.mul_le_mul_of_nonneg_left hkN (Rat.le_of_lt hs0)
   grind
  have hsk0 : 0 <= s * k := Rat.mul_nonneg (Rat.le_of_lt hs0) hk0
  have e1 : V xS * k - V d * (V S * k) = (V xS - V d * V S) * k := by grind
  have m1 : ab ((V xS - V d * V S) * k) <= (ab (V d * V S) * (1 / 16777216) + 1 / 1000000000000000000000000000000) * k := ab_mul_le nS (by rw [ab_of_nonneg hk0]; exact Rat.le_refl)
  have m2 : ab (V d * V S) * k <= ab (V d) * (s * (1001 / 1000)) * k := Rat.mul_le_mul_of_nonneg_right hmS hk0
  have e2 : ab (V d) * (s * (1001 / 1000)) * k = ab (V d) * (s * k) * (1001 / 1000) := by grind
  have m3 : ab (V d) * (s * k) <= ab (V d) * 1 := Rat.mul_le_mul_of_nonneg_left hsk hD0
  have e3 : (ab (V d * V S) * (1 / 16777216) + 1 / 1000000000000000000000000000000) * k = ab (V d * V S) * k * (1 / 16777216) + k * (1 / 1000000000000000000000000000000) := by grind
  have h1 : ab (V xS * k - V d * (V S * k)) <= ab (V d) * (2 / 16777216) + 1 / 400000000000000000000000000 := by
   rw [e1]
   generalize ab ((V xS - V d * V S) * k) = z1 at *
   generalize ab (V d * V S) * k = z2 at *
   generalize ab (V d) * (s * k) = z3 at *
   grind
  refine ⟨h1, ?_⟩
  have e4 : V xS * k - V d * (s * k) = (V xS * k - V d * (V S * k)) + V d * ((V S - s) * k) := by grind
  have m4 : ab ((V S - s) * k) <= s * (3 / 16777216) * k := ab_mul_le hS (by rw [ab_of_nonneg hk0]; exact Rat.le_refl)
  have e5 : s * (3 / 16777216) * k = s * k * (3 / 16777216) := by grind
  have m5 : ab (V d * ((V S - s) * k)) <= ab (V d) * (3 / 16777216) := ab_mul_le Rat.le_refl (by rw [e5] at m4; grind)
  have j := ab_add_le (V xS * k - V d * (V S * k)) (V d * ((V S - s) * k))
  rw [e4]
  grind
 have hval : valL ([(base + clampN (ffl lo) W, x0), (base + clampN (ffl lo + 1) W, x1)] ++ ffill base W (ffl lo + 2) xS N ++ [(base + clampN (fce hi - 1) W, x3), (base + clampN (fce hi) W, x4)]) =
   [(base + clampN (ffl lo) W, V x0), (base + clampN (ffl lo + 1) W, V x1)] ++ valL (ffill base W (ffl lo + 2) xS N) ++ [(base + clampN (fce hi - 1) W, V x3), (base + clampN (fce hi) W, V x4)] := by
  rw [valL_append, valL_append]
  rfl
 obtain ⟨ft, fa, flen⟩ := totR_fill base W (ffl lo + 2) xS N
 have hDB : ab (V d) * 128 <= ab (V d) * (B + 8) := Rat.mul_le_mul_of_nonneg_left (by grind) hD0
 have eB2 : ab (V d) * ((B + 8) / 16777216) = ab (V d) * (B + 8) / 16777216 := by grind
 have fN' := fills N hNn Rat.le_refl
 have htot : ab (V x0 + V x1 + V xS * N + V x3 + V x4 - V d) <= ab (V d) * (24 / 16777216) + 1 / 200000000000000000000000000 := by
  have c1 : ab (V d * (V CA - (V C - V A))) <= ab (V d) * (2 / 16777216) := ab_mul_le Rat.le_refl g3'
  have c2 : ab (V d * (V Z - V S * N)) <= ab (V d) * (2 / 16777216) := ab_mul_le Rat.le_refl nN2
  have c3 : ab (V d * (V A2 - (V C + V Z))) <= ab (V d) * (2 / 16777216) := ab_mul_le Rat.le_refl i3
  have c4 : ab (V d * (V U1 - (1 - V A2))) <= ab (V d) * (2 / 16777216) := ab_mul_le Rat.le_refl j3
  have c5 : ab (V d * (V U2 - (V U1 - V M))) <= ab (V d) * (2 / 16777216) := ab_mul_le Rat.le_refl o3
  have e : V x0 + V x1 + V xS * N + V x3 + V x4 - V d = (V x0 - V d * V A) + ((V x1 - V d * V CA) + ((V xS * N - V d * (V S * N)) + ((V x3 - V d * V U2) + ((V x4 - V d * V M) +
    (V d * (V CA - (V C - V A)) + (V d * (V U2 - (V U1 - V M)) + (V d * (V U1 - (1 - V A2)) - (V d * (V A2 - (V C + V Z)) + V d * (V Z - V S * N))))))))) := by grind
  rw [e]
  exact sum10 u0 u1 fN'.1 u3 u4 c1 c5 c4 c3 c2
 refine ⟨fun X hX => ?_, ?_, ?_, ?_, ?_⟩
 ·rw [hval, sumR_append, sumR_append, sumR_place hX, sumR_place hX, sumR_place hX, sumR_place hX, sumR_fill hX, eB2]
  simp only [sumR]
  have hms := mean_s (z := (X : Rat) + 1) hs hw
  rcases Int.lt_or_le (X : Int) (ffl lo) with c | c
  ·have h3 := castLe (show (X : Int) + 1 <= ffl lo by omega)
   push_cast at h3
   have eu : upTo X (ffl lo + 2) N = 0 := by unfold upTo imin imax; split <;> split <;> omega
   rw [if_neg (by omega), if_neg (by omega), if_neg (by omega), if_neg (by omega), mean_zero (by grind) (by grind), eu, cast_zero]
   have e : (0 : Rat) + (0 + 0) + V xS * 0 + (0 + (0 + 0)) - V d * 0 = 0 := by grind
   rw [e, ab_of_nonneg Rat.le_refl]
   clear fills
   grind
  ·rcases Int.lt_or_le (X : Int) (ffl lo + 1) with c2 | c2
   ·have h3 : (X : Rat) = (ffl lo : Rat) := by
     have : (X : Int) = ffl lo := by omega
     rw [<- this]; push_cast; rfl
    have eu : upTo X (ffl lo + 2) N = 0 := by unfold upTo imin imax; split <;> split <;> omega
    rw [if_pos (by omega), if_neg (by omega), if_neg (by omega), if_neg (by omega), hms, kk_mid (z := (X : Rat) + 1 - V lo) (by grind) (by grind), kk_low (z := (X : Rat) + 1 - V hi) (by grind), eu, cast_zero]
    have e0 : (X : Rat) + 1 - V lo = g := by grind
    rw [e0]
    have e : V x0 + (0 + 0) + V xS * 0 + (0 + (0 + 0)) - V d * (s * (g * g / 2 - 0)) = V x0 - V d * A0 := by rw [<- hA0]; grind
    rw [e]
    clear fills
    grind
   ·rcases Int.lt_or_le (X : Int) (ffl lo + 2 + (N : Int)) with c3 | c3
    ·
     obtain ⟨k, hk⟩ : ∃ k : Nat, (X : Int) = ffl lo + 1 + (k : Int) := ⟨((X : Int) - ffl lo - 1).toNat, by omega⟩
     have hkN : k <= N := by omega
     have hkN2 : (k : Rat) <= (N : Rat) := by exact_mod_cast hkN
     have hk0 : (0 : Rat) <= (k : Rat) := by exact_mod_cast Nat.zero_le k
     have h3 : (X : Rat) = (ffl lo : Rat) + 1 + (k : Rat) := by
      have := congrArg (fun z : Int => (z : Rat)) hk
      push_cast at this
      exact this
     have eu : upTo X (ffl lo + 2) N = (k : Int) := by unfold upTo imin imax; split <;> split <;> omega
     have euR : ((upTo X (ffl lo + 2) N : Int) : Rat) = (k : Rat) := by rw [eu]; push_cast; rfl
     obtain ⟨_, fk⟩ := fills k hk0 hkN2
     rw [if_pos (by omega), if_pos (by omega), if_neg (by omega), if_neg (by omega), hms, kk_high (z := (X : Rat) + 1 - V lo) (by grind), kk_low (z := (X : Rat) + 1 - V hi) (by grind), euR]
     have e : V x0 + (V x1 + 0) + V xS * (k : Rat) + (0 + (0 + 0)) - V d * (s * ((X : Rat) + 1 - V lo - 1 / 2 - 0)) = (V x0 - V d * A0) + ((V x1 - V d * (gs + s / 2 - A0)) + (V xS * k - V d * (s * k))) := by
      have : (X : Rat) + 1 - V lo - 1 / 2 - 0 = g + 1 / 2 + k := by grind
      rw [this, <- hgs]
      grind
     rw [e]
     have y1 := ab_add_le (V x0 - V d * A0) ((V x1 - V d * (gs + s / 2 - A0)) + (V xS * k - V d * (s * k)))
     have y2 := ab_add_le (V x1 - V d * (gs + s / 2 - A0)) (V xS * k - V d * (s * k))
     clear fills
     grind
    ·rcases Int.lt_or_le (X : Int) (fce hi) with c4 | c4
     ·have h3 : (X : Rat) = (ffl lo : Rat) + 2 + (N : Rat) := by
       have : (X : Int) = ffl lo + 2 + (N : Int) := by omega
       have := congrArg (fun z : Int => (z : Rat)) this
       push_cast at this
       exact this
      have e0 : (X : Rat) + 1 - V lo = g + N + 2 := by grind
      have e1 : (X : Rat) + 1 - V hi = 1 - h := by grind
      have eu : upTo X (ffl lo + 2) N = (N : Int) := by unfold upTo imin imax; split <;> split <;> omega
      have euR : ((upTo X (ffl lo + 2) N : Int) : Rat) = (N : Rat) := by rw [eu]; push_cast; rfl
      rw [if_pos (by omega), if_pos (by omega), if_pos (by omega), if_neg (by omega), hms, kk_high (z := (X : Rat) + 1 - V lo) (by grind), kk_mid (z := (X : Rat) + 1 - V hi) (by grind) (by grind), e0, e1, euR]
      have e2 : g + N + 2 - 1 / 2 - (1 - h) * (1 - h) / 2 = g + N + 3 / 2 - (1 - h) * (1 - h) / 2 := by grind
      rw [e2, hAM]
      have fk := fN'.2
      rw [hsN] at fk
      have e : V x0 + (V x1 + 0) + V xS * (N : Rat) + (V x3 + (0 + 0)) - V d * (1 - AM) = (V x0 - V d * A0) + ((V x1 - V d * (gs + s / 2 - A0)) + ((V xS * N - V d * sN) + (V x3 - V d * (1 - (gs + s / 2 + sN) - AM)))) := by grind
      rw [e]
      have y1 := ab_add_le (V x0 - V d * A0) ((V x1 - V d * (gs + s / 2 - A0)) + ((V xS * N - V d * sN) + (V x3 - V d * (1 - (gs + s / 2 + sN) - AM))))
      have y2 := ab_add_le (V x1 - V d * (gs + s / 2 - A0)) ((V xS * N - V d * sN) + (V x3 - V d * (1 - (gs + s / 2 + sN) - AM)))
      have y3 := ab_add_le (V xS * N - V d * sN) (V x3 - V d * (1 - (gs + s / 2 + sN) - AM))
      clear fills
      grind
     ·have h3 := castLe (show fce hi <= (X : Int) by omega)
      push_cast at h3
      have eu : upTo X (ffl lo + 2) N = (N : Int) := by unfold upTo imin imax; split <;> split <;> omega
      have euR : ((upTo X (ffl lo + 2) N : Int) : Rat) = (N : Rat) := by rw [eu]; push_cast; rfl
      rw [if_pos (by omega), if_pos (by omega), if_pos (by omega), if_pos (by omega), mean_one (by grind) (by grind), euR]
      have e : V x0 + (V x1 + 0) + V xS * (N : Rat) + (V x3 + (V x4 + 0)) - V d * 1 = V x0 + V x1 + V xS * N + V x3 + V x4 - V d := by grind
      rw [e]
      clear fills
      grind
 ·rw [hval, totR_append, totR_append, ft]
  simp only [totR]
  have e : V x0 + (V x1 + 0) + V xS * (N : Rat) + (V x3 + (V x4 + 0)) - V d = V x0 + V x1 + V xS * N + V x3 + V x4 - V d := by grind
  rw [e]
  clear fills
  grind
 ·rw [hval, absR_append, absR_append, fa]
  simp only [absR]
  have k0 := abs_term v0 t1
  have k1 := abs_term v1 (by grind)
  have k3 := abs_term v3 (by grind)
  have k4 := abs_term v4 t2
  have k2 : ab (V xS) * N <= ab (V d) * sN + ab (V d) * (5 / 16777216) + 1 / 400000000000000000000000000 := by
   have fk := fN'.2
   rw [hsN] at fk
   have j := ab_add_le (V xS * N - V d * sN) (V d * sN)
   have e : V xS * N - V d * sN + V d * sN = V xS * N := by grind
   rw [e, ab_mul (V xS), ab_of_nonneg hNn, ab_mul (V d) sN, ab_of_nonneg hsN0] at j
   grind
  have e1 : ab (V d) * (gs + s / 2 - A0) = ab (V d) * gs + ab (V d) * s / 2 - ab (V d) * A0 := by grind
  have e3 : ab (V d) * (1 - (gs + s / 2 + sN) - AM) = ab (V d) - ab (V d) * gs - ab (V d) * s / 2 - ab (V d) * sN - ab (V d) * AM := by grind
  rw [e1] at k1
  rw [e3] at k3
  generalize ab (V d) * A0 = z0 at *
  generalize ab (V d) * AM = z1 at *
  generalize ab (V d) * gs = z2 at *
  generalize ab (V d) * s = z3 at *
  generalize ab (V d) * sN = z4 at *
  clear fills
  grind
 ·have : ab (V hi - V lo) = w := by rw [<- hw]; exact ab_of_nonneg (Rat.le_of_lt hw0)
  rw [this]
  simp only [List.length_append, List.length_cons, List.length_nil, flen]
  push_cast
  grind
 ·intro p hp
  simp only [List.mem_append, List.mem_cons, List.not_mem_nil, or_false] at hp
  rcases hp with ((rfl | rfl) | hp) | (rfl | rfl)
  ·exact clamp_place _ _ _
  ·exact clamp_place _ _ _
  ·exact ffill_place hp
  ·exact clamp_place _ _ _
  ·exact clamp_place _ _ _
theorem quo_oneG {w : Nat} (hw : F32 w) (h : p2 (-110) <= V w) : Fok .quo 1065353216 w /\ Bd (fop .quo 1065353216 w) 110 := by
 have hp := p2_pos (-110)
 have hw0 : 0 < V w := by grind
 have e48 : p2 110 * p2 (-110) = 1 := by rw [<- p2_add]; exact p2_zero
 have e77 : p2 125 * p2 (-110) = p2 15 := by rw [<- p2_add]; rfl
 have h77 : 1 <= p2 15 := by have := p2_mono (a := 0) (b := 15) (by decide); rwa [p2_zero] at this
 have h1 := Rat.mul_le_mul_of_nonneg_left h (Rat.le_of_lt (p2_pos 110))
 have h2 := Rat.mul_le_mul_of_nonneg_left h (Rat.le_of_lt (p2_pos 125))
 have a1 : Flt.ab 1 = 1 := by decide
 obtain ⟨q1, q2⟩ := fquo_ok fone.1.fin hw (by grind) (by rw [fone.2, ab_of_nonneg (Rat.le_of_lt hw0), a1]; grind)
 refine ⟨q1, q2.bd ?_ (by decide)⟩
 rw [fone.2, ab_div hw0, a1]
 refine Rat.le_of_mul_le_mul_right (c := V w) ?_ hw0
 rw [Rat.div_mul_cancel (by grind)]
 grind
theorem rowN_okG {x xn d lo : Nat} (hx : XsG x) (hn : XsG xn) (hl : XsG lo) (hd : Bd d 0) : FrowNOk x xn d lo /\ ∀ W base, ∀ p ∈ frowN W base x xn d lo, F32 p.2 := by
 obtain ⟨_, _, b1, b2⟩ := hl.fl
 obtain ⟨i1, _⟩ := int15 b1 b2
 obtain ⟨q1, r1⟩ := Bd.add hx.bd hn.bd
 obtain ⟨q2, r2⟩ := Bd.mul fhalf.1 r1
 obtain ⟨q3, r3⟩ := Bd.sub r2 (i1.mono (by decide))
 obtain ⟨q4, r4⟩ := Bd.mul hd r3
 obtain ⟨q5, r5⟩ := Bd.sub (hd.mono (by decide)) r4
 refine ⟨⟨q1, q2, q3, q4, q5⟩, fun W base p hp => ?_⟩
 unfold frowN at hp
 simp only [List.mem_cons, List.not_mem_nil, or_false] at hp
 rcases hp with rfl | rfl
 ·exact r5.fin
 ·exact r4.fin
theorem rowT_okG {d lo hi : Nat} (hl : XsG lo) (hh : XsG hi) (hw : p2 (-110) <= V hi - V lo) (hd : Bd d 0) : FrowTOk d lo hi /\ ∀ W base, ∀ p ∈ frowT W base d lo hi, F32 p.2 := by
 obtain ⟨q1, w1, w2⟩ := widthG hl hh hw
 obtain ⟨q2, s⟩ := quo_oneG w1 w2
 obtain ⟨q3, h⟩ := Bd.mul fhalf.1 s
 obtain ⟨q4, lf⟩ := hl.frac
 obtain ⟨q5, om⟩ := Bd.sub fone.1 lf
 obtain ⟨q6, a1⟩ := Bd.mul h om
 obtain ⟨q7, a0⟩ := Bd.mul a1 om
 obtain ⟨q8, da0⟩ := Bd.mul hd a0
 obtain ⟨q9, t1⟩ := Bd.sub (fone.1.mono (m := 112) (by decide)) (a0.mono (m := 112) (by decide))
 obtain ⟨q10, hc⟩ := hh.top
 obtain ⟨q11, xf⟩ := Bd.add hc fone.1
 obtain ⟨q12, b1⟩ := Bd.mul h xf
 obtain ⟨q13, am⟩ := Bd.mul b1 xf
 obtain ⟨q14, t2⟩ := Bd.sub (t1.mono (m := 113) (by decide)) (am.mono (m := 113) (by decide))
 obtain ⟨q15, dt⟩ := Bd.mul hd t2
 obtain ⟨q16, dam⟩ := Bd.mul hd am
 refine ⟨⟨q1, q2, q3, q4, q5, q6, q7, q8, q9, q10, q11, q12, q13, q14, q15, q16⟩, fun W base p hp => ?_⟩
 unfold frowT at hp
 simp only [List.mem_cons, List.not_mem_nil, or_false] at hp
 rcases hp with rfl | rfl | rfl
 ·exact da0.fin
 ·exact dt.fin
 ·exact dam.fin
theorem rowM_okG {d lo hi : Nat} (hl : XsG lo) (hh : XsG hi) (hw : p2 (-110) <= V hi - V lo) (hd : Bd d 0) (hN1 : fce hi - ffl lo - 3 <= 4096) (hN0 : -4096 <= fce hi - ffl lo - 3) : FrowMOk d lo hi /\ ∀ W base N, ∀ p ∈ frowM W base d lo hi N, F32 p.2 := by
 obtain ⟨iN, _⟩ := ofInt_bd (n := fce hi - ffl lo - 3) (k := 12) (by decide) (by omega) (by omega)
 obtain ⟨q1, w1, w2⟩ := widthG hl hh hw
 obtain ⟨q2, s⟩ := quo_oneG w1 w2
 obtain ⟨q3, h⟩ := Bd.mul fhalf.1 s
 obtain ⟨q4, lf⟩ := hl.frac
 obtain ⟨q5, om⟩ := Bd.sub fone.1 lf
 obtain ⟨q6, a1⟩ := Bd.mul h om
 obtain ⟨q7, a0⟩ := Bd.mul a1 om
 obtain ⟨q8, da0⟩ := Bd.mul hd a0
 obtain ⟨q9, l15⟩ := Bd.sub f15.1 (lf.mono (m := 1) (by decide))
 obtain ⟨q10, c1⟩ := Bd.mul s l15
 obtain ⟨q11, c2⟩ := Bd.sub c1 (a0.mono (m := 112) (by decide))
 obtain ⟨q12, c3⟩ := Bd.mul hd c2
 obtain ⟨q13, sN⟩ := Bd.mul s iN
 obtain ⟨q14, a2⟩ := Bd.add (c1.mono (m := 122) (by decide)) sN
 obtain ⟨q15, u1⟩ := Bd.sub (fone.1.mono (m := 123) (by decide)) a2
 obtain ⟨q16, hc⟩ := hh.top
 obtain ⟨q17, xf⟩ := Bd.add hc fone.1
 obtain ⟨q18, b1⟩ := Bd.mul h xf
 obtain ⟨q19, am⟩ := Bd.mul b1 xf
 obtain ⟨q20, u2⟩ := Bd.sub u1 (am.mono (m := 124) (by decide))
 obtain ⟨q21, u3⟩ := Bd.mul hd u2
 obtain ⟨q22, dam⟩ := Bd.mul hd am
 obtain ⟨q23, ds⟩ := Bd.mul hd s
 refine ⟨⟨q1, q2, q3, q4, q5, q6, q7, q8, q9, q10, q11, q12, q13, q14, q15, q16, q17, q18, q19, q20, q21, q22, q23⟩, fun W base N p hp => ?_⟩
 unfold frowM at hp
 simp only [List.mem_append, List.mem_cons, List.not_mem_nil, or_false] at hp
 rcases hp with ((rfl | rfl) | hp) | (rfl | rfl)
 ·exact da0.fin
 ·exact c3.fin
 ·rw [mem_ffill hp]
  exact ds.fin
 ·exact u3.fin
 ·exact dam.fin
theorem absR_mem : ∀ {s : List (Nat × Rat)} {p : Nat × Rat}, p ∈ s -> ab p.2 <= absR s
 | (k, v) :: t, p, h => by
  have h1 := ab_nonneg v
  have h0 : 0 <= absR t := by
   clear h
   induction t with
   | nil => exact Rat.le_refl
   | cons a t ih =>
    obtain ⟨k', v'⟩ := a
    have := ab_nonneg v'
    rw [absR]
    grind
  rw [absR]
  rcases List.mem_cons.1 h with rfl | h
  ·show ab v <= _
   grind
  ·have := absR_mem h
   grind
theorem p2_m125 : (1 : Rat) <= p2 125 * p2 (-125) := by rw [<- p2_add, show (125 : Int) + -125 = 0 by decide, p2_zero]; exact Rat.le_refl
theorem tiny110 : p2 (-110) <= 1 / 1000000000000000000000000000000000 := by rw [p2_m110]; decide +kernel
theorem zero_mul32 {a b : Nat} (ha : F32 a) (hb : F32 b) (h : V b = 0) : Fok .mul a b /\ F32 (fop .mul a b) /\ V (fop .mul a b) = 0 := by
 have hz : V a * V b = 0 := by rw [h]; grind
 obtain ⟨q, r⟩ := fmul_ok ha hb (by rw [hz]; exact big126 (by decide +kernel))
 rw [hz] at r
 exact ⟨q, r.fin, r.eq (n := 0) (q := 0) (by rw [p2_zero, cast_zero]; grind) (by decide) (by decide) (by decide)⟩
theorem eq_self32 {x : Rat} {a r : Nat} (ha : F32 a) (hx : x = V a) (h : R32 x r) : V r = V a := by
 rw [hx] at h
 exact Rounds.exact h (val_rep ha)
theorem rowT_tinyA {d lo hi : Nat} (hl : XsG lo) (hh : XsG hi) (hd : Bd d 0) (h0 : V lo < 0) (h1 : 0 < V hi) (hw : V hi - V lo < p2 (-110)) (hw2 : p2 (-125) <= V hi - V lo) (hc : fce hi = ffl lo + 2) :
  (FrowTOk d lo hi /\ ∀ W base, ∀ p ∈ frowT W base d lo hi, F32 p.2) /\ (∀ W base B, 120 <= B -> RowNear (frowT W base d lo hi) W base (V d) (V lo) (V hi) B) /\ ∀ W base, totR (valL (frowT W base d lo hi)) = V d := by
 obtain ⟨_, el, l1, l2⟩ := hl.fl
 obtain ⟨_, eh, k1, k2⟩ := hh.ce
 obtain ⟨fl1, fl2⟩ := floor_near (V lo)
 obtain ⟨ce1, ce2⟩ := ceil_near (V hi)
 rw [<- el] at fl1 fl2
 rw [<- eh] at ce1 ce2
 have ht := tiny110
 have hfl : ffl lo = -1 := by
  have a1 : ((ffl lo : Int) : Rat) < ((0 : Int) : Rat) := by rw [cast_zero]; grind
  have a2 := Rat.intCast_lt_intCast.1 a1
  have a3 : ((0 : Int) : Rat) < ((ffl lo + 2 : Int) : Rat) := by push_cast; grind
  have a4 := Rat.intCast_lt_intCast.1 a3
  omega
 have hce : fce hi = 1 := by omega
 obtain ⟨i1, i2⟩ := int15 l1 l2
 obtain ⟨j1, j2⟩ := int15 k1 k2
 rw [hfl] at i2
 rw [hce] at j2
 push_cast at i2 j2
 obtain ⟨q4, lf⟩ := hl.frac
 obtain ⟨_, r4⟩ := fsub_ok hl.bd.fin i1.fin (by rw [hfl, i2]; exact big126 (ab_le (by grind) (by grind)))
 rw [hfl, i2] at r4
 have nF := near_one r4 (by grind) (by grind)
 rw [hfl] at q4 lf
 have hF1 : V (fop .sub lo (floatOfInt .f32 (-1))) = 1 := by
  obtain ⟨a1, a2⟩ := ab_iff.1 nF
  have hle : V (fop .sub lo (floatOfInt .f32 (-1))) <= 1 := by grind
  rcases lt_or_eq hle with hlt | he
  ·have := below_one r4.fin hlt
   grind
  ·exact he
 obtain ⟨q5, r5⟩ := fsub_ok fone.1.fin r4.fin (by rw [fone.2, hF1]; exact big126 (by decide +kernel))
 have hG : V (fop .sub 1065353216 (fop .sub lo (floatOfInt .f32 (-1)))) = 0 := by
  rw [fone.2, hF1] at r5
  have := r5.eq (n := 0) (q := 0) (by rw [p2_zero, cast_zero]; grind) (by decide) (by decide) (by decide)
  grind
 obtain ⟨q10, hcB⟩ := hh.top
 obtain ⟨_, r10⟩ := fsub_ok hh.bd.fin j1.fin (by rw [hce, j2]; exact big126 (ab_le (by grind) (by grind)))
 rw [hce, j2] at r10
 rw [hce] at q10 hcB
 have nH := near_mone r10 (by grind) (by grind)
 have hH1 : V (fop .sub hi (floatOfInt .f32 1)) = -1 := by
  obtain ⟨a1, a2⟩ := ab_iff.1 nH
  obtain ⟨u1, u2⟩ := fneg_ok r10.fin
  have hle : V (fneg (fop .sub hi (floatOfInt .f32 1))) <= 1 := by rw [u2]; grind
  rcases lt_or_eq hle with hlt | he
  ·have := below_one u1 hlt
   rw [u2] at this
   grind
  ·rw [u2] at he
   grind
 obtain ⟨q11, r11⟩ := fadd_ok r10.fin fone.1.fin (by rw [fone.2, hH1]; exact big126 (by decide +kernel))
 have hM : V (fop .add (fop .sub hi (floatOfInt .f32 1)) 1065353216) = 0 := by
  rw [fone.2, hH1] at r11
  have := r11.eq (n := 0) (q := 0) (by rw [p2_zero, cast_zero]; grind) (by decide) (by decide) (by decide)
  grind
 obtain ⟨q1, w1⟩ := fsub_ok hh.bd.fin hl.bd.fin (big126 (ab_le (by grind) (by grind)))
 have hz := w1.ge (n := 1) (q := -125) (by rw [show ((1 : Int) : Rat) = 1 from rfl, Rat.one_mul]; exact hw2) (by decide) (by decide) (by decide)
 rw [show ((1 : Int) : Rat) = 1 from rfl, Rat.one_mul] at hz
 have hp := p2_pos (-125)
 have h125 := p2_m125
 have m1 := Rat.mul_le_mul_of_nonneg_left hz (Rat.le_of_lt (p2_pos 125))
 obtain ⟨q2, r2⟩ := fquo_ok fone.1.fin w1.fin (by grind) (by
  rw [fone.2, ab_of_nonneg (x := V (fop .sub hi lo)) (by grind), ab_of_nonneg (x := (1 : Rat)) (by decide)]
  grind)
 have hsB : Bd (fop .quo 1065353216 (fop .sub hi lo)) 125 := by
  refine r2.bd ?_ (by decide)
  rw [fone.2, ab_div (by grind), ab_of_nonneg (x := (1 : Rat)) (by decide)]
  refine Rat.le_of_mul_le_mul_right (c := V (fop .sub hi lo)) ?_ (by grind)
  rw [Rat.div_mul_cancel (by grind)]
  grind
 obtain ⟨q3, hs2⟩ := Bd.mul fhalf.1 hsB
 obtain ⟨q6, f6, v6⟩ := zero_mul32 hs2.fin r5.fin hG
 obtain ⟨q7, f7, v7⟩ := zero_mul32 f6 r5.fin hG
 obtain ⟨q8, f8, v8⟩ := zero_mul32 hd.fin f7 v7
 obtain ⟨q9, r9⟩ := fsub_ok fone.1.fin f7 (by rw [fone.2, v7]; exact big126 (by decide +kernel))
 have v9 : V (fop .sub 1065353216 (fop .mul (fop .mul (fop .mul 1056964608 (fop .quo 1065353216 (fop .sub hi lo))) (fop .sub 1065353216 (fop .sub lo (floatOfInt .f32 (-1))))) (fop .sub 1065353216 (fop .sub lo (floatOfInt .f32 (-1)))))) = 1 := by
  have := eq_self32 fone.1.fin (by rw [fone.2, v7]; grind) r9
  rw [this, fone.2]
 obtain ⟨q12, f12, v12⟩ := zero_mul32 hs2.fin r11.fin hM
 obtain ⟨q13, f13, v13⟩ := zero_mul32 f12 r11.fin hM
 obtain ⟨q14, r14⟩ := fsub_ok r9.fin f13 (by rw [v9, v13]; exact big126 (by decide +kernel))
 have v14 := eq_self32 fone.1.fin (by rw [fone.2, v9, v13]; grind) r14
 rw [fone.2] at v14
 have hD : ab (V d) <= 1 := by have := hd.ab; rwa [p2_zero] at this
 obtain ⟨q15, r15⟩ := fmul_ok hd.fin r14.fin (by rw [v14]; exact big126 (by rw [show V d * 1 = V d by grind]; grind))
 have v15 := eq_self32 hd.fin (by rw [v14]; grind) r15
 obtain ⟨q16, f16, v16⟩ := zero_mul32 hd.fin f13 v13
 have hL : ∀ W base, frowT W base d lo hi = [(base + clampN (-1) W, fop .mul d (fop .mul (fop .mul (fop .mul 1056964608 (fop .quo 1065353216 (fop .sub hi lo))) (fop .sub 1065353216 (fop .sub lo (floatOfInt .f32 (-1))))) (fop .sub 1065353216 (fop .sub lo (floatOfInt .f32 (-1)))))),
   (base + clampN (-1 + 1) W, fop .mul d (fop .sub (fop .sub 1065353216 (fop .mul (fop .mul (fop .mul 1056964608 (fop .quo 1065353216 (fop .sub hi lo))) (fop .sub 1065353216 (fop .sub lo (floatOfInt .f32 (-1))))) (fop .sub 1065353216 (fop .sub lo (floatOfInt .f32 (-1)))))) (fop .mul (fop .mul (fop .mul 1056964608 (fop .quo 1065353216 (fop .sub hi lo))) (fop .add (fop .sub hi (floatOfInt .f32 1)) 1065353216)) (fop .add (fop .sub hi (floatOfInt .f32 1)) 1065353216)))),
   (base + clampN 1 W, fop .mul d (fop .mul (fop .mul (fop .mul 1056964608 (fop .quo 1065353216 (fop .sub hi lo))) (fop .add (fop .sub hi (floatOfInt .f32 1)) 1065353216)) (fop .add (fop .sub hi (floatOfInt .f32 1)) 1065353216)))] := by
  intro W base
  unfold frowT
  rw [hfl, hce]
 refine ⟨⟨?_, fun W base p hpm => ?_⟩, fun W base B hB => ?_, fun W base => ?_⟩
 ·unfold FrowTOk
  rw [hfl, hce]
  exact ⟨q1, q2, q3, q4, q5, q6, q7, q8, q9, q10, q11, q12, q13, q14, q15, q16⟩
 ·rw [hL] at hpm
  simp only [List.mem_cons, List.not_mem_nil, or_false] at hpm
  rcases hpm with rfl | rfl | rfl
  ·exact f8
  ·exact r15.fin
  ·exact f16
 ·rw [hL]
  have hval : ∀ a b c : Nat, V a = 0 -> V b = V d -> V c = 0 -> valL [(base + clampN (-1) W, a), (base + clampN (-1 + 1) W, b), (base + clampN 1 W, c)] = [(base + clampN (-1) W, 0), (base + clampN (-1 + 1) W, V d), (base + clampN 1 W, 0)] := by
   intro a b c e1 e2 e3
   simp only [valL, List.map_cons, List.map_nil, e1, e2, e3]
  have hD0 := ab_nonneg (V d)
  have z0 : ab (0 : Rat) = 0 := by decide +kernel
  refine ⟨fun X hX => ?_, ?_, ?_, ?_, ?_⟩
  ·rw [hval _ _ _ v8 v15 v16, sumR_place hX, sumR_place hX, sumR_place hX]
   simp only [sumR]
   have hX0 : (0 : Rat) <= X := by exact_mod_cast Nat.zero_le X
   have hm : ab (V d - V d * mean ((X : Rat) + 1 - V lo) ((X : Rat) + 1 - V hi)) <= ab (V d) * (1 / 16777216) := by
    have e : V d - V d * mean ((X : Rat) + 1 - V lo) ((X : Rat) + 1 - V hi) = V d * (1 - mean ((X : Rat) + 1 - V lo) ((X : Rat) + 1 - V hi)) := by grind
    rw [e]
    refine ab_mul_le Rat.le_refl ?_
    obtain ⟨b1, b2⟩ := mean_bd ((X : Rat) + 1 - V lo) ((X : Rat) + 1 - V hi)
    have b3 := (mean_between (a := (X : Rat) + 1 - V hi) (b := (X : Rat) + 1 - V lo) (by grind)).1
    rw [mean_comm] at b3
    have b4 : 1 - 1 / 16777216 <= cl ((X : Rat) + 1 - V hi) := by rcases cl_cases ((X : Rat) + 1 - V hi) with c | c | c <;> grind
    exact ab_le (by grind) (by grind)
   have hDB : ab (V d) * (1 / 16777216) <= ab (V d) * ((B + 8) / 16777216) := Rat.mul_le_mul_of_nonneg_left (by grind) hD0
   have e1 : (if (-1 : Int) <= ↑X then (0 : Rat) else 0) = 0 := by split <;> rfl
   have e2 : (if (1 : Int) <= ↑X then (0 : Rat) else 0) = 0 := by split <;> rfl
   have e0 : (if (-1 : Int) + 1 <= ↑X then V d else 0) = V d := if_pos (by omega)
   rw [e1, e2, e0]
   have e3 : 0 + (V d + (0 + 0)) - V d * mean ((X : Rat) + 1 - V lo) ((X : Rat) + 1 - V hi) = V d - V d * mean ((X : Rat) + 1 - V lo) ((X : Rat) + 1 - V hi) := by grind
   rw [e3]
   grind
  ·rw [hval _ _ _ v8 v15 v16]
   simp only [totR]
   have e : 0 + (V d + (0 + 0)) - V d = 0 := by grind
   rw [e, z0]
   grind
  ·rw [hval _ _ _ v8 v15 v16]
   simp only [absR]
   rw [z0]
   grind
  ·have := ab_nonneg (V hi - V lo)
   simp only [List.length_cons, List.length_nil]
   push_cast
   grind
  ·intro p hpm
   simp only [List.mem_cons, List.not_mem_nil, or_false] at hpm
   rcases hpm with rfl | rfl | rfl <;> exact clamp_place _ _ _
 ·rw [hL]
  simp only [valL, List.map_cons, List.map_nil, totR, v8, v15, v16]
  grind
theorem rowT_tiny {d lo hi : Nat} (hl : XsG lo) (hh : XsG hi) (hd : Bd d 0) (h0 : V lo < 0) (h1 : 0 < V hi) (hw : V hi - V lo < p2 (-110)) (hw2 : p2 (-125) <= V hi - V lo) (hc : fce hi = ffl lo + 2) :
  (FrowTOk d lo hi /\ ∀ W base, ∀ p ∈ frowT W base d lo hi, F32 p.2) /\ ∀ W base B, 120 <= B -> RowNear (frowT W base d lo hi) W base (V d) (V lo) (V hi) B :=
 have h := rowT_tinyA hl hh hd h0 h1 hw hw2 hc
 ⟨h.1, h.2.1⟩
def WideAt0 (x xn : Nat) : Prop := (V x < 0 /\ 0 < V xn -> p2 (-125) <= V xn - V x) /\ (V xn < 0 /\ 0 < V x -> p2 (-125) <= V x - V xn)
theorem gap_int {lo : Nat} (hl : F32 lo) {k : Int} (hk : k ≠ 0) (h : V lo < k) : p2 (-110) <= (k : Rat) - V lo := by
 have ht := tiny110
 by_cases hbig : 1 / 2 <= ab (V lo)
 ·obtain ⟨n, q, e1', e2, e3, e4⟩ := val_rep hl
  have e1 : V lo = n * p2 q := e1'
  rw [binade_single] at e2 e3
  have hp := p2_pos q
  have hn : ab (n : Rat) <= ((16777216 : Nat) : Rat) := ab_int_le (by omega) (by omega)
  have hq : -25 <= q := by
   rw [e1, ab_mul, ab_of_nonneg (x := p2 q) (Rat.le_of_lt hp)] at hbig
   have k1 := Rat.mul_le_mul_of_nonneg_right hn (Rat.le_of_lt hp)
   push_cast at k1
   rcases Int.lt_or_le q (-25) with hc | hc
   ·have h1 := p2_mono (a := q) (b := -26) (by omega)
    have h26 : p2 (-26) = 1 / 67108864 := by have := p2_neg 26; push_cast at this ⊢; grind
    rw [h26] at h1
    exfalso
    clear h e1 e1' e2 e3 e4 hn hp h26 hl ht hc
    generalize p2 q = z at *
    generalize ab (n : Rat) * z = y at *
    grind
   ·exact hc
  have hg : Grid (-25) ((k : Rat) - V lo) := ((Grid.int k).up (by decide)).sub (Grid.up ⟨n, e1⟩ hq)
  exact Rat.le_trans (p2_mono (by decide)) (hg.pos (by grind))
 ·have h1 := ab_iff.1 (show ab (V lo) <= 1 / 2 by grind)
  have hk1 : 1 <= k := by
   rcases Int.lt_or_le 0 k with hc | hc
   ·omega
   ·have := castLe (show k <= -1 by omega)
    push_cast at this
    grind
  have := castLe hk1
  push_cast at this
  grind
theorem rowT_any {d lo hi : Nat} (hl : XsG lo) (hh : XsG hi) (hd : Bd d 0) (hlt : V lo < V hi) (hw : V lo < 0 /\ 0 < V hi -> p2 (-125) <= V hi - V lo) (hc : fce hi = ffl lo + 2) :
  (FrowTOk d lo hi /\ ∀ W base, ∀ p ∈ frowT W base d lo hi, F32 p.2) /\ ∀ W base B, 120 <= B -> RowNear (frowT W base d lo hi) W base (V d) (V lo) (V hi) B := by
 by_cases h110 : p2 (-110) <= V hi - V lo
 ·exact ⟨rowT_okG hl hh h110 hd, fun W base B hB => rowT_nearG hl hh hd hB hlt h110 hc⟩
 ·obtain ⟨_, el, l1, l2⟩ := hl.fl
  obtain ⟨_, eh, k1, k2⟩ := hh.ce
  obtain ⟨fl1, fl2⟩ := floor_near (V lo)
  obtain ⟨ce1, ce2⟩ := ceil_near (V hi)
  rw [<- el] at fl1 fl2
  rw [<- eh] at ce1 ce2
  have hcr : (fce hi : Rat) = (ffl lo : Rat) + 2 := by rw [hc]; push_cast; rfl
  have h0 : ffl lo + 1 = 0 := by
   apply Classical.byContradiction
   intro hk
   have := gap_int hl.bd.fin (k := ffl lo + 1) hk (by push_cast; exact fl2)
   push_cast at this
   grind
  have h1 : (ffl lo : Rat) = -1 := by
   have : ffl lo = -1 := by omega
   rw [this]; push_cast; rfl
  exact rowT_tiny hl hh hd (by grind) (by grind) (by grind) (hw ⟨by grind, by grind⟩) hc
theorem one_110 : p2 (-110) <= 1 := by have := tiny110; grind
theorem frow_nearG {W base x xn d : Nat} {B : Rat} (hx : XsG x) (hn : XsG xn) (hd : Bd d 0) (hw : WideAt0 x xn) (hB0 : 120 <= B) (hB1 : B <= 1024) (hbx : ab (V x) <= B) (hbn : ab (V xn) <= B) : RowNear (frow W base x xn d) W base (V d) (V x) (V xn) B := by
 have h110 := one_110
 unfold frow
 split
 ·rename_i hc
  exact rowN_nearG hx hn hd rfl hB0 hB1 hbx hbn hc
 ·rename_i hc
  rcases flo_fhi hx.bd.fin hn.bd.fin with ⟨e1, e2, h⟩ | ⟨e1, e2, h⟩
  ·rw [e1, e2] at hc ⊢
   obtain ⟨_, el, l1, l2⟩ := hx.fl
   obtain ⟨_, eh, h1, h2⟩ := hn.ce
   obtain ⟨fl1, fl2⟩ := floor_near (V x)
   obtain ⟨ce1, ce2⟩ := ceil_near (V xn)
   rw [<- el] at fl1 fl2
   rw [<- eh] at ce1 ce2
   have h3 := castLe (show ffl x + 2 <= fce xn by omega)
   push_cast at h3
   split
   ·exact (rowT_any hx hn hd (by grind) hw.1 (by omega)).2 W base B hB0
   ·have h4 := castLe (show ffl x + 3 <= fce xn by omega)
    push_cast at h4
    exact rowM_nearG hx hn hd hB0 hB1 hbx hbn (by grind) (by grind) (by omega)
  ·rw [e1, e2] at hc ⊢
   obtain ⟨_, el, l1, l2⟩ := hn.fl
   obtain ⟨_, eh, h1, h2⟩ := hx.ce
   obtain ⟨fl1, fl2⟩ := floor_near (V xn)
   obtain ⟨ce1, ce2⟩ := ceil_near (V x)
   rw [<- el] at fl1 fl2
   rw [<- eh] at ce1 ce2
   have h3 := castLe (show ffl xn + 2 <= fce x by omega)
   push_cast at h3
   split
   ·exact ((rowT_any hn hx hd (by grind) hw.2 (by omega)).2 W base B hB0).swap
   ·have h4 := castLe (show ffl xn + 3 <= fce x by omega)
    push_cast at h4
    exact (rowM_nearG hn hx hd hB0 hB1 hbn hbx (by grind) (by grind) (by omega)).swap
theorem row_okG {x xn d : Nat} {B : Rat} (hx : XsG x) (hn : XsG xn) (hd : Bd d 0) (hw : WideAt0 x xn) (hB0 : 120 <= B) (hB1 : B <= 1024) (hbx : ab (V x) <= B) (hbn : ab (V xn) <= B) : FrowOk x xn d /\ ∀ W base, ∀ p ∈ frow W base x xn d, Bd p.2 1 := by
 have h110 := one_110
 obtain ⟨hl, hh, hle, hbl, hbh, hw'⟩ : XsG (flo x xn) /\ XsG (fhi x xn) /\ V (flo x xn) <= V (fhi x xn) /\ ab (V (flo x xn)) <= B /\ ab (V (fhi x xn)) <= B /\ (V (flo x xn) < 0 /\ 0 < V (fhi x xn) -> p2 (-125) <= V (fhi x xn) - V (flo x xn)) := by
  rcases flo_fhi hx.bd.fin hn.bd.fin with ⟨e1, e2, h⟩ | ⟨e1, e2, h⟩ <;> rw [e1, e2]
  ·exact ⟨hx, hn, h, hbx, hbn, hw.1⟩
  ·exact ⟨hn, hx, h, hbn, hbx, hw.2⟩
 obtain ⟨f1, f2, f3, f4⟩ := hl.fl
 obtain ⟨c1, c2, c3, c4⟩ := hh.ce
 obtain ⟨fl1, fl2⟩ := floor_near (V (flo x xn))
 obtain ⟨ce1, ce2⟩ := ceil_near (V (fhi x xn))
 rw [<- f2] at fl1 fl2
 rw [<- c2] at ce1 ce2
 obtain ⟨a1, a2⟩ := ab_iff.1 hbl
 obtain ⟨b1, b2⟩ := ab_iff.1 hbh
 have hlt : ffl (flo x xn) + 2 <= fce (fhi x xn) -> V (flo x xn) < V (fhi x xn) := by
  intro hc
  have := castLe hc
  push_cast at this
  grind
 have hlt3 : ffl (flo x xn) + 3 <= fce (fhi x xn) -> p2 (-110) <= V (fhi x xn) - V (flo x xn) := by
  intro hc
  have := castLe hc
  push_cast at this
  grind
 have hc1 : fce (fhi x xn) - ffl (flo x xn) - 3 <= 4096 := by
  have h1 : ((fce (fhi x xn) - ffl (flo x xn) - 3 : Int) : Rat) <= ((4096 : Int) : Rat) := by push_cast; grind
  exact Rat.intCast_le_intCast.1 h1
 have hfin : ∀ W base, ∀ p ∈ frow W base x xn d, F32 p.2 := by
  intro W base p hp
  unfold frow at hp
  split at hp
  ·exact (rowN_okG hx hn hl hd).2 W base p hp
  ·split at hp
   ·exact (rowT_any hl hh hd (hlt (by omega)) hw' (by omega)).1.2 W base p hp
   ·exact (rowM_okG hl hh (hlt3 (by omega)) hd hc1 (by omega)).2 W base _ p hp
 refine ⟨⟨f1, c1, by omega, by omega, by omega, by omega, fun _ => (rowN_okG hx hn hl hd).1, fun h => (rowT_any hl hh hd (hlt (by omega)) hw' (by omega)).1.1, fun h => (rowM_okG hl hh (hlt3 (by omega)) hd hc1 (by omega)).1⟩, fun W base p hp => ?_⟩
 refine Bd.of (hfin W base p hp) ?_
 have RN := frow_nearG (W := W) (base := base) hx hn hd hw hB0 hB1 hbx hbn
 have h1 : (p.1, V p.2) ∈ valL (frow W base x xn d) := List.mem_map.2 ⟨p, hp, rfl⟩
 have h2 := absR_mem h1
 have h3 := RN.abs
 have hD : ab (V d) <= 1 := by have := hd.ab; rwa [p2_zero] at this
 rw [p2_one]
 show ab (V p.2) <= 2
 simp only at h2
 grind
def hg (A E : Rat) (y : Int) : Rat := if (y : Rat) <= A then A else if E <= y then E else y
def pr (r : Int) (t : Rat) : Rat := cl (t - r)
theorem pr_mono (r : Int) {s t : Rat} (h : s <= t) : pr r s <= pr r t := cl_mono (by grind)
theorem pr_cases (r : Int) (t : Rat) : (t <= r /\ pr r t = 0) ∨ (r < t /\ t <= r + 1 /\ pr r t = t - r) ∨ (r + 1 < t /\ pr r t = 1) := by
 unfold pr
 rcases cl_cases (t - r) with h | h | h
 ·exact .inl ⟨by grind, h.2.1⟩
 ·exact .inr (.inl ⟨by grind, by grind, h.2.2.1⟩)
 ·exact .inr (.inr ⟨by grind, h.2.1⟩)
theorem floor_row {A : Rat} {y : Int} (h : A.floor <= y) : A < y + 1 := by
 have h1 := (floor_near A).2
 have h2 := castLe h
 grind
theorem ceil_row {E : Rat} {y : Int} (h : y < ceilR E) : (y : Rat) < E := by
 have h1 := (ceil_near E).2
 have h2 := castLe (show y + 1 <= ceilR E by omega)
 push_cast at h2
 grind
theorem hg_row {A E : Rat} {y : Int} (hAE : A < E) (h1 : A.floor <= y) (h2 : y < ceilR E) :
  hg A E y = y + pr y A /\ hg A E (y + 1) = y + pr y E /\ 0 <= pr y E - pr y A /\ pr y E - pr y A <= 1 /\ A <= hg A E y /\ hg A E (y + 1) <= E := by
 have a1 := floor_row h1
 have a2 := ceil_row h2
 have b1 := pr_cases y A
 have b2 := pr_cases y E
 have e : ((y + 1 : Int) : Rat) = y + 1 := by push_cast; rfl
 unfold hg
 rw [e]
 refine ⟨?_, ?_, ?_, ?_, ?_, ?_⟩
 ·split
  ·grind
  ·split <;> grind
 ·split
  ·grind
  ·split <;> grind
 ·grind
 ·grind
 ·split
  ·grind
  ·split <;> grind
 ·split
  ·grind
  ·split <;> grind
theorem hg_first {A E : Rat} : hg A E A.floor = A := by
 unfold hg
 rw [if_pos (floor_near A).1]
theorem hg_bd {A E : Rat} (h : A <= E) (y : Int) : A <= hg A E y /\ hg A E y <= E := by
 unfold hg
 split
 ·exact ⟨Rat.le_refl, h⟩
 ·split
  ·exact ⟨h, Rat.le_refl⟩
  ·constructor <;> grind
structure GSpan (ax ay bx ey : Nat) (B : Rat) : Prop where
 fax : F32 ax
 fay : F32 ay
 fbx : F32 bx
 fey : F32 ey
 hax : ab (V ax) <= B - 1
 hbx : ab (V bx) <= B - 1
 hay : ab (V ay) <= 900
 hey : ab (V ey) <= 900
 gap : 1 / 1000001 <= V ey - V ay
 live : fle (fop .sub ey ay) 897988541 = false
 grid : Grid (-99) (V ax)
 slope : V (fop .quo (fop .sub bx ax) (fop .sub ey ay)) = 0 ∨ p2 (-101) <= ab (V (fop .quo (fop .sub bx ax) (fop .sub ey ay)))
def slW (ax ay bx ey : Nat) : Nat := fop .quo (fop .sub bx ax) (fop .sub ey ay)
def slG (ax ay bx ey : Nat) : Rat := (V bx - V ax) / (V ey - V ay)
def lnG (dir ax ay bx ey : Nat) : GL := ⟨ay, ey, dir, slW ax ay bx ey⟩
theorem quot_ratG {X D S s h dx q t u : Rat} (hu : u = 1 / 16777216) (ht : t = 1 / 100000000000000000000000000000000000000000000) (hh : 1 / 1000001 <= h) (hh2 : h <= 2000) (hdx : ab dx <= 2400) (hs : s * h = dx) (hX : ab (X - dx) <= ab dx * u + t) (hD : ab (D - h) <= h * u + t)
  (hq : q * D = X) (hS : ab (S - q) <= ab q * u + t) : ab (S - s) <= ab s * (31 / 10 * u) + 1 / 10000000000000000000000000000 /\ ab s <= 2500000000 := by
 obtain ⟨d1, d2⟩ := ab_iff.1 hD
 have hD0 : 1 / 2000000 <= D := by subst hu ht; grind
 have hD1 : D <= 2001 := by subst hu ht; grind
 have hs0 := ab_nonneg s
 have hsh : ab s * h = ab dx := by rw [<- hs, ab_mul, ab_of_nonneg (x := h) (by grind)]
 have hsb : ab s <= 2500000000 := by
  have m1 := Rat.mul_le_mul_of_nonneg_left hh hs0
  grind
 have hX2 : ab X <= ab s * h * (1 + u) + t := by
  have k := ab_add_le (X - dx) dx
  have e : X - dx + dx = X := by grind
  rw [e] at k
  rw [hsh]
  grind
 have hSD : ab (S * D - X) <= ab X * u + t * D := by
  have e : S * D - X = (S - q) * D := by rw [<- hq]; grind
  rw [e, ab_mul, ab_of_nonneg (x := D) (by grind)]
  have m1 := Rat.mul_le_mul_of_nonneg_right hS (show 0 <= D by grind)
  have e2 : (ab q * u + t) * D = ab q * D * u + t * D := by grind
  have e3 : ab q * D = ab X := by rw [<- hq, ab_mul, ab_of_nonneg (x := D) (by grind)]
  rw [e2, e3] at m1
  exact m1
 have e4 : (S - s) * D = (S * D - X) + ((X - dx) + s * (h - D)) := by rw [<- hs]; grind
 have k1 := ab_add_le (S * D - X) ((X - dx) + s * (h - D))
 have k2 := ab_add_le (X - dx) (s * (h - D))
 have k3 : ab (s * (h - D)) <= ab s * (h * u + t) := by
  refine ab_mul_le Rat.le_refl ?_
  have e : h - D = -(D - h) := by grind
  rw [e, ab_neg]
  exact hD
 have k4 : ab (S - s) * D <= ab s * h * (3 * u + u * u) + (ab s * t + 3000 * t) := by
  have e5 : ab (S - s) * D = ab ((S - s) * D) := by rw [ab_mul, ab_of_nonneg (x := D) (by grind)]
  rw [e5, e4]
  have m1 := Rat.mul_le_mul_of_nonneg_right hX2 (show 0 <= u by subst hu; decide +kernel)
  have m2 := Rat.mul_le_mul_of_nonneg_left hD1 (show 0 <= t by subst ht; decide +kernel)
  rw [<- hsh] at hX
  have e6 : ab s * (h * u + t) = ab s * h * u + ab s * t := by grind
  rw [e6] at k3
  generalize ab s * h = sh at *
  generalize ab s * t = st at *
  subst hu ht
  grind
 have m3 := Rat.mul_le_mul_of_nonneg_left (show h <= D * (1 + 2 * u) by subst hu ht; grind) hs0
 refine ⟨?_, hsb⟩
 refine Rat.le_of_mul_le_mul_right (c := D) ?_ (by grind)
 have e7 : (ab s * (31 / 10 * u) + 1 / 10000000000000000000000000000) * D = ab s * D * (31 / 10 * u) + D / 10000000000000000000000000000 := by grind
 rw [e7]
 have e8 : ab s * (D * (1 + 2 * u)) = ab s * D * (1 + 2 * u) := by grind
 rw [e8] at m3
 have hsD := Rat.mul_nonneg hs0 (show 0 <= D by grind)
 have m4 := Rat.mul_le_mul_of_nonneg_right m3 (show 0 <= 3 * u + u * u by subst hu; decide +kernel)
 have m5 := Rat.mul_le_mul_of_nonneg_right hsb (show 0 <= t by subst ht; decide +kernel)
 generalize ab s * h = sh at *
 generalize ab s * D = sD at *
 generalize ab s * t = st at *
 generalize ab (S - s) * D = z at *
 clear e4 e7 e8 k1 k2 k3 hSD hX hX2 hS hq hs hsh hdx d1 d2 hD
 subst hu ht
 grind
section
variable {ax ay bx ey : Nat} {B : Rat} (h : GSpan ax ay bx ey B)
include h
theorem GSpan.rows (hB1 : B <= 1024) : slG ax ay bx ey * (V ey - V ay) = V bx - V ax /\ ab (V bx - V ax) <= 2 * (B - 1) /\ V ay < V ey := by
 have hg := h.gap
 have k := ab_sub_le (V bx) (V ax)
 have := h.hax
 have := h.hbx
 refine ⟨?_, by grind, by grind⟩
 unfold slG
 rw [Rat.div_mul_cancel (by grind)]
theorem GSpan.slope_ok (hB1 : B <= 1024) : Fok .sub ey ay /\ Fok .sub bx ax /\ Fok .quo (fop .sub bx ax) (fop .sub ey ay) /\ F32 (slW ax ay bx ey) /\ fle (fop .sub ey ay) 897988541 = false /\
  ab (V (slW ax ay bx ey) - slG ax ay bx ey) <= ab (slG ax ay bx ey) * (31 / 10 * (1 / 16777216)) + 1 / 10000000000000000000000000000 /\ ab (slG ax ay bx ey) <= 2500000000 := by
 obtain ⟨e1, e2, e3⟩ := h.rows hB1
 have hgap := h.gap
 obtain ⟨y1, y2⟩ := ab_iff.1 h.hay
 obtain ⟨y3, y4⟩ := ab_iff.1 h.hey
 obtain ⟨q1, r1⟩ := fsub_ok h.fey h.fay (big126 (ab_le (by grind) (by grind)))
 obtain ⟨q2, r2⟩ := fsub_ok h.fbx h.fax (big126 (by grind))
 have n1 := r1.nearG.2
 have n2 := r2.nearG.2
 rw [ab_of_nonneg (x := V ey - V ay) (by grind)] at n1
 obtain ⟨d1, d2⟩ := ab_iff.1 n1
 have hD : 1 / 2000000 <= V (fop .sub ey ay) := by grind
 have hX : ab (V (fop .sub bx ax)) <= 5000 := by
  have k := ab_add_le (V (fop .sub bx ax) - (V bx - V ax)) (V bx - V ax)
  have e : V (fop .sub bx ax) - (V bx - V ax) + (V bx - V ax) = V (fop .sub bx ax) := by grind
  rw [e] at k
  grind
 obtain ⟨q3, r3⟩ := fquo_ok r2.fin r1.fin (by grind) (by
  rw [ab_of_nonneg (x := V (fop .sub ey ay)) (by grind)]
  have h4 : (1000000000000000000000000000000 : Rat) <= p2 125 := big125 Rat.le_refl
  have m1 := Rat.mul_le_mul_of_nonneg_right h4 (show 0 <= V (fop .sub ey ay) by grind)
  grind)
 have n3 := r3.nearG.2
 have hle := h.live
 have hh2 : V ey - V ay <= 2000 := by grind
 obtain ⟨f1, f2⟩ := quot_ratG (X := V (fop .sub bx ax)) (D := V (fop .sub ey ay)) (S := V (slW ax ay bx ey)) (s := slG ax ay bx ey) (h := V ey - V ay) (dx := V bx - V ax) (q := V (fop .sub bx ax) / V (fop .sub ey ay)) rfl rfl hgap hh2 (by grind) e1 n2 n1
  (by rw [Rat.div_mul_cancel (by grind)]) n3
 exact ⟨q1, q2, q3, r3.fin, hle, f1, f2⟩
theorem GSpan.dyR (dir : Nat) {y : Int} (hB1 : B <= 1024) (h1 : (V ay).floor <= y) (h2 : y < ceilR (V ey)) :
  Fok .sub (fmin (floatOfInt .f32 (y + 1)) ey) (fmax (floatOfInt .f32 y) ay) /\ R32 (pr y (V ey) - pr y (V ay)) ((lnG dir ax ay bx ey).dy y) := by
 obtain ⟨_, _, hlt⟩ := h.rows hB1
 obtain ⟨g1, g2, g3, g4, _, _⟩ := hg_row hlt h1 h2
 have a1 := floor_row h1
 have a2 := ceil_row h2
 obtain ⟨y1, y2⟩ := ab_iff.1 h.hay
 obtain ⟨y3, y4⟩ := ab_iff.1 h.hey
 have b1 : ((-2000 : Int) : Rat) < ((y : Int) : Rat) := by push_cast; grind
 have b2 : ((y : Int) : Rat) < ((2000 : Int) : Rat) := by push_cast; grind
 have b3 := Rat.intCast_lt_intCast.1 b1
 have b4 := Rat.intCast_lt_intCast.1 b2
 obtain ⟨i1, i2⟩ := ofInt_any (n := y) (by omega) (by omega)
 obtain ⟨j1, j2⟩ := ofInt_any (n := y + 1) (by omega) (by omega)
 have hmin : F32 (fmin (floatOfInt .f32 (y + 1)) ey) /\ V (fmin (floatOfInt .f32 (y + 1)) ey) = hg (V ay) (V ey) (y + 1) := by
  have e : ((y + 1 : Int) : Rat) = y + 1 := by push_cast; rfl
  unfold fmin hg
  by_cases hc : flt (floatOfInt .f32 (y + 1)) ey = true
  ·rw [if_pos hc]
   rw [flt_iff j1 h.fey, j2] at hc
   rw [if_neg (by grind), if_neg (by grind)]
   exact ⟨j1, j2⟩
  ·rw [if_neg hc]
   rw [flt_iff j1 h.fey, j2] at hc
   rw [if_neg (by grind), if_pos (by grind)]
   exact ⟨h.fey, rfl⟩
 have hmax : F32 (fmax (floatOfInt .f32 y) ay) /\ V (fmax (floatOfInt .f32 y) ay) = hg (V ay) (V ey) y := by
  unfold fmax hg
  by_cases hc : fgt (floatOfInt .f32 y) ay = true
  ·rw [if_pos hc]
   rw [fgt_iff i1 h.fay, i2] at hc
   rw [if_neg (by grind), if_neg (by grind)]
   exact ⟨i1, i2⟩
  ·rw [if_neg hc]
   rw [fgt_iff i1 h.fay, i2] at hc
   rw [if_pos (by grind)]
   exact ⟨h.fay, rfl⟩
 have e : pr y (V ey) - pr y (V ay) = V (fmin (floatOfInt .f32 (y + 1)) ey) - V (fmax (floatOfInt .f32 y) ay) := by rw [hmin.2, hmax.2, g1, g2]; grind
 rw [e]
 obtain ⟨q, r⟩ := fsub_ok hmin.1 hmax.1 (by rw [<- e]; exact big126 (ab_le (by grind) (by grind)))
 exact ⟨q, r⟩
end
theorem big_grid {a : Nat} (ha : F32 a) (h : p2 (-101) <= ab (V a)) : Grid (-125) (V a) := by
 obtain ⟨n, q, e1', e2, e3, e4⟩ := val_rep ha
 have e1 : V a = n * p2 q := e1'
 rw [binade_single] at e2 e3
 have hp := p2_pos q
 refine Grid.up ⟨n, e1⟩ ?_
 rcases Int.lt_or_le q (-125) with hc | hc
 ·exfalso
  have hn : ab (n : Rat) <= ((16777216 : Nat) : Rat) := ab_int_le (by omega) (by omega)
  have m1 := Rat.mul_le_mul_of_nonneg_right hn (Rat.le_of_lt hp)
  have h24 : ((16777216 : Nat) : Rat) = p2 24 := by
   have : p2 ((24 : Nat) : Int) = ((2 ^ 24 : Nat) : Rat) := p2_nat 24
   rw [show p2 24 = p2 ((24 : Nat) : Int) from rfl, this]
  rw [h24, <- p2_add] at m1
  have m2 := p2_mono (a := 24 + q) (b := -102) (by omega)
  have m3 : p2 (-101) = 2 * p2 (-102) := by rw [<- p2_succ]; rfl
  have m4 := p2_pos (-102)
  rw [e1, ab_mul, ab_of_nonneg (x := p2 q) (Rat.le_of_lt hp)] at h
  grind
 ·exact hc
def NZ (S : Nat) (x : Nat) : Prop := (0 <= V S -> 0 <= V x ∨ Grid (-125) (V x)) /\ (V S <= 0 -> V x <= 0 ∨ Grid (-125) (V x))
theorem p2_94 : p2 (-99) = 2 * p2 (-100) /\ p2 (-101) <= p2 (-100) := ⟨by rw [<- p2_succ]; rfl, p2_mono (by decide)⟩
theorem NZ.step {S x P xn : Nat} (hz : NZ S x) (hP : F32 P) (hn : F32 xn) (hsum : R32 (V x + V P) xn) (hs : (0 <= V S -> 0 <= V P) /\ (V S <= 0 -> V P <= 0)) (hg : V P = 0 ∨ p2 (-101) <= ab (V P) ∨ Grid (-99) (V x)) : NZ S xn := by
 obtain ⟨p1, p2'⟩ := p2_94
 have p3 := p2_pos (-94)
 have gridP : V P = 0 -> Grid (-125) (V P) := fun h => by rw [h]; exact ⟨0, by rw [cast_zero]; grind⟩
 constructor
 ·intro hS
  have hP0 := hs.1 hS
  rcases hz.1 hS with hx | hx
  ·exact .inl (hsum.nonneg (by grind))
  ·rcases hg with hg | hg | hg
   ·exact .inr ((hx.add (gridP hg)).round hsum (by decide))
   ·exact .inr ((hx.add (big_grid hP hg)).round hsum (by decide))
   ·by_cases hx0 : 0 <= V x
    ·exact .inl (hsum.nonneg (by grind))
    ·by_cases hb : p2 (-101) <= ab (V P)
     ·exact .inr ((hx.add (big_grid hP hb)).round hsum (by decide))
     ·have hpos : p2 (-99) <= -V x := by
       refine Grid.pos ?_ (by grind)
       obtain ⟨k, hk⟩ := hg
       exact ⟨-k, by rw [hk]; push_cast; grind⟩
      rw [ab_of_nonneg hP0] at hb
      have := hsum.le (n := -1) (q := -100) (by rw [show ((-1 : Int) : Rat) = -1 from rfl]; grind) (by decide) (by decide) (by decide)
      rw [show ((-1 : Int) : Rat) = -1 from rfl] at this
      refine .inr (big_grid hn ?_)
      rw [ab_of_nonpos (by grind)]
      grind
 ·intro hS
  have hP0 := hs.2 hS
  rcases hz.2 hS with hx | hx
  ·exact .inl (hsum.nonpos (by grind))
  ·rcases hg with hg | hg | hg
   ·exact .inr ((hx.add (gridP hg)).round hsum (by decide))
   ·exact .inr ((hx.add (big_grid hP hg)).round hsum (by decide))
   ·by_cases hx0 : V x <= 0
    ·exact .inl (hsum.nonpos (by grind))
    ·by_cases hb : p2 (-101) <= ab (V P)
     ·exact .inr ((hx.add (big_grid hP hb)).round hsum (by decide))
     ·have hpos : p2 (-99) <= V x := hg.pos (by grind)
      rw [ab_of_nonpos hP0] at hb
      have := hsum.ge (n := 1) (q := -100) (by rw [show ((1 : Int) : Rat) = 1 from rfl]; grind) (by decide) (by decide) (by decide)
      rw [show ((1 : Int) : Rat) = 1 from rfl] at this
      refine .inr (big_grid hn ?_)
      rw [ab_of_nonneg (by grind)]
      grind
theorem NZ.wide {S x P xn : Nat} (hz : NZ S x) (hsum : R32 (V x + V P) xn) (hs : (0 <= V S -> 0 <= V P) /\ (V S <= 0 -> V P <= 0)) : WideAt0 x xn := by
 constructor
 ·rintro ⟨h1, h2⟩
  have hS : 0 <= V S := by
   rcases Rat.le_total (a := 0) (b := V S) with c | c
   ·exact c
   ·have := hsum.nonpos (by have := hs.2 c; grind)
    grind
  rcases hz.1 hS with hx | hx
  ·grind
  ·have : p2 (-125) <= -V x := by
    refine Grid.pos ?_ (by grind)
    obtain ⟨k, hk⟩ := hx
    exact ⟨-k, by rw [hk]; push_cast; grind⟩
   grind
 ·rintro ⟨h1, h2⟩
  have hS : V S <= 0 := by
   rcases Rat.le_total (a := 0) (b := V S) with c | c
   ·have := hsum.nonneg (by have := hs.1 c; grind)
    grind
   ·exact c
  rcases hz.2 hS with hx | hx
  ·grind
  ·have := hx.pos (by grind)
   grind
structure OnG (ax ay bx ey : Nat) (B : Rat) (n : Nat) (y : Int) (x : Nat) : Prop where
 xs : XsG x
 near : ab (V x - (V ax + slG ax ay bx ey * (hg (V ay) (V ey) y - V ay))) <= ab (slG ax ay bx ey) * (hg (V ay) (V ey) y - V ay) * (6 / 16777216) + n * (B / 16777216)
 nz : (y : Rat) < V ey -> NZ (slW ax ay bx ey) x
 first : (y : Rat) <= V ay -> x = ax
theorem prod_ratG {S s k D P u : Rat} (hu : u = 1 / 16777216) (hk0 : 0 <= k) (hk1 : k <= 1) (hsb : ab s <= 2500000000) (hS : ab (S - s) <= ab s * (31 / 10 * u) + 1 / 10000000000000000000000000000)
  (hD : ab (D - k) <= k * u + 1 / 100000000000000000000000000000000000000000000) (hP : ab (P - D * S) <= ab (D * S) * u + 1 / 100000000000000000000000000000000000000000000) :
  ab (P - s * k) <= ab s * k * (6 * u) + 1 / 1000000000000000000000000000 := by
 have hs0 := ab_nonneg s
 have hu0 : 0 < u := by subst hu; decide +kernel
 have k1 := ab_add_le (S - s) s
 have e1 : S - s + s = S := by grind
 rw [e1] at k1
 have hSb : ab S <= ab s * (1 + 4 * u) + 1 / 10000000000000000000000000000 := by
  have m1 := Rat.mul_nonneg hs0 (Rat.le_of_lt hu0)
  grind
 have e2 : D * S - s * k = (D - k) * S + k * (S - s) := by grind
 have k2 := ab_add_le ((D - k) * S) (k * (S - s))
 rw [<- e2] at k2
 have hSB : ab S <= 2600000000 := by subst hu; grind
 have k3 : ab ((D - k) * S) <= (k * u + 1 / 100000000000000000000000000000000000000000000) * ab S := ab_mul_le hD Rat.le_refl
 have k4 : ab (k * (S - s)) <= k * (ab s * (31 / 10 * u) + 1 / 10000000000000000000000000000) := ab_mul_le (by rw [ab_of_nonneg hk0]; exact Rat.le_refl) hS
 have hku : 0 <= k * u := Rat.mul_nonneg hk0 (Rat.le_of_lt hu0)
 have k5 := Rat.mul_le_mul_of_nonneg_left hSb hku
 have hsk := Rat.mul_nonneg hs0 hk0
 have e5 : k * u * (ab s * (1 + 4 * u) + 1 / 10000000000000000000000000000) = ab s * k * (u + 4 * (u * u)) + k * (u * (1 / 10000000000000000000000000000)) := by grind
 have e6 : (k * u + 1 / 100000000000000000000000000000000000000000000) * ab S = k * u * ab S + ab S / 100000000000000000000000000000000000000000000 := by grind
 have e7 : k * (ab s * (31 / 10 * u) + 1 / 10000000000000000000000000000) = ab s * k * (31 / 10 * u) + k / 10000000000000000000000000000 := by grind
 rw [e5] at k5
 rw [e6] at k3
 rw [e7] at k4
 have k6 : ab (D * S - s * k) <= ab s * k * (41 / 10 * u + 4 * (u * u)) + 1 / 4000000000000000000000000000 := by
  generalize ab s * k = sk at *
  subst hu
  grind
 have k7 : ab (D * S) <= ab s * k * (1 + 5 * u) + 1 / 2000000000000000000000000000 := by
  have k8 := ab_add_le (D * S - s * k) (s * k)
  have e8 : D * S - s * k + s * k = D * S := by grind
  rw [e8, ab_mul s k, ab_of_nonneg hk0] at k8
  generalize ab s * k = sk at *
  subst hu
  grind
 have e9 : P - s * k = (P - D * S) + (D * S - s * k) := by grind
 rw [e9]
 have k10 := ab_add_le (P - D * S) (D * S - s * k)
 have k11 := Rat.mul_le_mul_of_nonneg_right k7 (Rat.le_of_lt hu0)
 generalize ab s * k = sk at *
 clear e1 e2 e5 e6 e7 e9 k1 k2 k3 k4 k5 hS hD hSb hsb hSB
 subst hu
 grind
section
variable {ax ay bx ey : Nat} {B : Rat} (h : GSpan ax ay bx ey B) (hB0 : 120 <= B) (hB1 : B <= 1024)
include h hB1
theorem GSpan.exact_bd {t : Rat} (h0 : 0 <= t) (h1 : t <= V ey - V ay) : ab (V ax + slG ax ay bx ey * t) <= B - 1 /\ ab (slG ax ay bx ey) * t <= 2 * (B - 1) := by
 obtain ⟨e, e2, e3⟩ := h.rows hB1
 obtain ⟨a1, a2⟩ := ab_iff.1 h.hax
 obtain ⟨b1, b2⟩ := ab_iff.1 h.hbx
 generalize slG ax ay bx ey = S at *
 rcases Rat.le_total (a := 0) (b := S) with hS | hS
 ·have c1 := Rat.mul_nonneg hS h0
  have c2 := Rat.mul_le_mul_of_nonneg_left h1 hS
  rw [ab_of_nonneg hS]
  exact ⟨ab_le (by grind) (by grind), by grind⟩
 ·have c1 := Rat.mul_nonneg (a := -S) (by grind) h0
  have c2 := Rat.mul_le_mul_of_nonneg_left (c := -S) h1 (by grind)
  rw [ab_of_nonpos hS]
  exact ⟨ab_le (by grind) (by grind), by grind⟩
include hB0
theorem OnG.bd {n : Nat} {y : Int} {x : Nat} (ho : OnG ax ay bx ey B n y x) (hn : n <= 2000) : ab (V x) <= B - 4 / 5 := by
 obtain ⟨_, _, hlt⟩ := h.rows hB1
 obtain ⟨g1, g2⟩ := hg_bd (Rat.le_of_lt hlt) y
 obtain ⟨b1, b2⟩ := h.exact_bd hB1 (t := hg (V ay) (V ey) y - V ay) (by grind) (by grind)
 have hn' : (n : Rat) <= 2000 := by exact_mod_cast hn
 have hn0 : (0 : Rat) <= n := by exact_mod_cast Nat.zero_le n
 have k := ab_add_le (V x - (V ax + slG ax ay bx ey * (hg (V ay) (V ey) y - V ay))) (V ax + slG ax ay bx ey * (hg (V ay) (V ey) y - V ay))
 have e : V x - (V ax + slG ax ay bx ey * (hg (V ay) (V ey) y - V ay)) + (V ax + slG ax ay bx ey * (hg (V ay) (V ey) y - V ay)) = V x := by grind
 rw [e] at k
 have hnB : (n : Rat) * (B / 16777216) <= 2000 * (1024 / 16777216) := by
  have m1 := Rat.mul_le_mul_of_nonneg_right hn' (show (0 : Rat) <= B / 16777216 by grind)
  grind
 have := ho.near
 grind
omit hB0 in
theorem OnG.start : OnG ax ay bx ey B 0 (V ay).floor ax := by
 have hb : ab (V ax) <= p2 15 := by rw [p2_15]; have := h.hax; grind
 refine ⟨⟨Bd.of h.fax hb⟩, ?_, fun _ => ⟨fun _ => .inr (h.grid.up (by decide)), fun _ => .inr (h.grid.up (by decide))⟩, fun _ => rfl⟩
 rw [hg_first]
 have e : V ax - (V ax + slG ax ay bx ey * (V ay - V ay)) = 0 := by grind
 rw [e]
 have z0 : ab (0 : Rat) = 0 := by decide +kernel
 rw [z0]
 push_cast
 grind
theorem OnG.next {n : Nat} {y : Int} {x dir : Nat} (ho : OnG ax ay bx ey B n y x) (h1 : (V ay).floor <= y) (h2 : y < ceilR (V ey)) (hn : n + 1 <= 2000) :
  (Fok .sub (fmin (floatOfInt .f32 (y + 1)) ey) (fmax (floatOfInt .f32 y) ay) /\ Fok .mul ((lnG dir ax ay bx ey).dy y) (slW ax ay bx ey) /\ Fok .add x (fop .mul ((lnG dir ax ay bx ey).dy y) (slW ax ay bx ey)) /\
   R32 (pr y (V ey) - pr y (V ay)) ((lnG dir ax ay bx ey).dy y)) /\
  OnG ax ay bx ey B (n + 1) (y + 1) ((lnG dir ax ay bx ey).nx y x) /\ WideAt0 x ((lnG dir ax ay bx ey).nx y x) /\
  ab (V ((lnG dir ax ay bx ey).nx y x) - V x) <= ab (slG ax ay bx ey) * (pr y (V ey) - pr y (V ay)) * (1000001 / 1000000) + 1 / 10000 := by
 obtain ⟨sl1, _, hlt⟩ := h.rows hB1
 obtain ⟨g1, g2, g3, g4, g5, g6⟩ := hg_row hlt h1 h2
 obtain ⟨q1, r1⟩ := h.dyR dir hB1 h1 h2
 obtain ⟨_, _, _, fS, _, s1, s2⟩ := h.slope_ok hB1
 have hbo := ho.bd h hB0 hB1 (by omega)
 have hdir : (lnG dir ax ay bx ey).nx y x = fop .add x (fop .mul ((lnG dir ax ay bx ey).dy y) (slW ax ay bx ey)) := rfl
 rw [hdir]
 generalize (lnG dir ax ay bx ey).dy y = dy at *
 have hon := ho.near
 have hhE := h.slope
 have hslW : fop .quo (fop .sub bx ax) (fop .sub ey ay) = slW ax ay bx ey := rfl
 rw [hslW] at hhE
 obtain ⟨k, hk⟩ : ∃ k, k = pr y (V ey) - pr y (V ay) := ⟨_, rfl⟩
 rw [<- hk] at g3 g4 r1 ⊢
 have hstep : hg (V ay) (V ey) (y + 1) = hg (V ay) (V ey) y + k := by rw [g1, g2, hk]; grind
 obtain ⟨x1, x2⟩ := h.exact_bd hB1 (t := hg (V ay) (V ey) (y + 1) - V ay) (by grind) (by grind)
 obtain ⟨x3, x4⟩ := h.exact_bd hB1 (t := k) g3 (by grind)
 obtain ⟨x5, x6⟩ := h.exact_bd hB1 (t := hg (V ay) (V ey) y - V ay) (by grind) (by grind)
 have nD := r1.nearG.2
 rw [ab_of_nonneg g3] at nD
 have hdy0 := r1.nonneg g3
 have hSb : ab (V (slW ax ay bx ey)) <= 3000000000 := by
  have k1 := ab_add_le (V (slW ax ay bx ey) - slG ax ay bx ey) (slG ax ay bx ey)
  have e1 : V (slW ax ay bx ey) - slG ax ay bx ey + slG ax ay bx ey = V (slW ax ay bx ey) := by grind
  rw [e1] at k1
  grind
 have hdyb : ab (V dy) <= 2 := by
  obtain ⟨c1, c2⟩ := ab_iff.1 nD
  rw [ab_of_nonneg hdy0]
  grind
 obtain ⟨q2, r2⟩ := fmul_ok r1.fin fS (big126 (by
  have : ab (V dy * V (slW ax ay bx ey)) <= 2 * 3000000000 := ab_mul_le hdyb hSb
  grind))
 have nP := r2.nearG.2
 have hpr := prod_ratG rfl g3 g4 s2 s1 nD nP
 have hsign : (0 <= V (slW ax ay bx ey) -> 0 <= V (fop .mul dy (slW ax ay bx ey))) /\ (V (slW ax ay bx ey) <= 0 -> V (fop .mul dy (slW ax ay bx ey)) <= 0) := by
  refine ⟨fun c => r2.nonneg (Rat.mul_nonneg hdy0 c), fun c => r2.nonpos ?_⟩
  have := Rat.mul_nonneg hdy0 (show 0 <= -V (slW ax ay bx ey) by grind)
  grind
 have hPv : V dy = 1 -> V (fop .mul dy (slW ax ay bx ey)) = V (slW ax ay bx ey) := fun c => eq_self32 fS (by rw [c]; grind) r2
 have hfP := r2.fin
 generalize fop .mul dy (slW ax ay bx ey) = P at *
 have hPb : ab (V P) <= 3 * B := by
  have k1 := ab_add_le (V P - slG ax ay bx ey * k) (slG ax ay bx ey * k)
  have e1 : V P - slG ax ay bx ey * k + slG ax ay bx ey * k = V P := by grind
  rw [e1, ab_mul (slG ax ay bx ey) k, ab_of_nonneg g3] at k1
  grind
 have hsb : ab (V x + V P) <= 4 * B := by
  have := ab_add_le (V x) (V P)
  grind
 obtain ⟨q3, r3⟩ := fadd_ok ho.xs.bd.fin hfP (big126 (by grind))
 have n3 := r3.near5.2
 have hsk := Rat.mul_nonneg (ab_nonneg (slG ax ay bx ey)) g3
 have hsp := Rat.mul_nonneg (ab_nonneg (slG ax ay bx ey)) (show 0 <= hg (V ay) (V ey) y - V ay by grind)
 have hn' : (n : Rat) <= 2000 := by exact_mod_cast (show n <= 2000 by omega)
 have hn0 : (0 : Rat) <= n := by exact_mod_cast Nat.zero_le n
 have hnB : (n : Rat) * (B / 16777216) <= 2000 * (1024 / 16777216) := by
  have m1 := Rat.mul_le_mul_of_nonneg_right hn' (show (0 : Rat) <= B / 16777216 by grind)
  grind
 have hsumE : ab (V x + V P - (V ax + slG ax ay bx ey * (hg (V ay) (V ey) (y + 1) - V ay))) <= ab (slG ax ay bx ey) * (hg (V ay) (V ey) (y + 1) - V ay) * (6 / 16777216) + n * (B / 16777216) + 1 / 1000000000000000000000000000 := by
  rw [hstep]
  have e : V x + V P - (V ax + slG ax ay bx ey * (hg (V ay) (V ey) y + k - V ay)) = (V x - (V ax + slG ax ay bx ey * (hg (V ay) (V ey) y - V ay))) + (V P - slG ax ay bx ey * k) := by grind
  rw [e]
  have k1 := ab_add_le (V x - (V ax + slG ax ay bx ey * (hg (V ay) (V ey) y - V ay))) (V P - slG ax ay bx ey * k)
  have e2 : ab (slG ax ay bx ey) * (hg (V ay) (V ey) y + k - V ay) = ab (slG ax ay bx ey) * (hg (V ay) (V ey) y - V ay) + ab (slG ax ay bx ey) * k := by grind
  rw [e2]
  grind
 have hxP : ab (V x + V P) <= B - 4 / 5 := by
  have k1 := ab_add_le (V x + V P - (V ax + slG ax ay bx ey * (hg (V ay) (V ey) (y + 1) - V ay))) (V ax + slG ax ay bx ey * (hg (V ay) (V ey) (y + 1) - V ay))
  have e : V x + V P - (V ax + slG ax ay bx ey * (hg (V ay) (V ey) (y + 1) - V ay)) + (V ax + slG ax ay bx ey * (hg (V ay) (V ey) (y + 1) - V ay)) = V x + V P := by grind
  rw [e] at k1
  grind
 have hrnd : ab (V (fop .add x P) - (V x + V P)) <= (B - 4 / 5) / 16777216 + 1 / 1000000000000000000000000000000 := by grind
 have hout : ab (V (fop .add x P)) <= p2 15 := by
  rw [p2_15]
  have k1 := ab_add_le (V (fop .add x P) - (V x + V P)) (V x + V P)
  have e : V (fop .add x P) - (V x + V P) + (V x + V P) = V (fop .add x P) := by grind
  rw [e] at k1
  grind
 have a1 := floor_row h1
 have a2 := ceil_row h2
 have hnz := ho.nz a2
 refine ⟨⟨q1, q2, q3, r1⟩, ⟨⟨Bd.of r3.fin hout⟩, ?_, fun hy => ?_, fun hy => ?_⟩, hnz.wide r3 hsign, ?_⟩
 ·have e : V (fop .add x P) - (V ax + slG ax ay bx ey * (hg (V ay) (V ey) (y + 1) - V ay)) = (V (fop .add x P) - (V x + V P)) + (V x + V P - (V ax + slG ax ay bx ey * (hg (V ay) (V ey) (y + 1) - V ay))) := by grind
  rw [e]
  have k1 := ab_add_le (V (fop .add x P) - (V x + V P)) (V x + V P - (V ax + slG ax ay bx ey * (hg (V ay) (V ey) (y + 1) - V ay)))
  have e3 : ((n + 1 : Nat) : Rat) * (B / 16777216) = (n : Rat) * (B / 16777216) + B / 16777216 := by push_cast; grind
  rw [e3]
  grind
 ·push_cast at hy
  refine hnz.step hfP r3.fin r3 hsign ?_
  rcases hhE with hz | hz
  ·refine .inl ?_
   have c1 := hsign.1 (by rw [hz]; exact Rat.le_refl)
   have c2 := hsign.2 (by rw [hz]; exact Rat.le_refl)
   grind
  ·by_cases hf : (y : Rat) <= V ay
   ·refine .inr (.inr ?_)
    rw [ho.first hf]
    exact h.grid
   ·
    refine .inr (.inl ?_)
    have k1 : k = 1 := by
     rcases pr_cases y (V ay) with c | c | c
     ·rcases pr_cases y (V ey) with d | d | d <;> grind
     ·grind
     ·grind
    have : V dy = 1 := by
     rw [k1] at r1
     have := r1.eq (n := 1) (q := 0) (by rw [p2_zero]; push_cast; grind) (by decide) (by decide) (by decide)
     exact this
    rw [hPv this]
    exact hz
 ·push_cast at hy
  grind
 ·have e : V (fop .add x P) - V x = (V (fop .add x P) - (V x + V P)) + ((V P - slG ax ay bx ey * k) + slG ax ay bx ey * k) := by grind
  rw [e]
  have k1 := ab_add_le (V (fop .add x P) - (V x + V P)) ((V P - slG ax ay bx ey * k) + slG ax ay bx ey * k)
  have k2 := ab_add_le (V P - slG ax ay bx ey * k) (slG ax ay bx ey * k)
  rw [ab_mul (slG ax ay bx ey) k, ab_of_nonneg g3] at k2
  grind
end
structure DirW (dir : Nat) (σ : Rat) : Prop where
 fin : F32 dir
 val : V dir = σ
 one : σ = 1 ∨ σ = -1
theorem DirW.down : DirW 1065353216 1 := ⟨fone.1.fin, fone.2, .inl rfl⟩
theorem DirW.up : DirW 3212836864 (-1) := ⟨fmone.1.fin, fmone.2, .inr rfl⟩
theorem DirW.abm {dir : Nat} {σ : Rat} (h : DirW dir σ) (x : Rat) : ab (σ * x) = ab x := by
 rcases h.one with e | e <;> rw [e]
 ·congr 1; grind
 ·rw [show (-1 : Rat) * x = -x by grind, ab_neg]
theorem DirW.mul {dir dy : Nat} {σ k : Rat} (h : DirW dir σ) (h0 : 0 <= k) (h1 : k <= 1) (hr : R32 k dy) :
  Fok .mul dy dir /\ Bd (fop .mul dy dir) 0 /\ ab (V (fop .mul dy dir) - σ * k) <= k * (1 / 16777216) + 1 / 100000000000000000000000000000000000000000000 /\ ab (V (fop .mul dy dir)) <= k * (1000001 / 1000000) + 1 / 100000000000000000000000000000000000000000000 := by
 have n := hr.nearG.2
 rw [ab_of_nonneg h0] at n
 have b0 := hr.nonneg h0
 have b1 := hr.leInt (n := 1) (by push_cast; exact h1) (by decide) (by decide)
 push_cast at b1
 obtain ⟨q, r⟩ := fmul_ok hr.fin h.fin (by
  rw [h.val, Rat.mul_comm, h.abm, ab_of_nonneg b0]
  exact big126 (by grind))
 have hv : V (fop .mul dy dir) = σ * V dy := by
  rw [h.val] at r
  rcases h.one with e | e
  ·rw [e] at r ⊢
   have := eq_self32 hr.fin (by grind) r
   grind
  ·rw [e] at r ⊢
   obtain ⟨u1, u2⟩ := fneg_ok hr.fin
   have := eq_self32 u1 (by rw [u2]; grind) r
   rw [this, u2]
   grind
 refine ⟨q, Bd.of r.fin ?_, ?_, ?_⟩
 ·rw [hv, h.abm, p2_zero, ab_of_nonneg b0]
  exact b1
 ·rw [hv]
  have e : σ * V dy - σ * k = σ * (V dy - k) := by grind
  rw [e, h.abm]
  exact n
 ·rw [hv, h.abm, ab_of_nonneg b0]
  obtain ⟨c1, c2⟩ := ab_iff.1 n
  grind
def rowG (Y : Nat) (m d : Rat) (r : Int) : Rat := if r < 0 then 0 else if r < Y then d else if r = Y then d * m else 0
def errG (Y : Nat) (B k : Rat) (r : Int) : Rat := if r < 0 then 0 else if r < Y then k * (26 / 16777216) else if r = Y then k * ((B + 10) / 16777216) else 0
theorem tot_ratG {A D k σ : Rat} (hk0 : 0 <= k) (hD : ab (D - σ * k) <= k * (1 / 16777216) + 1 / 100000000000000000000000000000000000000000000) (hb : ab D <= k * (1000001 / 1000000) + 1 / 100000000000000000000000000000000000000000000)
  (h : ab (A - D) <= ab D * (24 / 16777216) + 1 / 100000000000000000000000000) : ab (A - σ * k) <= k * (26 / 16777216) + 1 / 10000000000000000000000000 := by
 have e : A - σ * k = (A - D) + (D - σ * k) := by grind
 rw [e]
 have := ab_add_le (A - D) (D - σ * k)
 grind
theorem cum_ratG {A D k σ m B : Rat} (hk0 : 0 <= k) (hm0 : 0 <= m) (hm1 : m <= 1) (hB0 : 120 <= B) (hB1 : B <= 1024) (hD : ab (D - σ * k) <= k * (1 / 16777216) + 1 / 100000000000000000000000000000000000000000000) (hb : ab D <= k * (1000001 / 1000000) + 1 / 100000000000000000000000000000000000000000000)
  (h : ab (A - D * m) <= ab D * ((B + 8) / 16777216) + 1 / 100000000000000000000000000) : ab (A - σ * (k * m)) <= k * ((B + 10) / 16777216) + 1 / 10000000000000000000000000 := by
 have e : A - σ * (k * m) = (A - D * m) + (D - σ * k) * m := by grind
 rw [e]
 have k1 := ab_add_le (A - D * m) ((D - σ * k) * m)
 have k2 : ab ((D - σ * k) * m) <= (k * (1 / 16777216) + 1 / 100000000000000000000000000000000000000000000) * 1 := ab_mul_le hD (by rw [ab_of_nonneg hm0]; exact hm1)
 have k3 := Rat.mul_le_mul_of_nonneg_right hb (show 0 <= (B + 8) / 16777216 by grind)
 have e2 : (k * (1000001 / 1000000) + 1 / 100000000000000000000000000000000000000000000) * ((B + 8) / 16777216) = k * ((B + 8) / 16777216) + k * ((B + 8) / 16777216) / 1000000 + (B + 8) / 16777216 / 100000000000000000000000000000000000000000000 := by grind
 rw [e2] at k3
 have k4 := Rat.mul_le_mul_of_nonneg_left (show (B + 8) / 16777216 <= 1 by grind) hk0
 have k5 : k * ((B + 8) / 16777216) / 1000000 <= k * ((1 / 2) / 16777216) := by
  have := Rat.mul_le_mul_of_nonneg_left (show (B + 8) / 16777216 / 1000000 <= (1 / 2) / 16777216 by grind) hk0
  grind
 have e3 : k * ((B + 10) / 16777216) = k * ((B + 8) / 16777216) + k * (2 / 16777216) := by grind
 rw [e3]
 generalize k * ((B + 8) / 16777216) = z at *
 grind
theorem join_ratG {A S d R σ a b c k : Rat} (h1 : ab (A - σ * d) <= a + c) (h2 : ab (S - σ * R) <= b + k) : ab (A + S - σ * (d + R)) <= a + b + (k + c) := by
 have e : A + S - σ * (d + R) = (A - σ * d) + (S - σ * R) := by grind
 rw [e]
 have := ab_add_le (A - σ * d) (S - σ * R)
 grind
theorem cell_ratG {a b D d R q k : Rat} (h0 : 0 <= d) (k1 : a <= b) (k2 : b <= ab D * (5001 / 5000) + 1 / 100000000000000000000000000) (db : ab D <= d * (1000001 / 1000000) + 1 / 100000000000000000000000000000000000000000000) (i : q <= R + k) :
  a + q <= d * (10003 / 10000) + R + (k + 1 / 10000000000000000000000000) := by
 generalize ab D = z at *
 grind
theorem len_ratG {a b x S P k : Rat} (k1 : a <= x + 3) (h : x <= S * (1000001 / 1000000) + 1 / 10000) (i : b <= P * (1000001 / 1000000) + k) : a + b <= (S + P) * (1000001 / 1000000) + (k + (3 + 1 / 10000)) := by grind
section
variable {ax ay bx ey dir : Nat} {B σ : Rat} (h : GSpan ax ay bx ey B) (hB0 : 120 <= B) (hB1 : B <= 1024) (hd : DirW dir σ)
include h hB0 hB1 hd
theorem OnG.row {n : Nat} {y : Int} {x : Nat} (ho : OnG ax ay bx ey B n y x) (h1 : (V ay).floor <= y) (h2 : y < ceilR (V ey)) (hn : n + 1 <= 2000) (W base : Nat) :
  (Fok .mul ((lnG dir ax ay bx ey).dy y) dir /\ FrowOk x ((lnG dir ax ay bx ey).nx y x) (fop .mul ((lnG dir ax ay bx ey).dy y) dir)) /\ (∀ p ∈ frow W base x ((lnG dir ax ay bx ey).nx y x) (fop .mul ((lnG dir ax ay bx ey).dy y) dir), Bd p.2 1) /\
  RowNear (frow W base x ((lnG dir ax ay bx ey).nx y x) (fop .mul ((lnG dir ax ay bx ey).dy y) dir)) W base (V (fop .mul ((lnG dir ax ay bx ey).dy y) dir)) (V x) (V ((lnG dir ax ay bx ey).nx y x)) B /\
  ab (V (fop .mul ((lnG dir ax ay bx ey).dy y) dir) - σ * (pr y (V ey) - pr y (V ay))) <= (pr y (V ey) - pr y (V ay)) * (1 / 16777216) + 1 / 100000000000000000000000000000000000000000000 /\
  ab (V (fop .mul ((lnG dir ax ay bx ey).dy y) dir)) <= (pr y (V ey) - pr y (V ay)) * (1000001 / 1000000) + 1 / 100000000000000000000000000000000000000000000 /\ 0 <= pr y (V ey) - pr y (V ay) := by
 obtain ⟨_, _, hlt⟩ := h.rows hB1
 obtain ⟨_, _, g3, g4, _, _⟩ := hg_row hlt h1 h2
 obtain ⟨⟨_, _, _, r⟩, hn', hw, _⟩ := ho.next h hB0 hB1 (dir := dir) h1 h2 hn
 obtain ⟨d1, d2, d3, d4⟩ := hd.mul g3 g4 r
 have b1 := ho.bd h hB0 hB1 (by omega)
 have b2 := hn'.bd h hB0 hB1 (by omega)
 obtain ⟨k1, k2⟩ := row_okG ho.xs hn'.xs d2 hw hB0 hB1 (by grind) (by grind)
 exact ⟨⟨d1, k1⟩, k2 W base, frow_nearG ho.xs hn'.xs d2 hw hB0 hB1 (by grind) (by grind), d3, d4, g3⟩
theorem OnG.all : ∀ (k n : Nat) (y : Int) (x : Nat), OnG ax ay bx ey B n y x -> (V ay).floor <= y -> y + k <= ceilR (V ey) -> n + k <= 2000 ->
  (lnG dir ax ay bx ey).ok k y x /\ ∀ W, ∀ p ∈ (lnG dir ax ay bx ey).adds W k y x, Bd p.2 1
 | 0, _, _, _, _, _, _, _ => ⟨trivial, fun W p hp => by simp [GL.adds] at hp⟩
 | k + 1, n, y, x, ho, h1, h2, h3 => by
  obtain ⟨⟨s1, s2, s3, _⟩, hn, _⟩ := ho.next h hB0 hB1 (dir := dir) h1 (by omega) (by omega)
  obtain ⟨i1, i2⟩ := OnG.all k (n + 1) (y + 1) _ hn (by omega) (by omega) (by omega)
  refine ⟨⟨s1, s2, s3, fun _ => (ho.row h hB0 hB1 hd h1 (by omega) (by omega) 1 1).1, i1⟩, fun W p hp => ?_⟩
  rw [GL.adds, List.mem_append] at hp
  rcases hp with hp | hp
  ·split at hp
   ·simp at hp
   ·exact (ho.row h hB0 hB1 hd h1 (by omega) (by omega) W _).2.1 p hp
  ·exact i2 W p hp
theorem adds_cumG {W X Y : Nat} (hX : X < W) : ∀ (k n : Nat) (y : Int) (x : Nat), OnG ax ay bx ey B n y x -> (V ay).floor <= y -> y + k <= ceilR (V ey) -> n + k <= 2000 ->
  ∃ p q : Rat, (y <= Y -> (Y : Int) < y + k -> ∃ n', n' <= n + k /\ ab (p - (V ax + slG ax ay bx ey * (hg (V ay) (V ey) Y - V ay))) <= ab (slG ax ay bx ey) * (hg (V ay) (V ey) Y - V ay) * (6 / 16777216) + (n' : Nat) * (B / 16777216) /\
    ab (q - (V ax + slG ax ay bx ey * (hg (V ay) (V ey) ((Y : Int) + 1) - V ay))) <= ab (slG ax ay bx ey) * (hg (V ay) (V ey) ((Y : Int) + 1) - V ay) * (6 / 16777216) + (n' + 1 : Nat) * (B / 16777216)) /\
   ab (sumR (valL ((lnG dir ax ay bx ey).adds W k y x)) (Y * W + X) - σ * rowsR (fun r => rowG Y (mean ((X : Rat) + 1 - p) ((X : Rat) + 1 - q)) (pr r (V ey) - pr r (V ay)) r) y k) <=
    rowsR (fun r => errG Y B (pr r (V ey) - pr r (V ay)) r) y k + k * (1 / 10000000000000000000000000)
 | 0, n, y, x, ho, h1, h2, h3 => by
  refine ⟨0, 0, fun a b => by omega, ?_⟩
  simp only [GL.adds, valL, List.map_nil, sumR, rowsR]
  have : ab ((0 : Rat) - σ * 0) = 0 := by rw [show (0 : Rat) - σ * 0 = 0 by grind]; decide +kernel
  rw [this]
  push_cast
  grind
 | k + 1, n, y, x, ho, h1, h2, h3 => by
  obtain ⟨_, hn, _⟩ := ho.next h hB0 hB1 (dir := dir) h1 (by omega) (by omega)
  obtain ⟨p, q, e3, e4⟩ := adds_cumG (Y := Y) hX k (n + 1) (y + 1) _ hn (by omega) (by omega) (by omega)
  rw [GL.adds]
  simp only [rowsR]
  have hk : ((k + 1 : Nat) : Rat) * (1 / 10000000000000000000000000) = (k : Rat) * (1 / 10000000000000000000000000) + 1 / 10000000000000000000000000 := by push_cast; grind
  rw [hk, valL_append, sumR_append]
  have other : ∀ m', (Y : Int) < y + 1 -> rowsR (fun r => rowG Y m' (pr r (V ey) - pr r (V ay)) r) (y + 1) k = rowsR (fun r => rowG Y (mean ((X : Rat) + 1 - p) ((X : Rat) + 1 - q)) (pr r (V ey) - pr r (V ay)) r) (y + 1) k := by
   intro m' hy
   refine rowsR_congr fun r r1 r2 => ?_
   unfold rowG
   split
   ·rfl
   ·rw [if_neg (by omega), if_neg (by omega), if_neg (by omega), if_neg (by omega)]
  by_cases hy : y < 0
  ·rw [if_pos hy]
   refine ⟨p, q, fun a b => ?_, ?_⟩
   ·obtain ⟨n', q1, q2⟩ := e3 (by omega) (by omega)
    exact ⟨n', by omega, q2⟩
   ·have z1 : ∀ m d, rowG Y m d y = 0 := fun m d => by unfold rowG; rw [if_pos hy]
    have z2 : ∀ d, errG Y B d y = 0 := fun d => by unfold errG; rw [if_pos hy]
    rw [z1, z2]
    have z3 : sumR (valL []) (Y * W + X) = 0 := rfl
    rw [z3]
    have e : ∀ a b : Rat, 0 + a - σ * (0 + b) = a - σ * b := fun a b => by grind
    rw [e]
    grind
  ·rw [if_neg hy]
   obtain ⟨yn, rfl⟩ : ∃ yn : Nat, y = yn := ⟨y.toNat, by omega⟩
   have ey' : ((yn : Int)).toNat = yn := by omega
   rw [ey']
   obtain ⟨_, _, RN, dn, db, hk0⟩ := ho.row h hB0 hB1 hd h1 (by omega) (by omega) W (yn * W)
   have hpl : ∀ q ∈ valL (frow W (yn * W) x ((lnG dir ax ay bx ey).nx yn x) (fop .mul ((lnG dir ax ay bx ey).dy yn) dir)), yn * W <= q.1 /\ q.1 <= yn * W + W := by
    intro q hq
    obtain ⟨p, hp, rfl⟩ := List.mem_map.1 hq
    exact RN.place p hp
   rcases Nat.lt_trichotomy yn Y with hlt | heq | hgt
   ·refine ⟨p, q, fun a b => ?_, ?_⟩
    ·obtain ⟨n', q1, q2⟩ := e3 (by omega) (by omega)
     exact ⟨n', by omega, q2⟩
    ·have z1 : ∀ m d, rowG Y m d yn = d := fun m d => by unfold rowG; rw [if_neg (by omega), if_pos (by omega)]
     have z2 : ∀ d, errG Y B d yn = d * (26 / 16777216) := fun d => by unfold errG; rw [if_neg (by omega), if_pos (by omega)]
     have hle : yn * W + W <= Y * W + X := by
      have := Nat.mul_le_mul_right W (show yn + 1 <= Y by omega)
      rw [Nat.add_mul, Nat.one_mul] at this
      omega
     rw [z1, z2, sumR_all (fun q hq => by have := (hpl q hq).2; omega)]
     exact join_ratG (tot_ratG hk0 dn db RN.tot) e4
   ·subst heq
    refine ⟨V x, V ((lnG dir ax ay bx ey).nx yn x), fun a b => ⟨n, by omega, ho.near, hn.near⟩, ?_⟩
    rw [other _ (by omega)]
    have z1 : ∀ m d, rowG yn m d yn = d * m := fun m d => by unfold rowG; rw [if_neg (by omega), if_neg (by omega), if_pos rfl]
    have z2 : ∀ d, errG yn B d yn = d * ((B + 10) / 16777216) := fun d => by unfold errG; rw [if_neg (by omega), if_neg (by omega), if_pos rfl]
    rw [z1, z2]
    have mb := mean_bd ((X : Rat) + 1 - V x) ((X : Rat) + 1 - V ((lnG dir ax ay bx ey).nx yn x))
    exact join_ratG (cum_ratG hk0 mb.1 mb.2 hB0 hB1 dn db (RN.cum X hX)) e4
   ·refine ⟨p, q, fun a b => by omega, ?_⟩
    have z1 : ∀ m d, rowG Y m d yn = 0 := fun m d => by unfold rowG; rw [if_neg (by omega), if_neg (by omega), if_neg (by omega)]
    have z2 : ∀ d, errG Y B d yn = 0 := fun d => by unfold errG; rw [if_neg (by omega), if_neg (by omega), if_neg (by omega)]
    have hle : Y * W + X < yn * W := by
     have := Nat.mul_le_mul_right W (show Y + 1 <= yn by omega)
     rw [Nat.add_mul, Nat.one_mul] at this
     omega
    rw [z1, z2, sumR_none (fun q hq => by have := (hpl q hq).1; omega)]
    have e : ∀ a b : Rat, 0 + a - σ * (0 + b) = a - σ * b := fun a b => by grind
    rw [e]
    grind
theorem adds_cellG {W c : Nat} (hW : 0 < W) : ∀ (k n : Nat) (y : Int) (x : Nat), OnG ax ay bx ey B n y x -> (V ay).floor <= y -> y + k <= ceilR (V ey) -> n + k <= 2000 ->
  cellA (valL ((lnG dir ax ay bx ey).adds W k y x)) c <= rowsR (fun r => if (r * W <= c /\ (c : Int) <= r * W + W) then (pr r (V ey) - pr r (V ay)) * (10003 / 10000) else 0) y k + k * (1 / 10000000000000000000000000) /\
  ((((lnG dir ax ay bx ey).adds W k y x).length : Nat) : Rat) <= ab (slG ax ay bx ey) * rowsR (fun r => pr r (V ey) - pr r (V ay)) y k * (1000001 / 1000000) + k * (3 + 1 / 10000)
 | 0, n, y, x, ho, h1, h2, h3 => by
  simp only [GL.adds, valL, List.map_nil, cellA, rowsR, List.length_nil]
  push_cast
  constructor <;> grind
 | k + 1, n, y, x, ho, h1, h2, h3 => by
  obtain ⟨_, hn, _, hstep⟩ := ho.next h hB0 hB1 (dir := dir) h1 (by omega) (by omega)
  obtain ⟨i1, i2⟩ := adds_cellG (c := c) hW k (n + 1) (y + 1) _ hn (by omega) (by omega) (by omega)
  obtain ⟨_, _, RN, dn, db, hk0⟩ := ho.row h hB0 hB1 hd h1 (by omega) (by omega) W (y.toNat * W)
  have hk : ((k + 1 : Nat) : Rat) * (3 + 1 / 10000) = (k : Rat) * (3 + 1 / 10000) + (3 + 1 / 10000) := by push_cast; grind
  have hk' : ((k + 1 : Nat) : Rat) * (1 / 10000000000000000000000000) = (k : Rat) * (1 / 10000000000000000000000000) + 1 / 10000000000000000000000000 := by push_cast; grind
  rw [hk, hk', GL.adds, valL_append, cellA_append, List.length_append]
  simp only [rowsR]
  have hs0 := ab_nonneg (slG ax ay bx ey)
  have hsk := Rat.mul_nonneg hs0 hk0
  have e2 : ab (slG ax ay bx ey) * ((pr y (V ey) - pr y (V ay)) + rowsR (fun r => pr r (V ey) - pr r (V ay)) (y + 1) k) = ab (slG ax ay bx ey) * (pr y (V ey) - pr y (V ay)) + ab (slG ax ay bx ey) * rowsR (fun r => pr r (V ey) - pr r (V ay)) (y + 1) k := by grind
  rw [e2]
  by_cases hy : y < 0
  ·rw [if_pos hy]
   have z : cellA (valL []) c = 0 := rfl
   rw [z]
   simp only [List.length_nil, Nat.zero_add]
   constructor
   ·split
    ·have := Rat.mul_nonneg hk0 (show (0 : Rat) <= 10003 / 10000 by decide +kernel)
     grind
    ·grind
   ·grind
  ·rw [if_neg hy]
   constructor
   ·by_cases hc : y * W <= c /\ (c : Int) <= y * W + W
    ·rw [if_pos hc]
     exact cell_ratG hk0 (cellA_absR (valL (frow W (y.toNat * W) x ((lnG dir ax ay bx ey).nx y x) (fop .mul ((lnG dir ax ay bx ey).dy y) dir))) c) RN.abs db i1
    ·rw [if_neg hc, cellA_none]
     ·grind
     ·intro q hq
      obtain ⟨p, hp, rfl⟩ := List.mem_map.1 hq
      obtain ⟨b1, b2⟩ := RN.place p hp
      intro he
      apply hc
      rw [<- he]
      have c1 := Int.ofNat_le.2 b1
      have c2 := Int.ofNat_le.2 b2
      push_cast at c1 c2
      rw [Int.toNat_of_nonneg (by omega)] at c1 c2
      exact ⟨c1, c2⟩
   ·have k1 := RN.len
    push_cast
    exact len_ratG k1 hstep i2
end
def GY (Y : Nat) (t : Rat) : Rat := rowsR (fun r => pr r t) 0 Y
theorem rowsR_sub (f g : Int -> Rat) : ∀ (k : Nat) (y : Int), rowsR (fun r => f r - g r) y k = rowsR f y k - rowsR g y k
 | 0, y => by simp only [rowsR]; grind
 | k + 1, y => by simp only [rowsR]; rw [rowsR_sub f g k (y + 1)]; grind
theorem rowsR_scale (c : Rat) (f : Int -> Rat) (k : Nat) (y : Int) : rowsR (fun r => f r * c) y k = rowsR f y k * c := by
 have h := rowsR_mul c f k y
 rw [rowsR_congr (g := fun r => c * f r) fun r _ _ => by grind, h]
 grind
theorem pr_zero_out {A E : Rat} (hAE : A < E) {r : Int} (h : r < A.floor ∨ ceilR E <= r) : pr r E - pr r A = 0 := by
 rcases h with h | h
 ·have h1 := (floor_near A).1
  have h2 := castLe (show r + 1 <= A.floor by omega)
  push_cast at h2
  have b1 := pr_cases r A
  have b2 := pr_cases r E
  grind
 ·have h1 := (ceil_near E).1
  have h2 := castLe h
  have b1 := pr_cases r A
  have b2 := pr_cases r E
  grind
theorem rows_uptoG {A E : Rat} {H : Int} {Y : Nat} (hAE : A < E) (hY : (Y : Int) < H) (m : Rat) :
  rowsR (fun r => rowG Y m (pr r E - pr r A) r) A.floor ((if H < ceilR E then H else ceilR E) - A.floor).toNat = (GY Y E - GY Y A) + (pr Y E - pr Y A) * m := by
 rw [rowsR_same (b := 0) (j := Y + 1), rowsR_last]
 ·unfold GY
  rw [<- rowsR_sub]
  congr 1
  ·refine rowsR_congr fun r h1 h2 => ?_
   unfold rowG
   rw [if_neg (by omega), if_pos (by omega)]
  ·unfold rowG
   rw [if_neg (by omega), if_neg (by omega), if_pos rfl]
 ·intro r hr
  unfold rowG
  by_cases hin : r < A.floor ∨ ceilR E <= r
  ·rw [pr_zero_out hAE hin]
   split
   ·rfl
   ·split
    ·rfl
    ·split
     ·grind
     ·rfl
  ·have hH : H <= r := by split at hr <;> omega
   split
   ·rfl
   ·rw [if_neg (by omega), if_neg (by omega)]
 ·intro r hr
  unfold rowG
  split
  ·rfl
  ·rw [if_neg (by omega), if_neg (by omega)]
theorem err_uptoG {A E B : Rat} {H : Int} {Y : Nat} (hAE : A < E) (hY : (Y : Int) < H) :
  rowsR (fun r => errG Y B (pr r E - pr r A) r) A.floor ((if H < ceilR E then H else ceilR E) - A.floor).toNat = (GY Y E - GY Y A) * (26 / 16777216) + (pr Y E - pr Y A) * ((B + 10) / 16777216) := by
 rw [rowsR_same (b := 0) (j := Y + 1), rowsR_last]
 ·unfold GY
  rw [<- rowsR_sub, <- rowsR_scale]
  congr 1
  ·refine rowsR_congr fun r h1 h2 => ?_
   unfold errG
   rw [if_neg (by omega), if_pos (by omega)]
  ·unfold errG
   rw [if_neg (by omega), if_neg (by omega), if_pos rfl]
 ·intro r hr
  unfold errG
  by_cases hin : r < A.floor ∨ ceilR E <= r
  ·rw [pr_zero_out hAE hin]
   split
   ·rfl
   ·split
    ·grind
    ·split
     ·grind
     ·rfl
  ·have hH : H <= r := by split at hr <;> omega
   split
   ·rfl
   ·rw [if_neg (by omega), if_neg (by omega)]
 ·intro r hr
  unfold errG
  split
  ·rfl
  ·rw [if_neg (by omega), if_neg (by omega)]
theorem rowsR_pick {f g : Int -> Rat} {a : Int} (hg : ∀ r, 0 <= g r) (h1 : ∀ r, f r <= g r) (h2 : ∀ r, r ≠ a -> r ≠ a + 1 -> f r <= 0) : ∀ (k : Nat) (y : Int), rowsR f y k <= (if y <= a then g a else 0) + (if y <= a + 1 then g (a + 1) else 0)
 | 0, y => by
  have := hg a
  have := hg (a + 1)
  simp only [rowsR]
  split <;> split <;> grind
 | k + 1, y => by
  have ih := rowsR_pick hg h1 h2 k (y + 1)
  have := hg a
  have := hg (a + 1)
  rw [rowsR]
  by_cases c1 : y < a
  ·have h3 := h2 y (by omega) (by omega)
   rw [if_pos (by omega), if_pos (by omega)] at ih ⊢
   grind
  ·by_cases c2 : y = a
   ·subst c2
    have h3 := h1 y
    rw [if_neg (by omega), if_pos (by omega)] at ih
    rw [if_pos (by omega), if_pos (by omega)]
    grind
   ·by_cases c3 : y = a + 1
    ·subst c3
     have h3 := h1 (a + 1)
     rw [if_neg (by omega), if_neg (by omega)] at ih
     rw [if_neg (by omega), if_pos (by omega)]
     grind
    ·have h3 := h2 y c2 c3
     rw [if_neg (by omega), if_neg (by omega)] at ih ⊢
     grind
structure LineF (W H : Nat) (B A E x0 sl wx σ : Rat) (L : List (Nat × Nat)) : Prop where
 bd : ∀ p ∈ L, Bd p.2 1
 len : (L.length : Rat) <= wx * (1000001 / 1000000) + ((ceilR E - A.floor : Int) : Rat) * (3 + 1 / 10000)
 cell : ∀ c : Nat, cellA (valL L) c <= ((pr ((c : Int) / W - 1) E - pr ((c : Int) / W - 1) A) + (pr ((c : Int) / W) E - pr ((c : Int) / W) A)) * (10003 / 10000) + 1 / 1000000000000000000000
 cum : ∀ X Y : Nat, X < W -> Y < H -> ∃ p q : Rat, (pr Y A < pr Y E -> ab (p - (x0 + sl * (Y + pr Y A - A))) <= wx * (6 / 16777216) + (E - A + 3) * (B / 16777216) /\ ab (q - (x0 + sl * (Y + pr Y E - A))) <= wx * (6 / 16777216) + (E - A + 3) * (B / 16777216)) /\
  ab (sumR (valL L) (Y * W + X) - σ * ((GY Y E - GY Y A) + (pr Y E - pr Y A) * mean ((X : Rat) + 1 - p) ((X : Rat) + 1 - q))) <= (GY Y E - GY Y A) * (26 / 16777216) + (pr Y E - pr Y A) * ((B + 10) / 16777216) + 1 / 1000000000000000000000
theorem k_small {k : Nat} {e s : Rat} (hk : (k : Rat) <= 2000) (h : e <= s + k * (1 / 10000000000000000000000000)) : e <= s + 1 / 1000000000000000000000 := by grind
theorem line_facts {W H ax ay bx ey dir : Nat} {B σ : Rat} (h : GSpan ax ay bx ey B) (hW : 0 < W) (hB0 : 120 <= B) (hB1 : B <= 1024) (hd : DirW dir σ) :
  FlOk ay /\ CeOk ey /\ -1000000000 <= ffl ay /\ (lnG dir ax ay bx ey).ok (flEnd ey H - ffl ay).toNat (ffl ay) ax /\
  LineF W H B (V ay) (V ey) (V ax) (slG ax ay bx ey) (ab (V bx - V ax)) σ ((lnG dir ax ay bx ey).adds W (flEnd ey H - ffl ay).toNat (ffl ay) ax) := by
 obtain ⟨sl1, sl2, hlt⟩ := h.rows hB1
 obtain ⟨y1, y2⟩ := ab_iff.1 h.hay
 obtain ⟨y3, y4⟩ := ab_iff.1 h.hey
 have xa : XsG ay := ⟨Bd.of h.fay (by rw [p2_15]; exact ab_le (by grind) (by grind))⟩
 have xe : XsG ey := ⟨Bd.of h.fey (by rw [p2_15]; exact ab_le (by grind) (by grind))⟩
 obtain ⟨f1, f2, f3, f4⟩ := xa.fl
 obtain ⟨c1, c2, c3, c4⟩ := xe.ce
 have hend : flEnd ey H = if (H : Int) < ceilR (V ey) then (H : Int) else ceilR (V ey) := by unfold flEnd; rw [c2]
 obtain ⟨K, hK⟩ : ∃ K, K = ((if (H : Int) < ceilR (V ey) then (H : Int) else ceilR (V ey)) - (V ay).floor).toNat := ⟨_, rfl⟩
 have hfl := floor_near (V ay)
 have hce := ceil_near (V ey)
 have hfc : (V ay).floor < ceilR (V ey) := by
  have e1 : (((V ay).floor : Int) : Rat) < ((ceilR (V ey) : Int) : Rat) := by grind
  exact Rat.intCast_lt_intCast.1 e1
 have hKend : (V ay).floor + (K : Int) <= ceilR (V ey) := by rw [hK]; split <;> omega
 have hKR : (K : Rat) <= V ey - V ay + 2 := by
  have := castLe hKend
  push_cast at this
  grind
 have hK2 : K <= 1900 := by
  have e1 : ((K : Int) : Rat) <= ((1900 : Int) : Rat) := by push_cast; grind
  have := Rat.intCast_le_intCast.1 e1
  omega
 have hKr : (K : Rat) <= 2000 := by exact_mod_cast (show K <= 2000 by omega)
 have hst := OnG.start h hB1
 have hh0 : slG ax ay bx ey * (V ey - V ay) = V bx - V ax := sl1
 have habs : ab (slG ax ay bx ey) * (V ey - V ay) = ab (V bx - V ax) := by rw [<- sl1, ab_mul, ab_of_nonneg (x := V ey - V ay) (by grind)]
 have hs0 := ab_nonneg (slG ax ay bx ey)
 obtain ⟨a1, a2⟩ := OnG.all h hB0 hB1 hd K 0 _ _ hst (Int.le_refl _) hKend (by omega)
 rw [hend, f2, <- hK]
 refine ⟨f1, c1, by omega, a1, a2 W, ?_, fun c => ?_, fun X Y hX hY => ?_⟩
 ·obtain ⟨_, k2⟩ := adds_cellG h hB0 hB1 hd (c := 0) hW K 0 _ _ hst (Int.le_refl _) hKend (by omega)
  have hsum : rowsR (fun r => pr r (V ey) - pr r (V ay)) (V ay).floor K <= V ey - V ay := by
   have key : ∀ (k : Nat), (V ay).floor + (k : Int) <= ceilR (V ey) -> rowsR (fun r => pr r (V ey) - pr r (V ay)) (V ay).floor k <= hg (V ay) (V ey) ((V ay).floor + k) - V ay := by
    intro k
    induction k with
    | zero =>
     intro _
     have := (hg_bd (Rat.le_of_lt hlt) ((V ay).floor + ((0 : Nat) : Int))).1
     simp only [rowsR]
     grind
    | succ k ih =>
     intro hk
     have h1 := ih (by omega)
     have h2 := rowsR_add (fun r => pr r (V ey) - pr r (V ay)) k (V ay).floor 1
     obtain ⟨g1, g2, _⟩ := hg_row hlt (y := (V ay).floor + (k : Int)) (by omega) (by omega)
     have e : (V ay).floor + ((k + 1 : Nat) : Int) = (V ay).floor + (k : Int) + 1 := by push_cast; omega
     rw [h2, e]
     simp only [rowsR]
     grind
   have h1 := key K hKend
   have h2 := (hg_bd (Rat.le_of_lt hlt) ((V ay).floor + (K : Int))).2
   grind
  have m1 := Rat.mul_le_mul_of_nonneg_left hsum hs0
  rw [habs] at m1
  have m2 := Rat.mul_le_mul_of_nonneg_right (show (K : Rat) <= ((ceilR (V ey) - (V ay).floor : Int) : Rat) by have := castLe (show (K : Int) <= ceilR (V ey) - (V ay).floor by omega); push_cast at this ⊢; exact this) (show (0 : Rat) <= 3 + 1 / 10000 by decide +kernel)
  grind
 ·obtain ⟨k1, _⟩ := adds_cellG h hB0 hB1 hd (c := c) hW K 0 _ _ hst (Int.le_refl _) hKend (by omega)
  have hkk : ∀ r, 0 <= pr r (V ey) - pr r (V ay) := fun r => by have := pr_mono r (Rat.le_of_lt hlt); grind
  have hkm : ∀ r, 0 <= (pr r (V ey) - pr r (V ay)) * (10003 / 10000) := fun r => Rat.mul_nonneg (hkk r) (by decide +kernel)
  have k2 := rowsR_pick (f := fun r => if (r * (W : Int) <= (c : Int) /\ (c : Int) <= r * W + W) then (pr r (V ey) - pr r (V ay)) * (10003 / 10000) else 0) (g := fun r => (pr r (V ey) - pr r (V ay)) * (10003 / 10000)) (a := (c : Int) / W - 1)
   hkm (fun r => by
    have := hkm r
    split <;> grind) (fun r r1 r2 => by
    rw [if_neg]
    ·exact Rat.le_refl
    rintro ⟨d1, d2⟩
    have hWp : (0 : Int) < W := by omega
    have e1 : r <= (c : Int) / W := (Int.le_ediv_iff_mul_le hWp).2 d1
    have e2 : (c : Int) / W <= r + 1 := by
     have : (c : Int) / W < r + 2 := by
      rw [Int.ediv_lt_iff_lt_mul hWp, Int.add_mul]
      omega
     omega
    omega) K (V ay).floor
  have e1 : (c : Int) / W - 1 + 1 = (c : Int) / W := by omega
  rw [e1] at k2
  refine k_small hKr (Rat.le_trans k1 ?_)
  have p1 := hkm ((c : Int) / W - 1)
  have p2' := hkm ((c : Int) / W)
  have e2 : ((pr ((c : Int) / W - 1) (V ey) - pr ((c : Int) / W - 1) (V ay)) + (pr ((c : Int) / W) (V ey) - pr ((c : Int) / W) (V ay))) * (10003 / 10000) = (pr ((c : Int) / W - 1) (V ey) - pr ((c : Int) / W - 1) (V ay)) * (10003 / 10000) + (pr ((c : Int) / W) (V ey) - pr ((c : Int) / W) (V ay)) * (10003 / 10000) := by grind
  rw [e2]
  have k3 : rowsR (fun r => if (r * (W : Int) <= (c : Int) /\ (c : Int) <= r * W + W) then (pr r (V ey) - pr r (V ay)) * (10003 / 10000) else 0) (V ay).floor K <= (pr ((c : Int) / W - 1) (V ey) - pr ((c : Int) / W - 1) (V ay)) * (10003 / 10000) + (pr ((c : Int) / W) (V ey) - pr ((c : Int) / W) (V ay)) * (10003 / 10000) := by
   refine Rat.le_trans k2 ?_
   split <;> split <;> grind
  exact Rat.add_le_add_right.2 k3
 ·obtain ⟨p, q, e1, e2⟩ := adds_cumG h hB0 hB1 hd (Y := Y) hX K 0 _ _ hst (Int.le_refl _) hKend (by omega)
  have r1 := rows_uptoG (H := (H : Int)) (Y := Y) hlt (by omega) (mean ((X : Rat) + 1 - p) ((X : Rat) + 1 - q))
  have r2 := err_uptoG (B := B) (H := (H : Int)) (Y := Y) hlt (by omega)
  rw [<- hK] at r1 r2
  rw [r1, r2] at e2
  refine ⟨p, q, fun hne => ?_, k_small hKr e2⟩
  have hin : (V ay).floor <= (Y : Int) /\ (Y : Int) < (V ay).floor + K := by
   have h0 : ¬ ((Y : Int) < (V ay).floor ∨ ceilR (V ey) <= (Y : Int)) := fun hc => by
    have := pr_zero_out hlt hc
    grind
   rw [hK]
   split <;> omega
  obtain ⟨n', w1, w2, w3⟩ := e1 hin.1 hin.2
  have hYc : (Y : Int) < ceilR (V ey) := by omega
  obtain ⟨g1, g2, _, _, g5, g6⟩ := hg_row hlt hin.1 hYc
  have g7 := (hg_bd (Rat.le_of_lt hlt) (Y : Int)).2
  have g8 := (hg_bd (Rat.le_of_lt hlt) ((Y : Int) + 1)).1
  have hn1 : ((n' + 1 : Nat) : Rat) <= V ey - V ay + 3 := by
   have : ((n' : Nat) : Rat) <= K := by exact_mod_cast (show n' <= K by omega)
   push_cast
   grind
  have hn0 : ((n' : Nat) : Rat) <= V ey - V ay + 3 := by
   push_cast at hn1
   grind
  have m1 := Rat.mul_le_mul_of_nonneg_left (show hg (V ay) (V ey) (Y : Int) - V ay <= V ey - V ay by grind) hs0
  have m2 := Rat.mul_le_mul_of_nonneg_left (show hg (V ay) (V ey) ((Y : Int) + 1) - V ay <= V ey - V ay by grind) hs0
  rw [habs] at m1 m2
  have m3 := Rat.mul_le_mul_of_nonneg_right hn0 (show 0 <= B / 16777216 by grind)
  have m4 := Rat.mul_le_mul_of_nonneg_right hn1 (show 0 <= B / 16777216 by grind)
  rw [g1] at w2 m1
  rw [g2] at w3 m2
  have eY : (((Y : Nat) : Int) : Rat) = (Y : Rat) := by push_cast; rfl
  rw [eY] at w2 w3 m1 m2
  exact ⟨by grind, by grind⟩
def hY (Y : Nat) (t : Rat) : Rat := (Y : Rat) + pr Y t
theorem hY_in {A E : Rat} {Y : Nat} (h : pr Y A < pr Y E) : A <= hY Y A /\ hY Y A <= E /\ A <= hY Y E /\ hY Y E <= E := by
 have b1 := pr_cases (Y : Int) A
 have b2 := pr_cases (Y : Int) E
 have eY : (((Y : Nat) : Int) : Rat) = (Y : Rat) := by push_cast; rfl
 rw [eY] at b1 b2
 unfold hY
 refine ⟨?_, ?_, ?_, ?_⟩ <;> grind
section
variable {ax ay bx ey : Nat} {B : Rat} (h : GSpan ax ay bx ey B) (hB1 : B <= 1024)
include h hB1
theorem floLine_down (W : Nat) (H : Int) : floLine W H ax ay bx ey = (lnG 1065353216 ax ay bx ey).adds W (flEnd ey H - ffl ay).toNat (ffl ay) ax := by
 obtain ⟨_, _, hlt⟩ := h.rows hB1
 unfold floLine
 rw [if_neg (by rw [fgt_iff h.fay h.fey]; grind)]
 unfold floUp
 rw [(h.slope_ok hB1).2.2.2.2.1, if_neg (by decide)]
 rfl
theorem floLine_up (W : Nat) (H : Int) : floLine W H bx ey ax ay = (lnG 3212836864 ax ay bx ey).adds W (flEnd ey H - ffl ay).toNat (ffl ay) ax := by
 obtain ⟨_, _, hlt⟩ := h.rows hB1
 unfold floLine
 rw [if_pos (by rw [fgt_iff h.fey h.fay]; exact hlt)]
 unfold floUp
 rw [(h.slope_ok hB1).2.2.2.2.1, if_neg (by decide)]
 rfl
theorem floOk_down {H : Int} (k1 : FlOk ay) (k2 : CeOk ey) (k3 : -1000000000 <= ffl ay) (k4 : (lnG 1065353216 ax ay bx ey).ok (flEnd ey H - ffl ay).toNat (ffl ay) ax) : FloOk H ax ay bx ey := by
 obtain ⟨_, _, hlt⟩ := h.rows hB1
 obtain ⟨s1, s2, s3, _⟩ := h.slope_ok hB1
 unfold FloOk
 rw [if_neg (by rw [fgt_iff h.fay h.fey]; grind)]
 exact ⟨s1, fun _ => ⟨s2, s3, k1, k2, k3, k4⟩⟩
theorem floOk_up {H : Int} (k1 : FlOk ay) (k2 : CeOk ey) (k3 : -1000000000 <= ffl ay) (k4 : (lnG 3212836864 ax ay bx ey).ok (flEnd ey H - ffl ay).toNat (ffl ay) ax) : FloOk H bx ey ax ay := by
 obtain ⟨_, _, hlt⟩ := h.rows hB1
 obtain ⟨s1, s2, s3, _⟩ := h.slope_ok hB1
 unfold FloOk
 rw [if_pos (by rw [fgt_iff h.fey h.fay]; exact hlt)]
 exact ⟨s1, fun _ => ⟨s2, s3, k1, k2, k3, k4⟩⟩
end
section
variable {W H : Nat} {B e ε g s σ sx : Rat} (hW : 0 < W) (hB0 : 120 <= B) (hB1 : B <= 1024) (hsx : sx = 1 ∨ sx = -1)
include hW hB0 hB1 hsx
end
theorem GY_val (t : Rat) : ∀ Y : Nat, GY Y t = if t <= 0 then 0 else if t <= Y then t else Y
 | 0 => by
  unfold GY
  simp only [rowsR]
  push_cast
  split
  ·rfl
  ·first
   | rfl
   | (split <;> first | rfl | grind)
 | Y + 1 => by
  have ih := GY_val t Y
  unfold GY at ih ⊢
  rw [rowsR_last, ih]
  have b := pr_cases (Y : Int) t
  have eY : (((Y : Nat) : Int) : Rat) = (Y : Rat) := by push_cast; rfl
  rw [eY] at b
  have hY0 : (0 : Rat) <= Y := by exact_mod_cast Nat.zero_le Y
  push_cast
  split
  ·grind
  ·split <;> split <;> grind
theorem GY_lip (Y : Nat) {A E : Rat} (h : A <= E) : 0 <= GY Y E - GY Y A /\ GY Y E - GY Y A <= E - A := by
 have hY0 : (0 : Rat) <= Y := by exact_mod_cast Nat.zero_le Y
 rw [GY_val, GY_val]
 constructor
 ·split <;> split <;> (try split) <;> (try split) <;> grind
 ·split <;> split <;> (try split) <;> (try split) <;> grind
theorem pr_64 (r : Int) (m : Int) : pr r ((m : Rat) / 64) = ((ph r m : Int) : Rat) / 64 := by
 have b := pr_cases r ((m : Rat) / 64)
 rcases ph_cases r m with ⟨h, e⟩ | ⟨h1, h2, e⟩ | ⟨h, e⟩
 ·have := castLe h
  push_cast at this
  rw [e, cast_zero]
  grind
 ·have k1 := castLe h1
  have k2 := castLe h2
  push_cast at k1 k2
  rw [e]
  push_cast
  grind
 ·have := castLe h
  push_cast at this
  rw [e]
  push_cast
  grind
theorem GY_64 (Y : Nat) (m : Int) : GY Y ((m : Rat) / 64) = rowsR (fun r => ((ph r m : Int) : Rat) / 64) 0 Y := by
 unfold GY
 exact rowsR_congr fun r _ _ => pr_64 r m
theorem mean_near_shift {K a b ε ρ s : Rat} (hK : 0 <= K) (hε : 0 <= ε) (hρ0 : 0 <= ρ) (hab : ab (b - a) = ab s * K) (hρ : 1 <= ρ ∨ 1 <= ρ * ab s) (hK1 : K <= 1) : K * mean (a + ε) (b + ε) <= K * mean a b + ε * ρ := by
 rcases hρ with hρ | hρ
 ·have h1 := Rat.mul_le_mul_of_nonneg_left (mean_shift (a := a) (b := b) hε) hK
  have h2 := Rat.mul_le_mul_of_nonneg_left hρ hε
  have h3 := Rat.mul_le_mul_of_nonneg_right hK1 hε
  grind
 ·
  have key : (mean (a + ε) (b + ε) - mean a b) * ab (b - a) <= ε /\ 0 <= mean (a + ε) (b + ε) - mean a b := by
   rcases Rat.le_total (a := a) (b := b) with h | h
   ·rw [ab_of_nonneg (by grind)]
    exact mean_slip hε h
   ·rw [ab_of_nonpos (by grind), mean_comm (a + ε), mean_comm a]
    have := mean_slip hε h
    have e : -(b - a) = a - b := by grind
    rw [e]
    exact this
  obtain ⟨k1, k2⟩ := key
  rw [hab] at k1
  have m1 := Rat.mul_le_mul_of_nonneg_right hρ (Rat.mul_nonneg hK k2)
  have m2 := Rat.mul_le_mul_of_nonneg_left k1 hρ0
  generalize mean (a + ε) (b + ε) = x at *
  generalize mean a b = y at *
  have e1 : ρ * ab s * (K * (x - y)) = ρ * ((x - y) * (ab s * K)) := by grind
  have e2 : 1 * (K * (x - y)) = K * x - K * y := by grind
  rw [e1, e2] at m1
  grind
structure EG (W H : Nat) (e : Pt × Pt) (δ len : Rat) (L : List (Nat × Nat)) : Prop where
 bd : ∀ p ∈ L, Bd p.2 68
 len : (L.length : Rat) <= len
 cum : ∀ X Y : Nat, X < W -> Y < H -> ab (sumR (valL L) (Y * W + X) - (rowsR (fun r => (dph r e : Rat) / 64) 0 Y + areaE X Y e)) <= δ
end Go.Proofs.Ytmgcbodlolnheaa
namespace Go.Proofs.Ytmgcbodlolnheaa
open Flt
set_option linter.unusedVariables false
theorem c2 : Bd 1073741824 1 /\ V 1073741824 = 2 := by
 obtain ⟨h1, h2⟩ := read_V (a := 1073741824) (s := false) (m := 8388608) (e := -22) (by decide)
 have hv : V 1073741824 = 2 := by
  rw [h2]
  have := p2_neg 22
  simp only [sgn]
  push_cast at this ⊢
  grind
 exact ⟨⟨h1, by rw [hv, p2_one]; exact Rat.le_refl, by rw [hv, p2_one]; decide⟩, hv⟩
end Go.Proofs.Ytmgcbodlolnheaa
namespace Go.Proofs.Ytmgcbodlolnheaa
open Flt Go.RowKit
set_option linter.unusedVariables false
theorem R32.half {x : Rat} {r : Nat} (h : R32 x r) {e : Int} (hx : ab x <= p2 e) (he : -120 <= e) (he2 : e <= 100) : ab (V r - x) <= p2 (e - 25) := by
 have hp := p2_pos (e - 25)
 rcases lt_or_eq hx with hlt | heq
 ·obtain ⟨L, k, l1, l2, l3, l4, l5, l6⟩ := Rounds.err h
  rw [least_single] at l1 l4
  rw [binade_single] at l4
  have hV : fval Ieee.single r = V r := rfl
  rw [hV] at l2 l3 l5
  have hL : L <= e - 24 := by
   rcases l4 with h4 | h4
   ·omega
   ·have e1 : ((8388608 : Nat) : Rat) = p2 23 := by rw [show (23 : Int) = ((23 : Nat) : Int) by rfl, p2_nat]
    rw [e1, <- p2_add] at h4
    have h5 : p2 (23 + L) < p2 e := by grind
    rcases Int.lt_or_le (23 + L) e with c | c
    ·omega
    ·have := p2_mono c
     grind
  have h1 := p2_mono hL
  have h2 : p2 (e - 24) = 2 * p2 (e - 25) := by rw [<- p2_succ]; congr 1; omega
  refine ab_le ?_ ?_ <;> grind
 ·have hp2 := p2_pos e
  have : V r = x := by
   rcases Rat.le_total (a := 0) (b := x) with c | c
   ·rw [ab_of_nonneg c] at heq
    exact h.eq (n := 1) (q := e) (by rw [heq]; rw [show ((1 : Int) : Rat) = 1 from rfl, Rat.one_mul]) (by decide) (by decide) (by omega)
   ·rw [ab_of_nonpos c] at heq
    exact h.eq (n := -1) (q := e) (by rw [show ((-1 : Int) : Rat) = -1 from rfl]; grind) (by decide) (by decide) (by omega)
  rw [this]
  have : x - x = 0 := by grind
  rw [this]
  have : ab (0 : Rat) = 0 := by decide +kernel
  grind
theorem GSpan.of {ax ay bx ey : Nat} {B : Rat} (f1 : F32 ax) (f2 : F32 ay) (f3 : F32 bx) (f4 : F32 ey) (hB1 : B <= 1024) (h1 : ab (V ax) <= B - 1) (h2 : ab (V bx) <= B - 1) (h3 : ab (V ay) <= 900) (h4 : ab (V ey) <= 900)
  (hgap : 1 / 5000 <= V ey - V ay) (hg : Grid (-99) (V ax)) (hx : V bx = V ax ∨ 1 / 5000 <= ab (V bx - V ax)) : GSpan ax ay bx ey B := by
 obtain ⟨y1, y2⟩ := ab_iff.1 h3
 obtain ⟨y3, y4⟩ := ab_iff.1 h4
 have hdx : ab (V bx - V ax) <= 2100 := by
  have := ab_sub_le (V bx) (V ax)
  grind
 obtain ⟨_, r1⟩ := fsub_ok f4 f2 (big126 (ab_le (by grind) (by grind)))
 obtain ⟨_, r2⟩ := fsub_ok f3 f1 (big126 (by grind))
 have n1 := r1.near5.2
 rw [ab_of_nonneg (x := V ey - V ay) (by grind)] at n1
 obtain ⟨d1, d2⟩ := ab_iff.1 n1
 have hD1 : 1 / 10000 <= V (fop .sub ey ay) := by grind
 refine ⟨f1, f2, f3, f4, h1, h2, h3, h4, by grind, by
  apply Bool.eq_false_iff.2
  intro hc
  rw [fle_iff r1.fin cTiny.1] at hc
  have := cTiny.2.2
  grind, hg, ?_⟩
 have hD2 : V (fop .sub ey ay) <= 2000 := by grind
 obtain ⟨_, r3⟩ := fquo_ok r2.fin r1.fin (by grind) (by
  rw [ab_of_nonneg (x := V (fop .sub ey ay)) (by grind)]
  have h4 : (1000000000000000000000000000000 : Rat) <= p2 125 := big125 Rat.le_refl
  have m1 := Rat.mul_le_mul_of_nonneg_right h4 (show 0 <= V (fop .sub ey ay) by grind)
  have n2 := r2.near5.1
  grind)
 rcases hx with hx | hx
 ·left
  have hz : V bx - V ax = 0 := by rw [hx]; grind
  rw [hz] at r2
  have v2 : V (fop .sub bx ax) = 0 := r2.eq (n := 0) (q := 0) (by rw [p2_zero, cast_zero]; grind) (by decide) (by decide) (by decide)
  have hq : V (fop .sub bx ax) / V (fop .sub ey ay) = 0 := by rw [v2, Rat.div_def]; grind
  rw [hq] at r3
  exact r3.eq (n := 0) (q := 0) (by rw [p2_zero, cast_zero]; grind) (by decide) (by decide) (by decide)
 ·right
  have n2 := r2.near5.2
  have hX : 1 / 10000 <= ab (V (fop .sub bx ax)) := by
   have k := ab_sub_le (V (fop .sub bx ax)) (V (fop .sub bx ax) - (V bx - V ax))
   have e : V (fop .sub bx ax) - (V (fop .sub bx ax) - (V bx - V ax)) = V bx - V ax := by grind
   rw [e] at k
   grind
  have n3 := r3.near5.2
  have hq : 1 / 20000000 <= ab (V (fop .sub bx ax) / V (fop .sub ey ay)) := by
   rw [ab_div (by grind)]
   refine Rat.le_of_mul_le_mul_right (c := V (fop .sub ey ay)) ?_ (by grind)
   rw [Rat.div_mul_cancel (by grind)]
   grind
  have k := ab_sub_le (V (fop .quo (fop .sub bx ax) (fop .sub ey ay))) (V (fop .quo (fop .sub bx ax) (fop .sub ey ay)) - V (fop .sub bx ax) / V (fop .sub ey ay))
  have e : V (fop .quo (fop .sub bx ax) (fop .sub ey ay)) - (V (fop .quo (fop .sub bx ax) (fop .sub ey ay)) - V (fop .sub bx ax) / V (fop .sub ey ay)) = V (fop .sub bx ax) / V (fop .sub ey ay) := by grind
  rw [e] at k
  have hp : p2 (-101) <= 1 / 100000000 := by
   have h1 := p2_mono (a := -101) (b := -30) (by decide)
   have h30 : p2 (-30) = 1 / 1073741824 := by have := p2_neg 30; push_cast at this ⊢; grind
   rw [h30] at h1
   grind
  grind
def In160 (a : Int) : Prop := -10240 <= a /\ a <= 10240
section
variable {a0 a1 b0 b1 : Int} {ex ey ε : Rat} (ha0 : In160 a0) (ha1 : In160 a1) (hb0 : In160 b0) (hb1 : In160 b1) (hne : a1 ≠ b1) (hex : ex <= 1 / 4500) (hey : ey <= 1 / 4500) (hex0 : 0 <= ex) (hey0 : 0 <= ey)
include hne
include ha0 ha1 hb0 hb1 hex hey hex0 hey0
end
end Go.Proofs.Ytmgcbodlolnheaa
