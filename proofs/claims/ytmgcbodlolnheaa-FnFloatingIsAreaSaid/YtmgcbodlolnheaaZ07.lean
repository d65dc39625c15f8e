/- In the numbers of fixed point: where a line is, row by row. The plain law of FnMovedIsMoved: a path within the bounds, moved by whole pixels within them, in the numbers of fixed point. Lines in the floating kind go well: sizes of float32, loosely. A row of a line in the floating kind goes well. Closed paths through points in 64ths in the floating kind: all goes well. Closed paths in the floating -/
import Derived.Test.YtmgcbodlolnheaaZ06
import Derived.Deep.RegionHeld3
import Derived.Deep.AppendLies
namespace Go.Proofs.Ytmgcbodlolnheaa
open Flt
set_option linter.unusedVariables false
def slopeW (m1 m2 m3 m4 : Int) : Nat := fop .quo (fop .sub (wq m3) (wq m1)) (fop .sub (wq m4) (wq m2))
structure Span (m1 m2 m3 m4 : Int) : Prop where
 a1 : -262144 <= m1 /\ m1 <= 262144
 a2 : -262144 <= m2 /\ m2 <= 262144
 a3 : -262144 <= m3 /\ m3 <= 262144
 a4 : -262144 <= m4 /\ m4 <= 262144
 lt : m2 < m4
theorem cast_zero : ((0 : Int) : Rat) = 0 := rfl
theorem R32.nonneg {x : Rat} {r : Nat} (h : R32 x r) (hx : 0 <= x) : 0 <= V r := by
 have := h.geInt (n := 0) (by rw [cast_zero]; exact hx) (by decide) (by decide)
 rwa [cast_zero] at this
section
variable {m1 m2 m3 m4 : Int} (h : Span m1 m2 m3 m4)
include h
theorem Span.q1 : Q64 (wq m1) m1 := by have := h.a1; exact (wq_ok (by omega) (by omega)).2
theorem Span.q2 : Q64 (wq m2) m2 := by have := h.a2; exact (wq_ok (by omega) (by omega)).2
theorem Span.q3 : Q64 (wq m3) m3 := by have := h.a3; exact (wq_ok (by omega) (by omega)).2
theorem Span.q4 : Q64 (wq m4) m4 := by have := h.a4; exact (wq_ok (by omega) (by omega)).2
theorem Span.subX : Fok .sub (wq m3) (wq m1) /\ Q64 (fop .sub (wq m3) (wq m1)) (m3 - m1) := by
 have := h.a1; have := h.a3
 exact h.q3.sub h.q1 (by omega) (by omega)
theorem Span.subY : Fok .sub (wq m4) (wq m2) /\ Q64 (fop .sub (wq m4) (wq m2)) (m4 - m2) := by
 have := h.a2; have := h.a4
 exact h.q4.sub h.q2 (by omega) (by omega)
theorem Span.dpos : (1 : Rat) <= ((m4 - m2 : Int) : Rat) := by have := h.lt; exact_mod_cast (by omega : (1 : Int) <= m4 - m2)
theorem Span.goes : fle (fop .sub (wq m4) (wq m2)) 897988541 = false := by
 obtain ⟨d1, d2⟩ := h.subY
 rw [Bool.eq_false_iff]
 intro hc
 have h1 := (fle_iff d2.1 cTiny.1).1 hc
 have h2 := cTiny.2.2
 have h3 := h.dpos
 rw [d2.2] at h1
 grind
theorem Span.slope : R32 (((m3 - m1 : Int) : Rat) / ((m4 - m2 : Int) : Rat)) (slopeW m1 m2 m3 m4) /\ Fok .quo (fop .sub (wq m3) (wq m1)) (fop .sub (wq m4) (wq m2)) := by
 obtain ⟨_, x2⟩ := h.subX
 obtain ⟨_, y2⟩ := h.subY
 have hd := h.dpos
 have hX := x2.bd (m := 524288) (by have := h.a1; have := h.a3; omega) (by have := h.a1; have := h.a3; omega)
 obtain ⟨q1, q2⟩ := fquo_ok x2.1 y2.1 (by rw [y2.2]; grind) (by
  rw [y2.2, ab_of_nonneg (x := ((m4 - m2 : Int) : Rat) / 64) (by grind)]
  have h4 : (1000000000000000000000000000000 : Rat) <= p2 125 := big125 Rat.le_refl
  have := Rat.mul_le_mul_of_nonneg_left (show (1 : Rat) / 64 <= ((m4 - m2 : Int) : Rat) / 64 by grind) (show (0 : Rat) <= p2 125 by grind)
  push_cast at hX
  grind)
 refine ⟨?_, q1⟩
 have e : V (fop .sub (wq m3) (wq m1)) / V (fop .sub (wq m4) (wq m2)) = ((m3 - m1 : Int) : Rat) / ((m4 - m2 : Int) : Rat) := by
  rw [x2.2, y2.2]
  generalize ((m3 - m1 : Int) : Rat) = X
  generalize ((m4 - m2 : Int) : Rat) = Y at *
  grind
 rw [e] at q2
 exact q2
end
theorem truncR_pos_bd {x : Rat} (h : 0 <= x) : 0 <= truncR x /\ (truncR x : Rat) <= x /\ x < truncR x + 1 := by
 unfold truncR
 rw [if_pos h]
 have h1 := Rat.floor_le x
 have h2 := Rat.lt_floor_add_one x
 push_cast at h2
 exact ⟨(Rat.le_floor_iff).2 (by rw [cast_zero]; exact h), h1, h2⟩
theorem R32.nonpos {x : Rat} {r : Nat} (h : R32 x r) (hx : x <= 0) : V r <= 0 := by
 have := h.leInt (n := 0) (by rw [cast_zero]; exact hx) (by decide) (by decide)
 rwa [cast_zero] at this
def prog (m2 m4 y : Int) : Int := imin (imax (y * 512) (8 * m2)) (8 * m4) - 8 * m2
def slopeR (m1 m2 m3 m4 : Int) : Rat := ((m3 - m1 : Int) : Rat) / ((m4 - m2 : Int) : Rat)
section
variable {m1 m2 m3 m4 : Int} (h : Span m1 m2 m3 m4)
include h
theorem Span.slopeR_mul : slopeR m1 m2 m3 m4 * ((m4 - m2 : Int) : Rat) = ((m3 - m1 : Int) : Rat) := by
 unfold slopeR
 have := h.dpos
 rw [Rat.div_mul_cancel]
 grind
end
end Go.Proofs.Ytmgcbodlolnheaa
namespace Go.Proofs.Ytmgcbodlolnheaa
open Flt Go.RowKit
set_option linter.unusedVariables false
theorem fsub_self {a : Nat} (fa : F32 a) : fop .sub a a = 0 := by
 obtain ⟨s, m, i, ea⟩ := fa
 unfold fop
 have h : floatBits .sub .f32 a a = Ieee.single.sub a a := rfl
 rw [h]
 unfold Ieee.Format.sub
 rw [ea]
 simp only [Ieee.Datum.opposite, Ieee.Datum.sum]
 have ht : Ieee.signed s m (i - min i i).toNat + Ieee.signed (!s) m (i - min i i).toNat = 0 := by
  unfold Ieee.signed
  cases s <;> simp <;> omega
 rw [ht]
 have hz : (s && !s) = false := by cases s <;> rfl
 simp [hz, Ieee.Format.write, Ieee.Format.nearest, Ieee.Format.word]
section
variable {m1 m2 m3 m4 : Int}
end
def Small (q : Pt) : Prop := (-262144 <= q.1 /\ q.1 <= 262144) /\ (-262144 <= q.2 /\ q.2 <= 262144)
section
variable {W p p' : Nat} {y dx dy : Int}
end
section
variable {W p p' : Nat} {dx dy m1 m2 m3 m4 : Int}
end
section
variable {W H p p' : Nat} {dx dy : Int} (hp : (p' : Int) = p + dy * W + dx) (hW : W <= 2000) (hH : H <= 2000)
include hp hW hH
end
end Go.Proofs.Ytmgcbodlolnheaa
namespace Go.Proofs.Ytmgcbodlolnheaa
open Flt
set_option linter.unusedVariables false
structure Bd (a : Nat) (k : Int) : Prop where
 fin : F32 a
 hi : V a <= p2 k
 lo : -p2 k <= V a
section
variable {a b : Nat} {i j k m : Int}
theorem Bd.ab (h : Bd a k) : ab (V a) <= p2 k := ab_le h.hi (by have := h.lo; grind)
theorem Bd.of (h : F32 a) (hb : Flt.ab (V a) <= p2 k) : Bd a k := ⟨h, (ab_bounds hb).1, (ab_bounds hb).2⟩
theorem Bd.mono (h : Bd a k) (hk : k <= m) : Bd a m := by
 have := p2_mono hk
 exact ⟨h.fin, by have := h.hi; grind, by have := h.lo; grind⟩
theorem R32.bd {x : Rat} {r : Nat} (h : R32 x r) (hx : Flt.ab x <= p2 k) (hk : -149 <= k) : Bd r k := by
 obtain ⟨h1, h2⟩ := ab_bounds hx
 have e1 : ((1 : Int) : Rat) * p2 k = p2 k := by rw [show ((1 : Int) : Rat) = 1 from rfl, Rat.one_mul]
 have e2 : ((-1 : Int) : Rat) * p2 k = -p2 k := by rw [show ((-1 : Int) : Rat) = -1 from rfl]; grind
 have u := h.le (n := 1) (q := k) (by rw [e1]; exact h1) (by decide) (by decide) hk
 have l := h.ge (n := -1) (q := k) (by rw [e2]; exact h2) (by decide) (by decide) hk
 rw [e1] at u
 rw [e2] at l
 exact ⟨h.fin, u, l⟩
theorem Bd.mul (ha : Bd a i) (hb : Bd b j) (h1 : i + j <= 126 := by decide) (h2 : -149 <= i + j := by decide) : Fok .mul a b /\ Bd (fop .mul a b) (i + j) := by
 have hx : Flt.ab (V a * V b) <= p2 (i + j) := by
  rw [ab_mul, p2_add]
  have h3 := Rat.mul_le_mul_of_nonneg_right ha.ab (ab_nonneg (V b))
  have h4 := Rat.mul_le_mul_of_nonneg_left hb.ab (Rat.le_of_lt (p2_pos i))
  grind
 obtain ⟨q1, q2⟩ := fmul_ok ha.fin hb.fin (Rat.le_trans hx (p2_mono h1))
 exact ⟨q1, q2.bd hx h2⟩
theorem Bd.add (ha : Bd a k) (hb : Bd b k) (h1 : k + 1 <= 126 := by decide) (h2 : -149 <= k + 1 := by decide) : Fok .add a b /\ Bd (fop .add a b) (k + 1) := by
 have hx : Flt.ab (V a + V b) <= p2 (k + 1) := by
  rw [p2_succ]
  have := ha.hi; have := ha.lo; have := hb.hi; have := hb.lo
  exact ab_le (by grind) (by grind)
 obtain ⟨q1, q2⟩ := fadd_ok ha.fin hb.fin (Rat.le_trans hx (p2_mono h1))
 exact ⟨q1, q2.bd hx h2⟩
theorem Bd.sub (ha : Bd a k) (hb : Bd b k) (h1 : k + 1 <= 126 := by decide) (h2 : -149 <= k + 1 := by decide) : Fok .sub a b /\ Bd (fop .sub a b) (k + 1) := by
 have hx : Flt.ab (V a - V b) <= p2 (k + 1) := by
  rw [p2_succ]
  have := ha.hi; have := ha.lo; have := hb.hi; have := hb.lo
  exact ab_le (by grind) (by grind)
 obtain ⟨q1, q2⟩ := fsub_ok ha.fin hb.fin (Rat.le_trans hx (p2_mono h1))
 exact ⟨q1, q2.bd hx h2⟩
end
theorem sat_up {e : Int} {x : Rat} {r : Nat} (h : R32 x r) (hx : x <= p2 e + p2 (e - 25)) (he : -100 <= e) : V r <= p2 e := by
 rcases Rat.le_total (a := x) (b := p2 e) with h1 | h1
 ·have e1 : ((1 : Int) : Rat) * p2 e = p2 e := by rw [show ((1 : Int) : Rat) = 1 from rfl, Rat.one_mul]
  have := h.le (n := 1) (q := e) (by rw [e1]; exact h1) (by decide) (by decide) (by omega)
  rwa [e1] at this
 ·obtain ⟨L, k, l1, l2, l3, l4, l5, l6⟩ := Rounds.err h
  rw [least_single] at l1 l4
  have hV : fval Ieee.single r = V r := rfl
  rw [hV] at l2 l5
  have hpe := p2_pos e
  have hb : ((Ieee.single.binade : Nat) : Rat) = p2 23 := by
   rw [binade_single]
   have : p2 ((23 : Nat) : Int) = ((2 ^ 23 : Nat) : Rat) := p2_nat 23
   rw [show p2 23 = p2 ((23 : Nat) : Int) from rfl, this]
  rw [hb, ab_of_nonneg (by grind)] at l4 l6
  have h24 : 2 * p2 23 * p2 L = p2 (L + 24) := by rw [<- p2_succ, <- p2_add]; congr 1; omega
  have hL1 : e < L + 24 := by
   rcases Int.lt_or_le e (L + 24) with hc | hc
   ·exact hc
   ·have := p2_mono hc
    grind
  have hL2 : L <= e - 22 := by
   rcases l4 with hc | hc
   ·omega
   ·rw [<- p2_add] at hc
    have h2 : p2 (e - 25) <= p2 e := p2_mono (by omega)
    have h3 : p2 (e + 1) = 2 * p2 e := p2_succ e
    have := le_of_p2 (a := 23 + L) (b := e + 1) (by grind)
    omega
  have hsm : 4 * p2 (e - 25) <= p2 L := by
   have h2 : p2 (e - 25) <= p2 (L - 2) := p2_mono (by omega)
   have h3 : p2 L = 2 * (2 * p2 (L - 2)) := by rw [<- p2_succ, <- p2_succ]; congr 1; omega
   grind
  have hpL := p2_pos L
  have hsp : p2 e = ((2 ^ (e - L).toNat : Nat) : Rat) * p2 L := p2_split (by omega)
  rw [l5, hsp]
  have hlt : (k : Rat) * p2 L < (((2 ^ (e - L).toNat : Nat) : Rat) + 1) * p2 L := by rw [l5] at l2; grind
  have hk := Rat.lt_of_mul_lt_mul_right hlt (Rat.le_of_lt hpL)
  have hk2 : k < ((2 ^ (e - L).toNat : Nat) : Int) + 1 := by
   have e2 : (((2 ^ (e - L).toNat : Nat) : Rat) + 1) = ((((2 ^ (e - L).toNat : Nat) : Int) + 1 : Int) : Rat) := by push_cast; rfl
   rw [e2] at hk
   exact Rat.intCast_lt_intCast.1 hk
  have hk3 : k <= ((2 ^ (e - L).toNat : Nat) : Int) := by omega
  have hk4 : (k : Rat) <= ((2 ^ (e - L).toNat : Nat) : Rat) := by
   have := Rat.intCast_le_intCast.2 hk3
   rwa [Rat.intCast_natCast] at this
  exact Rat.mul_le_mul_of_nonneg_right hk4 (Rat.le_of_lt hpL)
theorem sat_dn {e : Int} {x : Rat} {r : Nat} (h : R32 x r) (hx : -(p2 e + p2 (e - 25)) <= x) (he : -100 <= e) : -p2 e <= V r := by
 rcases Rat.le_total (a := -p2 e) (b := x) with h1 | h1
 ·have e1 : ((-1 : Int) : Rat) * p2 e = -p2 e := by rw [show ((-1 : Int) : Rat) = -1 from rfl]; grind
  have := h.ge (n := -1) (q := e) (by rw [e1]; exact h1) (by decide) (by decide) (by omega)
  rwa [e1] at this
 ·obtain ⟨L, k, l1, l2, l3, l4, l5, l6⟩ := Rounds.err h
  rw [least_single] at l1 l4
  have hV : fval Ieee.single r = V r := rfl
  rw [hV] at l3 l5
  have hpe := p2_pos e
  have hb : ((Ieee.single.binade : Nat) : Rat) = p2 23 := by
   rw [binade_single]
   have : p2 ((23 : Nat) : Int) = ((2 ^ 23 : Nat) : Rat) := p2_nat 23
   rw [show p2 23 = p2 ((23 : Nat) : Int) from rfl, this]
  rw [hb, ab_of_nonpos (by grind)] at l4 l6
  have h24 : 2 * p2 23 * p2 L = p2 (L + 24) := by rw [<- p2_succ, <- p2_add]; congr 1; omega
  have hL1 : e < L + 24 := by
   rcases Int.lt_or_le e (L + 24) with hc | hc
   ·exact hc
   ·have := p2_mono hc
    grind
  have hL2 : L <= e - 22 := by
   rcases l4 with hc | hc
   ·omega
   ·rw [<- p2_add] at hc
    have h2 : p2 (e - 25) <= p2 e := p2_mono (by omega)
    have h3 : p2 (e + 1) = 2 * p2 e := p2_succ e
    have := le_of_p2 (a := 23 + L) (b := e + 1) (by grind)
    omega
  have hsm : 4 * p2 (e - 25) <= p2 L := by
   have h2 : p2 (e - 25) <= p2 (L - 2) := p2_mono (by omega)
   have h3 : p2 L = 2 * (2 * p2 (L - 2)) := by rw [<- p2_succ, <- p2_succ]; congr 1; omega
   grind
  have hpL := p2_pos L
  have hsp : p2 e = ((2 ^ (e - L).toNat : Nat) : Rat) * p2 L := p2_split (by omega)
  rw [l5, hsp]
  have hlt : (-(((2 ^ (e - L).toNat : Nat) : Rat) + 1)) * p2 L < (k : Rat) * p2 L := by rw [l5] at l3; grind
  have hk := Rat.lt_of_mul_lt_mul_right hlt (Rat.le_of_lt hpL)
  have hk2 : -(((2 ^ (e - L).toNat : Nat) : Int) + 1) < k := by
   have e2 : (-(((2 ^ (e - L).toNat : Nat) : Rat) + 1)) = ((-(((2 ^ (e - L).toNat : Nat) : Int) + 1) : Int) : Rat) := by push_cast; rfl
   rw [e2] at hk
   exact Rat.intCast_lt_intCast.1 hk
  have hk3 : -((2 ^ (e - L).toNat : Nat) : Int) <= k := by omega
  have hk4 : -((2 ^ (e - L).toNat : Nat) : Rat) <= (k : Rat) := by
   have := Rat.intCast_le_intCast.2 hk3
   rw [Rat.intCast_neg, Rat.intCast_natCast] at this
   exact this
  have := Rat.mul_le_mul_of_nonneg_right hk4 (Rat.le_of_lt hpL)
  grind
theorem Bd.sat {a v : Nat} {e : Int} (ha : Bd a e) (hv : Bd v (e - 25)) (he : -100 <= e) (he2 : e <= 125) : Fok .add a v /\ Bd (fop .add a v) e := by
 have hp : p2 (e - 25) <= p2 e := p2_mono (by omega)
 have hp2 : p2 (e + 1) = 2 * p2 e := p2_succ e
 have := ha.hi; have := ha.lo; have := hv.hi; have := hv.lo
 obtain ⟨q1, q2⟩ := fadd_ok ha.fin hv.fin (Rat.le_trans (ab_le (y := p2 (e + 1)) (by grind) (by grind)) (p2_mono (by omega)))
 exact ⟨q1, q2.fin, sat_up q2 (by grind) he, sat_dn q2 (by grind) he⟩
def Grid (q : Int) (x : Rat) : Prop := ∃ n : Int, x = n * p2 q
theorem Grid.up {q q' : Int} {x : Rat} (h : Grid q x) (hq : q' <= q) : Grid q' x := by
 obtain ⟨n, rfl⟩ := h
 exact ⟨n * (2 ^ (q - q').toNat : Nat), by rw [p2_split hq]; push_cast; grind⟩
theorem Grid.add {q : Int} {x y : Rat} (hx : Grid q x) (hy : Grid q y) : Grid q (x + y) := by
 obtain ⟨m, rfl⟩ := hx
 obtain ⟨n, rfl⟩ := hy
 exact ⟨m + n, by push_cast; grind⟩
theorem Grid.sub {q : Int} {x y : Rat} (hx : Grid q x) (hy : Grid q y) : Grid q (x - y) := by
 obtain ⟨m, rfl⟩ := hx
 obtain ⟨n, rfl⟩ := hy
 exact ⟨m - n, by push_cast; grind⟩
theorem Grid.mul {p q : Int} {x y : Rat} (hx : Grid p x) (hy : Grid q y) : Grid (p + q) (x * y) := by
 obtain ⟨m, rfl⟩ := hx
 obtain ⟨n, rfl⟩ := hy
 exact ⟨m * n, by rw [p2_add]; push_cast; grind⟩
theorem Grid.round {q : Int} {x : Rat} {r : Nat} (h : Grid q x) (hr : R32 x r) (hq : -149 <= q) : Grid q (V r) := by
 obtain ⟨L, k, l1, l2, l3, l4, l5, l6⟩ := Rounds.err hr
 have hV : fval Ieee.single r = V r := rfl
 rw [hV] at l5
 rcases Int.lt_or_le L q with hL | hL
 ·obtain ⟨n, rfl⟩ := h
  have hpq := p2_pos q
  have hlt : p2 L <= p2 q := p2_mono (by omega)
  rw [binade_single] at l6
  have hb : Flt.ab (n : Rat) < 16777216 := by
   rw [ab_mul, ab_of_nonneg (Rat.le_of_lt hpq)] at l6
   refine Rat.lt_of_mul_lt_mul_right (c := p2 q) ?_ (Rat.le_of_lt hpq)
   push_cast at l6
   grind
  have b1 := le_ab (n : Rat)
  have b2 := neg_le_ab (n : Rat)
  have n1 : (n : Rat) < ((16777216 : Int) : Rat) := by push_cast; grind
  have n2 : ((-16777216 : Int) : Rat) < n := by push_cast; grind
  have n3 := Rat.intCast_lt_intCast.1 n1
  have n4 := Rat.intCast_lt_intCast.1 n2
  exact ⟨n, hr.eq rfl (by omega) (by omega) hq⟩
 ·rw [l5]
  exact Grid.up ⟨k, rfl⟩ hL
theorem Grid.pos {q : Int} {x : Rat} (h : Grid q x) (hx : 0 < x) : p2 q <= x := by
 obtain ⟨n, rfl⟩ := h
 have hq := p2_pos q
 have hn : 0 < n := by
  rcases Int.lt_or_le 0 n with hc | hc
  ·exact hc
  ·have h2 : (n : Rat) <= 0 := by exact_mod_cast hc
   have := Rat.mul_le_mul_of_nonneg_right h2 (Rat.le_of_lt hq)
   grind
 have h1 : (1 : Rat) <= n := by exact_mod_cast (by omega : (1 : Int) <= n)
 have := Rat.mul_le_mul_of_nonneg_right h1 (Rat.le_of_lt hq)
 grind
theorem Grid.int (n : Int) : Grid 0 (n : Rat) := ⟨n, by rw [p2_zero, Rat.mul_one]⟩
theorem Q64.grid {a : Nat} {n : Int} (h : Q64 a n) : Grid (-6) (V a) := ⟨n, by rw [h.2, p2_m6]; grind⟩
theorem p2_15 : p2 15 = 32768 := by
 have : p2 ((15 : Nat) : Int) = ((2 ^ 15 : Nat) : Rat) := p2_nat 15
 simpa using this
theorem fone : Bd 1065353216 0 /\ V 1065353216 = 1 := by
 obtain ⟨h1, h2⟩ := read_V (a := 1065353216) (s := false) (m := 8388608) (e := -23) (by decide)
 have hv : V 1065353216 = 1 := by
  rw [h2]
  have := p2_neg 23
  simp only [sgn]
  push_cast at this ⊢
  grind
 exact ⟨⟨h1, by rw [hv, p2_zero]; exact Rat.le_refl, by rw [hv, p2_zero]; grind⟩, hv⟩
theorem fhalf : Bd 1056964608 0 /\ V 1056964608 = 1 / 2 := by
 obtain ⟨h1, h2⟩ := read_V (a := 1056964608) (s := false) (m := 8388608) (e := -24) (by decide)
 have hv : V 1056964608 = 1 / 2 := by
  rw [h2]
  have := p2_neg 24
  simp only [sgn]
  push_cast at this ⊢
  grind
 exact ⟨⟨h1, by rw [hv, p2_zero]; grind, by rw [hv, p2_zero]; grind⟩, hv⟩
theorem fmone : Bd 3212836864 0 /\ V 3212836864 = -1 := by
 obtain ⟨h1, h2⟩ := read_V (a := 3212836864) (s := true) (m := 8388608) (e := -23) (by decide)
 have hv : V 3212836864 = -1 := by
  rw [h2]
  have := p2_neg 23
  simp only [sgn]
  push_cast at this ⊢
  grind
 exact ⟨⟨h1, by rw [hv, p2_zero]; grind, by rw [hv, p2_zero]; grind⟩, hv⟩
theorem f15 : Bd 1069547520 1 /\ V 1069547520 = 3 / 2 := by
 obtain ⟨h1, h2⟩ := read_V (a := 1069547520) (s := false) (m := 12582912) (e := -23) (by decide)
 have hv : V 1069547520 = 3 / 2 := by
  rw [h2]
  have := p2_neg 23
  simp only [sgn]
  push_cast at this ⊢
  grind
 exact ⟨⟨h1, by rw [hv, p2_one]; grind, by rw [hv, p2_one]; grind⟩, hv⟩
theorem ofInt_bd {n : Int} {k : Nat} (hk : k <= 24) (h1 : -(2 ^ k : Nat) <= n) (h2 : n <= (2 ^ k : Nat)) : Bd (floatOfInt .f32 n) k /\ V (floatOfInt .f32 n) = n := by
 have hp : (2 ^ k : Nat) <= 16777216 := Nat.pow_le_pow_right (n := 2) (by decide) hk
 obtain ⟨a1, a2⟩ := ofInt_any (n := n) (by omega) (by omega)
 refine ⟨Bd.of a1 ?_, a2⟩
 rw [a2, p2_nat]
 exact ab_int_le h2 h1
theorem flo_fhi {x xn : Nat} (hx : F32 x) (hn : F32 xn) : (flo x xn = x /\ fhi x xn = xn /\ V x <= V xn) ∨ (flo x xn = xn /\ fhi x xn = x /\ V xn <= V x) := by
 unfold flo fhi
 have h := fgt_iff hx hn
 by_cases hg : fgt x xn = true
 ·rw [if_pos hg, if_pos hg]
  have := h.1 hg
  exact .inr ⟨rfl, rfl, by grind⟩
 ·rw [if_neg hg, if_neg hg]
  have : ¬ V xn < V x := fun hc => hg (h.2 hc)
  exact .inl ⟨rfl, rfl, by grind⟩
theorem floor_bd {x : Rat} (h1 : -32768 <= x) (h2 : x <= 32768) : -32768 <= x.floor /\ x.floor <= 32768 := by
 constructor
 ·rw [Rat.le_floor_iff]
  push_cast
  exact h1
 ·have h3 := Rat.floor_le x
  have h4 : (x.floor : Rat) <= ((32768 : Int) : Rat) := by push_cast; grind
  exact Rat.intCast_le_intCast.1 h4
theorem ceil_bd {x : Rat} (h1 : -32768 <= x) (h2 : x <= 32768) : -32768 <= ceilR x /\ ceilR x <= 32768 := by
 have := floor_bd (x := -x) (by grind) (by grind)
 unfold ceilR
 omega
theorem ceil_near (x : Rat) : x <= ceilR x /\ (ceilR x : Rat) < x + 1 := by
 have h1 := Rat.floor_le (-x)
 have h2 := Rat.lt_floor_add_one (-x)
 unfold ceilR
 push_cast at h2 ⊢
 constructor <;> grind
theorem floor_near (x : Rat) : (x.floor : Rat) <= x /\ x < x.floor + 1 := by
 have h1 := Rat.floor_le x
 have h2 := Rat.lt_floor_add_one x
 push_cast at h2
 exact ⟨h1, h2⟩
structure Xs (x : Nat) : Prop where
 bd : Bd x 15
 grid : Grid (-48) (V x)
theorem Xs.rng {x : Nat} (h : Xs x) : -32768 <= V x /\ V x <= 32768 := by
 have h1 := h.bd.hi
 have h2 := h.bd.lo
 rw [p2_15] at h1 h2
 exact ⟨h2, h1⟩
theorem Xs.fl {x : Nat} (h : Xs x) : FlOk x /\ ffl x = (V x).floor /\ -32768 <= ffl x /\ ffl x <= 32768 := by
 obtain ⟨r1, r2⟩ := h.rng
 obtain ⟨f1, f2⟩ := floor_bd r1 r2
 obtain ⟨a, b⟩ := ffl_ok h.bd.fin (Rat.le_trans h.bd.ab (p2_mono (by decide))) (by omega) (by omega)
 exact ⟨a, b, by rw [b]; exact f1, by rw [b]; exact f2⟩
theorem Xs.ce {x : Nat} (h : Xs x) : CeOk x /\ fce x = ceilR (V x) /\ -32768 <= fce x /\ fce x <= 32768 := by
 obtain ⟨r1, r2⟩ := h.rng
 obtain ⟨f1, f2⟩ := ceil_bd r1 r2
 obtain ⟨a, b⟩ := fce_ok h.bd.fin (Rat.le_trans h.bd.ab (p2_mono (by decide))) (by omega) (by omega)
 exact ⟨a, b, by rw [b]; exact f1, by rw [b]; exact f2⟩
theorem int15 {n : Int} (h1 : -32768 <= n) (h2 : n <= 32768) : Bd (floatOfInt .f32 n) 15 /\ V (floatOfInt .f32 n) = n := ofInt_bd (k := 15) (by decide) (by omega) (by omega)
theorem Xs.frac {x : Nat} (h : Xs x) : Fok .sub x (floatOfInt .f32 (ffl x)) /\ Bd (fop .sub x (floatOfInt .f32 (ffl x))) 0 := by
 obtain ⟨_, e, b1, b2⟩ := h.fl
 obtain ⟨i1, i2⟩ := int15 b1 b2
 have hx : Flt.ab (V x - V (floatOfInt .f32 (ffl x))) <= p2 0 := by
  rw [i2, e, p2_zero]
  obtain ⟨f1, f2⟩ := floor_near (V x)
  exact ab_le (by grind) (by grind)
 obtain ⟨q1, q2⟩ := fsub_ok h.bd.fin i1.fin (Rat.le_trans hx (p2_mono (by decide)))
 exact ⟨q1, q2.bd hx (by decide)⟩
theorem Xs.top {x : Nat} (h : Xs x) : Fok .sub x (floatOfInt .f32 (fce x)) /\ Bd (fop .sub x (floatOfInt .f32 (fce x))) 0 := by
 obtain ⟨_, e, b1, b2⟩ := h.ce
 obtain ⟨i1, i2⟩ := int15 b1 b2
 have hx : Flt.ab (V x - V (floatOfInt .f32 (fce x))) <= p2 0 := by
  rw [i2, e, p2_zero]
  obtain ⟨f1, f2⟩ := ceil_near (V x)
  exact ab_le (by grind) (by grind)
 obtain ⟨q1, q2⟩ := fsub_ok h.bd.fin i1.fin (Rat.le_trans hx (p2_mono (by decide)))
 exact ⟨q1, q2.bd hx (by decide)⟩
theorem quo_one {w : Nat} (hw : F32 w) (h : p2 (-48) <= V w) : Fok .quo 1065353216 w /\ Bd (fop .quo 1065353216 w) 48 := by
 have hp := p2_pos (-48)
 have hw0 : 0 < V w := by grind
 have e48 : p2 48 * p2 (-48) = 1 := by rw [<- p2_add]; exact p2_zero
 have e77 : p2 125 * p2 (-48) = p2 77 := by rw [<- p2_add]; rfl
 have h77 : 1 <= p2 77 := by have := p2_mono (a := 0) (b := 77) (by decide); rwa [p2_zero] at this
 have h1 := Rat.mul_le_mul_of_nonneg_left h (Rat.le_of_lt (p2_pos 48))
 have h2 := Rat.mul_le_mul_of_nonneg_left h (Rat.le_of_lt (p2_pos 125))
 have a1 : Flt.ab 1 = 1 := by decide
 obtain ⟨q1, q2⟩ := fquo_ok fone.1.fin hw (by grind) (by rw [fone.2, ab_of_nonneg (Rat.le_of_lt hw0), a1]; grind)
 refine ⟨q1, q2.bd ?_ (by decide)⟩
 rw [fone.2, ab_div hw0, a1]
 refine Rat.le_of_mul_le_mul_right (c := V w) ?_ hw0
 rw [Rat.div_mul_cancel (by grind)]
 grind
theorem width {lo hi : Nat} (hl : Xs lo) (hh : Xs hi) (hlt : V lo < V hi) : Fok .sub hi lo /\ F32 (fop .sub hi lo) /\ p2 (-48) <= V (fop .sub hi lo) := by
 obtain ⟨q1, q2⟩ := Bd.sub hh.bd hl.bd
 have hx : Flt.ab (V hi - V lo) <= p2 126 := by
  have a := hh.rng; have b := hl.rng
  exact big126 (ab_le (by grind) (by grind))
 obtain ⟨_, r⟩ := fsub_ok hh.bd.fin hl.bd.fin hx
 have hg := (hh.grid.sub hl.grid).pos (by grind)
 have := r.ge (n := 1) (q := -48) (by rw [show ((1 : Int) : Rat) = 1 from rfl, Rat.one_mul]; exact hg) (by decide) (by decide) (by decide)
 rw [show ((1 : Int) : Rat) = 1 from rfl, Rat.one_mul] at this
 exact ⟨q1, r.fin, this⟩
theorem rowN_ok {x xn d lo : Nat} (hx : Xs x) (hn : Xs xn) (hl : Xs lo) (hd : Bd d 0) : FrowNOk x xn d lo /\ ∀ W base, ∀ p ∈ frowN W base x xn d lo, Bd p.2 68 := by
 obtain ⟨_, _, b1, b2⟩ := hl.fl
 obtain ⟨i1, _⟩ := int15 b1 b2
 obtain ⟨q1, r1⟩ := Bd.add hx.bd hn.bd
 obtain ⟨q2, r2⟩ := Bd.mul fhalf.1 r1
 obtain ⟨q3, r3⟩ := Bd.sub r2 (i1.mono (by decide))
 obtain ⟨q4, r4⟩ := Bd.mul hd r3
 obtain ⟨q5, r5⟩ := Bd.sub (hd.mono (by decide)) r4
 refine ⟨⟨q1, q2, q3, q4, q5⟩, fun W base p hp => ?_⟩
 unfold frowN at hp
 simp only [List.mem_cons, List.not_mem_nil, or_false] at hp
 rcases hp with rfl | rfl
 ·exact r5.mono (by decide)
 ·exact r4.mono (by decide)
theorem rowT_ok {d lo hi : Nat} (hl : Xs lo) (hh : Xs hi) (hlt : V lo < V hi) (hd : Bd d 0) : FrowTOk d lo hi /\ ∀ W base, ∀ p ∈ frowT W base d lo hi, Bd p.2 68 := by
 obtain ⟨q1, w1, w2⟩ := width hl hh hlt
 obtain ⟨q2, s⟩ := quo_one w1 w2
 obtain ⟨q3, h⟩ := Bd.mul fhalf.1 s
 obtain ⟨q4, lf⟩ := hl.frac
 obtain ⟨q5, om⟩ := Bd.sub fone.1 lf
 obtain ⟨q6, a1⟩ := Bd.mul h om
 obtain ⟨q7, a0⟩ := Bd.mul a1 om
 obtain ⟨q8, da0⟩ := Bd.mul hd a0
 obtain ⟨q9, t1⟩ := Bd.sub (fone.1.mono (m := 51) (by decide)) (a0.mono (m := 51) (by decide))
 obtain ⟨q10, hc⟩ := hh.top
 obtain ⟨q11, xf⟩ := Bd.add hc fone.1
 obtain ⟨q12, b1⟩ := Bd.mul h xf
 obtain ⟨q13, am⟩ := Bd.mul b1 xf
 obtain ⟨q14, t2⟩ := Bd.sub (t1.mono (m := 52) (by decide)) (am.mono (m := 52) (by decide))
 obtain ⟨q15, dt⟩ := Bd.mul hd t2
 obtain ⟨q16, dam⟩ := Bd.mul hd am
 refine ⟨⟨q1, q2, q3, q4, q5, q6, q7, q8, q9, q10, q11, q12, q13, q14, q15, q16⟩, fun W base p hp => ?_⟩
 unfold frowT at hp
 simp only [List.mem_cons, List.not_mem_nil, or_false] at hp
 rcases hp with rfl | rfl | rfl
 ·exact da0.mono (by decide)
 ·exact dt.mono (by decide)
 ·exact dam.mono (by decide)
theorem mem_ffill {base W : Nat} {x0 : Int} {v : Nat} {p : Nat × Nat} : ∀ {j : Nat}, p ∈ ffill base W x0 v j -> p.2 = v
 | 0, h => by simp [ffill] at h
 | j + 1, h => by
  rw [ffill, List.mem_append] at h
  rcases h with h | h
  ·exact mem_ffill h
  ·simp only [List.mem_singleton] at h
   rw [h]
theorem rowM_ok {d lo hi : Nat} (hl : Xs lo) (hh : Xs hi) (hlt : V lo < V hi) (hd : Bd d 0) : FrowMOk d lo hi /\ ∀ W base N, ∀ p ∈ frowM W base d lo hi N, Bd p.2 68 := by
 obtain ⟨_, _, l1, l2⟩ := hl.fl
 obtain ⟨_, _, h1, h2⟩ := hh.ce
 obtain ⟨iN, _⟩ := ofInt_bd (n := fce hi - ffl lo - 3) (k := 17) (by decide) (by omega) (by omega)
 obtain ⟨q1, w1, w2⟩ := width hl hh hlt
 obtain ⟨q2, s⟩ := quo_one w1 w2
 obtain ⟨q3, h⟩ := Bd.mul fhalf.1 s
 obtain ⟨q4, lf⟩ := hl.frac
 obtain ⟨q5, om⟩ := Bd.sub fone.1 lf
 obtain ⟨q6, a1⟩ := Bd.mul h om
 obtain ⟨q7, a0⟩ := Bd.mul a1 om
 obtain ⟨q8, da0⟩ := Bd.mul hd a0
 obtain ⟨q9, l15⟩ := Bd.sub f15.1 (lf.mono (m := 1) (by decide))
 obtain ⟨q10, c1⟩ := Bd.mul s l15
 obtain ⟨q11, c2⟩ := Bd.sub c1 (a0.mono (m := 50) (by decide))
 obtain ⟨q12, c3⟩ := Bd.mul hd c2
 obtain ⟨q13, sN⟩ := Bd.mul s iN
 obtain ⟨q14, a2⟩ := Bd.add (c1.mono (m := 65) (by decide)) sN
 obtain ⟨q15, u1⟩ := Bd.sub (fone.1.mono (m := 66) (by decide)) a2
 obtain ⟨q16, hc⟩ := hh.top
 obtain ⟨q17, xf⟩ := Bd.add hc fone.1
 obtain ⟨q18, b1⟩ := Bd.mul h xf
 obtain ⟨q19, am⟩ := Bd.mul b1 xf
 obtain ⟨q20, u2⟩ := Bd.sub u1 (am.mono (m := 67) (by decide))
 obtain ⟨q21, u3⟩ := Bd.mul hd u2
 obtain ⟨q22, dam⟩ := Bd.mul hd am
 obtain ⟨q23, ds⟩ := Bd.mul hd s
 refine ⟨⟨q1, q2, q3, q4, q5, q6, q7, q8, q9, q10, q11, q12, q13, q14, q15, q16, q17, q18, q19, q20, q21, q22, q23⟩, fun W base N p hp => ?_⟩
 unfold frowM at hp
 simp only [List.mem_append, List.mem_cons, List.not_mem_nil, or_false] at hp
 rcases hp with ((rfl | rfl) | hp) | (rfl | rfl)
 ·exact da0.mono (by decide)
 ·exact c3.mono (by decide)
 ·rw [mem_ffill hp]
  exact ds.mono (by decide)
 ·exact u3.mono (by decide)
 ·exact dam.mono (by decide)
theorem row_ok {x xn d : Nat} (hx : Xs x) (hn : Xs xn) (hd : Bd d 0) : FrowOk x xn d /\ ∀ W base, ∀ p ∈ frow W base x xn d, Bd p.2 68 := by
 obtain ⟨hl, hh, hle⟩ : Xs (flo x xn) /\ Xs (fhi x xn) /\ V (flo x xn) <= V (fhi x xn) := by
  rcases flo_fhi hx.bd.fin hn.bd.fin with ⟨e1, e2, h⟩ | ⟨e1, e2, h⟩ <;> rw [e1, e2]
  ·exact ⟨hx, hn, h⟩
  ·exact ⟨hn, hx, h⟩
 obtain ⟨f1, f2, f3, f4⟩ := hl.fl
 obtain ⟨c1, c2, c3, c4⟩ := hh.ce
 have hlt : ffl (flo x xn) + 2 <= fce (fhi x xn) -> V (flo x xn) < V (fhi x xn) := by
  intro h
  rw [f2, c2] at h
  have h' := Rat.intCast_le_intCast.2 h
  push_cast at h'
  have a := (floor_near (V (flo x xn))).2
  have b := (ceil_near (V (fhi x xn))).2
  grind
 obtain ⟨n1, n2⟩ := rowN_ok hx hn hl hd
 refine ⟨⟨f1, c1, by omega, by omega, by omega, by omega, fun _ => n1, fun h => (rowT_ok hl hh (hlt (by omega)) hd).1, fun h => (rowM_ok hl hh (hlt (by omega)) hd).1⟩, fun W base p hp => ?_⟩
 unfold frow at hp
 split at hp
 ·exact n2 W base p hp
 ·split at hp
  ·exact (rowT_ok hl hh (hlt (by omega)) hd).2 W base p hp
  ·exact (rowM_ok hl hh (hlt (by omega)) hd).2 W base _ p hp
theorem Q64.ofInt {n : Int} (h1 : -16777216 <= n) (h2 : n <= 16777216) : Q64 (floatOfInt .f32 n) (64 * n) := by
 obtain ⟨a, b⟩ := ofInt_any h1 h2
 exact ⟨a, by rw [b]; push_cast; grind⟩
theorem Q64.fmin {a b : Nat} {m n : Int} (ha : Q64 a m) (hb : Q64 b n) : Q64 (fmin a b) (imin m n) := by
 unfold Go.Proofs.Ytmgcbodlolnheaa.fmin imin
 have h := flt_iff ha.1 hb.1
 rw [ha.lt_iff hb] at h
 by_cases hc : m < n
 ·rw [if_pos hc, if_pos (h.2 hc)]
  exact ha
 ·rw [if_neg hc, if_neg (fun hh => hc (h.1 hh))]
  exact hb
theorem Q64.fmax {a b : Nat} {m n : Int} (ha : Q64 a m) (hb : Q64 b n) : Q64 (fmax a b) (imax m n) := by
 unfold Go.Proofs.Ytmgcbodlolnheaa.fmax imax
 have h := fgt_iff ha.1 hb.1
 rw [hb.lt_iff ha] at h
 by_cases hc : n < m
 ·rw [if_pos hc, if_pos (h.2 hc)]
  exact ha
 ·rw [if_neg hc, if_neg (fun hh => hc (h.1 hh))]
  exact hb
def k64 (m2 m4 y : Int) : Int := imin (64 * (y + 1)) m4 - imax (64 * y) m2
def prog64 (m2 m4 y : Int) : Int := imin (imax (y * 64) m2) m4 - m2
theorem prog64_bd {m2 m4 : Int} (h : m2 < m4) (y : Int) : 0 <= prog64 m2 m4 y /\ prog64 m2 m4 y <= m4 - m2 := by unfold prog64 imin imax; split <;> (try split) <;> omega
theorem prog64_first {m2 m4 : Int} (h : m2 < m4) : prog64 m2 m4 (m2 / 64) = 0 := by unfold prog64 imin imax; split <;> (try split) <;> omega
theorem k64_bd {m2 m4 y : Int} (h : m2 < m4) (h1 : m2 / 64 <= y) (h2 : y < (m4 + 63) / 64) : prog64 m2 m4 (y + 1) = prog64 m2 m4 y + k64 m2 m4 y /\ 0 <= k64 m2 m4 y /\ k64 m2 m4 y <= 64 := by
 unfold prog64 k64 imin imax
 split <;> split <;> split <;> split <;> (try split) <;> (try split) <;> omega
section
variable {m1 m2 m3 m4 : Int} (h : Span m1 m2 m3 m4)
include h
theorem Span.slope_ab : Flt.ab (slopeR m1 m2 m3 m4) <= 524288 := by
 unfold slopeR
 have hd := h.dpos
 rw [ab_div (by grind)]
 refine Rat.le_of_mul_le_mul_right (c := ((m4 - m2 : Int) : Rat)) ?_ (by grind)
 rw [Rat.div_mul_cancel (by grind)]
 have h1 := ab_int_le (n := m3 - m1) (b := 524288) (by have := h.a1; have := h.a3; omega) (by have := h.a1; have := h.a3; omega)
 push_cast at h1
 have h2 := Rat.mul_le_mul_of_nonneg_left hd (show (0 : Rat) <= 524288 by decide)
 push_cast at h2 ⊢
 grind
theorem Span.slope_bd : Bd (slopeW m1 m2 m3 m4) 20 := by
 refine h.slope.1.bd ?_ (by decide)
 have h1 := h.slope_ab
 unfold slopeR at h1
 have e : p2 20 = 1048576 := by
  have : p2 ((20 : Nat) : Int) = ((2 ^ 20 : Nat) : Rat) := p2_nat 20
  simpa using this
 rw [e]
 grind
theorem Span.slope_grid : Grid (-42) (V (slopeW m1 m2 m3 m4)) := by
 obtain ⟨L, k, l1, l2, l3, l4, l5, l6⟩ := Rounds.err h.slope.1
 have hV : fval Ieee.single (slopeW m1 m2 m3 m4) = V (slopeW m1 m2 m3 m4) := rfl
 rw [hV] at l5
 by_cases h0 : m3 - m1 = 0
 ·refine ⟨0, ?_⟩
  have e : (((m3 - m1 : Int) : Rat) / ((m4 - m2 : Int) : Rat)) = ((0 : Int) : Rat) * p2 0 := by rw [h0, cast_zero, Rat.div_def, Rat.zero_mul, Rat.zero_mul]
  have := h.slope.1.eq e (by decide) (by decide) (by decide)
  rw [this, e]
  simp
 ·rw [l5]
  refine Grid.up ⟨k, rfl⟩ ?_
  have hd := h.dpos
  have hX : (1 : Rat) <= Flt.ab ((m3 - m1 : Int) : Rat) := by
   rcases Int.lt_or_le 0 (m3 - m1) with hc | hc
   ·have : (1 : Rat) <= ((m3 - m1 : Int) : Rat) := by exact_mod_cast (by omega : (1 : Int) <= m3 - m1)
    have := le_ab ((m3 - m1 : Int) : Rat)
    grind
   ·have : ((m3 - m1 : Int) : Rat) <= -1 := by
     have := Rat.intCast_le_intCast.2 (show m3 - m1 <= -1 by omega)
     push_cast at this ⊢
     exact this
    have := neg_le_ab ((m3 - m1 : Int) : Rat)
    grind
  have hD : ((m4 - m2 : Int) : Rat) <= 524288 := by
   have := Rat.intCast_le_intCast.2 (show m4 - m2 <= 524288 by have := h.a2; have := h.a4; omega)
   push_cast at this ⊢
   exact this
  rw [ab_div (by grind)] at l6
  have hb : ((Ieee.single.binade : Nat) : Rat) = p2 23 := by
   rw [binade_single]
   have : p2 ((23 : Nat) : Int) = ((2 ^ 23 : Nat) : Rat) := p2_nat 23
   rw [show p2 23 = p2 ((23 : Nat) : Int) from rfl, this]
  rw [hb] at l6
  have h24 : 2 * p2 23 * p2 L = p2 (L + 24) := by rw [<- p2_succ, <- p2_add]; congr 1; omega
  rw [h24] at l6
  have hm := Rat.mul_lt_mul_of_pos_right l6 (show (0 : Rat) < ((m4 - m2 : Int) : Rat) by grind)
  rw [Rat.div_mul_cancel (by grind)] at hm
  have hm2 := Rat.mul_le_mul_of_nonneg_left hD (Rat.le_of_lt (p2_pos (L + 24)))
  have e19 : (524288 : Rat) = p2 19 := by
   have : p2 ((19 : Nat) : Int) = ((2 ^ 19 : Nat) : Rat) := p2_nat 19
   rw [show p2 19 = p2 ((19 : Nat) : Int) from rfl, this]
   rfl
  rw [e19, <- p2_add] at hm2
  have h3 : p2 0 < p2 (L + 24 + 19) := by rw [p2_zero]; grind
  rcases Int.lt_or_le L (-42) with hc | hc
  ·have := p2_mono (a := L + 24 + 19) (b := 0) (by omega)
   grind
  ·exact hc
theorem Span.dy64 (dir dd : Nat) {y : Int} (hy1 : -5000 <= y) (hy2 : y <= 5000) (hk1 : 0 <= k64 m2 m4 y) (hk2 : k64 m2 m4 y <= 64) :
  Fok .sub (fmin (floatOfInt .f32 (y + 1)) (wq m4)) (fmax (floatOfInt .f32 y) (wq m2)) /\ Q64 ((⟨wq m2, wq m4, dir, dd⟩ : GL).dy y) (k64 m2 m4 y) :=
 ((Q64.ofInt (n := y + 1) (by omega) (by omega)).fmin h.q4).sub ((Q64.ofInt (n := y) (by omega) (by omega)).fmax h.q2) (by unfold k64 at hk1; omega) (by unfold k64 at hk2; omega)
end
theorem Q64.bd0 {a : Nat} {n : Int} (h : Q64 a n) (h1 : -64 <= n) (h2 : n <= 64) : Bd a 0 := by
 refine Bd.of h.1 ?_
 have := h.bd (m := 64) h2 (by omega)
 rw [p2_zero]
 push_cast at this
 grind
theorem fl64of {m : Int} (hq : Q64 (wq m) m) (hb : -262144 <= m /\ m <= 262144) : (FlOk (wq m) /\ ffl (wq m) = m / 64) /\ (CeOk (wq m) /\ fce (wq m) = (m + 63) / 64) := by
 have hbd := hq.bd (m := 262144) (by omega) (by omega)
 push_cast at hbd
 have hx : Xs (wq m) := ⟨Bd.of hq.1 (by rw [p2_15]; grind), hq.grid.up (by decide)⟩
 obtain ⟨f1, f2, _, _⟩ := hx.fl
 obtain ⟨c1, c2, _, _⟩ := hx.ce
 refine ⟨⟨f1, ?_⟩, c1, ?_⟩
 ·rw [f2, hq.2]
  have h1 : m / 64 <= ((m : Rat) / 64).floor := by
   rw [Rat.le_floor_iff]
   have := Rat.intCast_le_intCast.2 (show m / 64 * 64 <= m by omega)
   push_cast at this
   grind
  have h2 : ((m : Rat) / 64).floor < m / 64 + 1 := by
   rw [Rat.floor_lt_iff]
   have := Rat.intCast_lt_intCast.2 (show m < (m / 64 + 1) * 64 by omega)
   push_cast at this ⊢
   grind
  omega
 ·rw [c2, hq.2]
  unfold ceilR
  have h1 : (-((m + 63) / 64)) <= (-((m : Rat) / 64)).floor := by
   rw [Rat.le_floor_iff]
   have := Rat.intCast_le_intCast.2 (show m <= (m + 63) / 64 * 64 by omega)
   push_cast at this ⊢
   grind
  have h2 : (-((m : Rat) / 64)).floor < -((m + 63) / 64) + 1 := by
   rw [Rat.floor_lt_iff]
   have := Rat.intCast_lt_intCast.2 (show ((m + 63) / 64 - 1) * 64 < m by omega)
   push_cast at this ⊢
   grind
  omega
structure OnF (m1 m2 m3 m4 : Int) (n : Nat) (y : Int) (x : Nat) : Prop where
 xs : Xs x
 bound : Flt.ab (V x) <= 4096 + Flt.ab (slopeR m1 m2 m3 m4) * ((prog64 m2 m4 y : Int) : Rat) / 64 * (10001 / 10000) + n * (1 / 100)
section
variable {m1 m2 m3 m4 : Int} (h : Span m1 m2 m3 m4)
include h
theorem Span.slope_prog64 {k : Int} (h0 : 0 <= k) (h1 : k <= m4 - m2) : Flt.ab (slopeR m1 m2 m3 m4) * (k : Rat) <= 524288 := by
 have e := h.slopeR_mul
 have hd := h.dpos
 have hk : (k : Rat) <= ((m4 - m2 : Int) : Rat) := Rat.intCast_le_intCast.2 h1
 have h2 := Rat.mul_le_mul_of_nonneg_left hk (ab_nonneg (slopeR m1 m2 m3 m4))
 have h3 : Flt.ab (slopeR m1 m2 m3 m4) * ((m4 - m2 : Int) : Rat) = Flt.ab ((m3 - m1 : Int) : Rat) := by
  rw [<- e, ab_mul, ab_of_nonneg (x := ((m4 - m2 : Int) : Rat)) (by grind)]
 have h4 := ab_int_le (n := m3 - m1) (b := 524288) (by have := h.a1; have := h.a3; omega) (by have := h.a1; have := h.a3; omega)
 push_cast at h4
 push_cast at h3 h2
 grind
theorem OnF.first : OnF m1 m2 m3 m4 0 (m2 / 64) (wq m1) := by
 have hb := h.q1.bd (m := 262144) (by have := h.a1; omega) (by have := h.a1; omega)
 push_cast at hb
 refine ⟨⟨Bd.of h.q1.1 (by rw [p2_15]; grind), h.q1.grid.up (by decide)⟩, ?_⟩
 rw [prog64_first h.lt, cast_zero]
 grind
theorem OnF.next {n : Nat} {y : Int} {x : Nat} {dir : Nat} (ho : OnF m1 m2 m3 m4 n y x) (h1 : m2 / 64 <= y) (h2 : y < (m4 + 63) / 64) (hn : n <= 10000) :
  (Fok .sub (fmin (floatOfInt .f32 (y + 1)) (wq m4)) (fmax (floatOfInt .f32 y) (wq m2)) /\ Fok .mul ((⟨wq m2, wq m4, dir, slopeW m1 m2 m3 m4⟩ : GL).dy y) (slopeW m1 m2 m3 m4) /\
   Fok .add x (fop .mul ((⟨wq m2, wq m4, dir, slopeW m1 m2 m3 m4⟩ : GL).dy y) (slopeW m1 m2 m3 m4)) /\ Q64 ((⟨wq m2, wq m4, dir, slopeW m1 m2 m3 m4⟩ : GL).dy y) (k64 m2 m4 y)) /\
  OnF m1 m2 m3 m4 (n + 1) (y + 1) ((⟨wq m2, wq m4, dir, slopeW m1 m2 m3 m4⟩ : GL).nx y x) := by
 obtain ⟨p1, p2', p3⟩ := k64_bd h.lt h1 h2
 have hb2 := h.a2
 have hb4 := h.a4
 obtain ⟨s1, s2⟩ := h.dy64 dir (slopeW m1 m2 m3 m4) (y := y) (by omega) (by omega) p2' p3
 have hdir : (⟨wq m2, wq m4, dir, slopeW m1 m2 m3 m4⟩ : GL).nx y x = fop .add x (fop .mul ((⟨wq m2, wq m4, dir, slopeW m1 m2 m3 m4⟩ : GL).dy y) (slopeW m1 m2 m3 m4)) := rfl
 rw [hdir]
 generalize (⟨wq m2, wq m4, dir, slopeW m1 m2 m3 m4⟩ : GL).dy y = dy at *
 obtain ⟨t1, t2⟩ := Bd.mul (s2.bd0 (by omega) p3) h.slope_bd
 have hk0 : (0 : Rat) <= (k64 m2 m4 y : Int) := by exact_mod_cast p2'
 have hk1 : ((k64 m2 m4 y : Int) : Rat) <= 64 := by
  have := Rat.intCast_le_intCast.2 p3
  push_cast at this
  exact this
 have hpb := prog64_bd h.lt y
 have hpb1 := prog64_bd h.lt (y + 1)
 have e1 : ((prog64 m2 m4 (y + 1) : Int) : Rat) = prog64 m2 m4 y + k64 m2 m4 y := by rw [p1]; push_cast; rfl
 have hS0 := ab_nonneg (slopeR m1 m2 m3 m4)
 have hsp := h.slope_prog64 hpb1.1 hpb1.2
 have hsp0 := h.slope_prog64 hpb.1 hpb.2
 have hsk := h.slope_prog64 p2' (by omega)
 obtain ⟨n1, _⟩ := h.slope.1.near5
 have hsl : ((m3 - m1 : Int) : Rat) / ((m4 - m2 : Int) : Rat) = slopeR m1 m2 m3 m4 := rfl
 rw [hsl] at n1
 have hprod : V dy * V (slopeW m1 m2 m3 m4) = ((k64 m2 m4 y : Int) : Rat) / 64 * V (slopeW m1 m2 m3 m4) := by rw [s2.2]
 have hpab : Flt.ab (V dy * V (slopeW m1 m2 m3 m4)) = ((k64 m2 m4 y : Int) : Rat) / 64 * Flt.ab (V (slopeW m1 m2 m3 m4)) := by
  rw [hprod, ab_mul, ab_of_nonneg (by grind)]
 obtain ⟨_, r2⟩ := fmul_ok s2.1 h.slope_bd.fin (by
  rw [hpab]
  have := Rat.mul_le_mul_of_nonneg_left n1 hk0
  exact big126 (by grind))
 obtain ⟨n2, _⟩ := r2.near5
 rw [hpab] at n2
 have hpr : Flt.ab (V (fop .mul dy (slopeW m1 m2 m3 m4))) <= Flt.ab (slopeR m1 m2 m3 m4) * ((k64 m2 m4 y : Int) : Rat) / 64 * (10001 / 10000) + 1 / 100000 := by
  have := Rat.mul_le_mul_of_nonneg_left n1 hk0
  have h5 := Rat.mul_nonneg hS0 hk0
  grind
 have hpg : Grid (-48) (V (fop .mul dy (slopeW m1 m2 m3 m4))) := Grid.round (Grid.mul (p := -6) (q := -42) s2.grid h.slope_grid) r2 (by decide)
 have hn' : (n : Rat) <= 10000 := by
  have := Rat.natCast_le_natCast.2 hn
  push_cast at this
  exact this
 have hxb : Flt.ab (V x) <= 13000 := by
  have := ho.bound
  grind
 have hp2b : Flt.ab (V (fop .mul dy (slopeW m1 m2 m3 m4))) <= 8200 := by grind
 have a1 := le_ab (V x); have a2 := neg_le_ab (V x)
 have a3 := le_ab (V (fop .mul dy (slopeW m1 m2 m3 m4))); have a4 := neg_le_ab (V (fop .mul dy (slopeW m1 m2 m3 m4)))
 have hsum : Flt.ab (V x + V (fop .mul dy (slopeW m1 m2 m3 m4))) <= Flt.ab (V x) + Flt.ab (V (fop .mul dy (slopeW m1 m2 m3 m4))) := ab_le (by grind) (by grind)
 obtain ⟨u1, u2⟩ := fadd_ok ho.xs.bd.fin r2.fin (big126 (by grind))
 obtain ⟨n3, n4⟩ := u2.near5
 have g1 := le_ab (V (fop .add x (fop .mul dy (slopeW m1 m2 m3 m4))) - (V x + V (fop .mul dy (slopeW m1 m2 m3 m4))))
 have g2 := neg_le_ab (V (fop .add x (fop .mul dy (slopeW m1 m2 m3 m4))) - (V x + V (fop .mul dy (slopeW m1 m2 m3 m4))))
 have b1 := le_ab (V x + V (fop .mul dy (slopeW m1 m2 m3 m4)))
 have b2 := neg_le_ab (V x + V (fop .mul dy (slopeW m1 m2 m3 m4)))
 have hres : Flt.ab (V (fop .add x (fop .mul dy (slopeW m1 m2 m3 m4)))) <= Flt.ab (V x) + Flt.ab (V (fop .mul dy (slopeW m1 m2 m3 m4))) + 1 / 500 := ab_le (by grind) (by grind)
 refine ⟨⟨s1, t1, u1, s2⟩, ⟨Bd.of u2.fin ?_, Grid.round (ho.xs.grid.add hpg) u2 (by decide)⟩, ?_⟩
 ·rw [p2_15]
  grind
 ·rw [e1]
  have := ho.bound
  have e2 : ((n + 1 : Nat) : Rat) = n + 1 := by push_cast; rfl
  rw [e2]
  grind
theorem OnF.all (dir : Nat) (hdir : Bd dir 0) : ∀ (k n : Nat) (y : Int) (x : Nat), OnF m1 m2 m3 m4 n y x -> m2 / 64 <= y -> y + k <= (m4 + 63) / 64 -> n + k <= 10000 ->
  (⟨wq m2, wq m4, dir, slopeW m1 m2 m3 m4⟩ : GL).ok k y x /\ ∀ W, ∀ p ∈ (⟨wq m2, wq m4, dir, slopeW m1 m2 m3 m4⟩ : GL).adds W k y x, Bd p.2 68
 | 0, _, _, _, _, _, _, _ => ⟨trivial, fun W p hp => by simp [GL.adds] at hp⟩
 | k + 1, n, y, x, ho, h1, h2, h3 => by
  obtain ⟨⟨s1, s2, s3, s4⟩, hn⟩ := ho.next h (dir := dir) h1 (by omega) (by omega)
  obtain ⟨p1, p2', p3⟩ := k64_bd h.lt h1 (show y < (m4 + 63) / 64 by omega)
  obtain ⟨i1, i2⟩ := OnF.all dir hdir k (n + 1) (y + 1) _ hn (by omega) (by omega) (by omega)
  obtain ⟨d1, d2⟩ := Bd.mul (s4.bd0 (by omega) p3) hdir
  obtain ⟨r1, r2⟩ := row_ok ho.xs hn.xs d2
  refine ⟨⟨s1, s2, s3, fun _ => ⟨d1, r1⟩, i1⟩, fun W p hp => ?_⟩
  rw [GL.adds, List.mem_append] at hp
  rcases hp with hp | hp
  ·split at hp
   ·simp at hp
   ·exact r2 W _ p hp
  ·exact i2 W p hp
theorem Span.floUp (s : Bool) (W : Nat) (H : Int) :
  floUp s W H (wq m1) (wq m2) (wq m3) (wq m4) = (⟨wq m2, wq m4, if s then 3212836864 else 1065353216, slopeW m1 m2 m3 m4⟩ : GL).adds W (imin H ((m4 + 63) / 64) - m2 / 64).toNat (m2 / 64) (wq m1) := by
 unfold Go.Proofs.Ytmgcbodlolnheaa.floUp
 rw [h.goes, if_neg (by decide), (fl64of h.q2 h.a2).1.2]
 unfold flEnd
 rw [(fl64of h.q4 h.a4).2.2]
 rfl
theorem Span.floOk (s : Bool) (H : Int) : FloUpOk s H (wq m1) (wq m2) (wq m3) (wq m4) /\ ∀ W, ∀ p ∈ Go.Proofs.Ytmgcbodlolnheaa.floUp s W H (wq m1) (wq m2) (wq m3) (wq m4), Bd p.2 68 := by
 have hb2 := h.a2
 have hb4 := h.a4
 have hlt := h.lt
 obtain ⟨⟨f1, f2⟩, _⟩ := fl64of h.q2 h.a2
 obtain ⟨_, c1, c2⟩ := fl64of h.q4 h.a4
 have hdir : Bd (if s then 3212836864 else 1065353216) 0 := by cases s; exact fone.1; exact fmone.1
 have hall := OnF.all h _ hdir (imin H ((m4 + 63) / 64) - m2 / 64).toNat 0 (m2 / 64) (wq m1) (OnF.first h) (Int.le_refl _) (by unfold imin; split <;> omega) (by unfold imin; split <;> omega)
 refine ⟨⟨h.subY.1, fun _ => ⟨h.subX.1, h.slope.2, f1, c1, by rw [f2]; omega, ?_⟩⟩, fun W p hp => ?_⟩
 ·rw [f2]
  unfold flEnd
  rw [c2]
  exact hall.1
 ·rw [h.floUp] at hp
  exact hall.2 W p hp
end
theorem floLine_flat (W : Nat) (H : Int) {px py qx : Nat} (hp : F32 px) (hy : F32 py) (hq : F32 qx) (hb : Flt.ab (V px) <= 100000) (hb2 : Flt.ab (V qx) <= 100000) : floLine W H px py qx py = [] /\ FloOk H px py qx py := by
 unfold floLine FloOk
 have hg : ¬ fgt py py = true := by rw [fgt_iff hy hy]; grind
 have h0 : Flt.ab (V py - V py) <= p2 126 := by
  have : V py - V py = 0 := by grind
  rw [this]
  have := p2_pos 126
  have e : Flt.ab 0 = 0 := by decide
  grind
 have hs := fsub_self hy
 have hle : fle (fop .sub py py) 897988541 = true := by
  rw [hs, fle_iff fzero.1 cTiny.1, fzero.2]
  have := cTiny.2.1
  grind
 rw [if_neg hg, if_neg hg]
 unfold floUp FloUpOk
 rw [if_pos hle]
 refine ⟨rfl, (fsub_ok hy hy h0).1, fun hc => ?_⟩
 rw [hle] at hc
 cases hc
def edgeF (W : Nat) (H : Int) (e : Pt × Pt) : List (Nat × Nat) := floLine W H (wq e.1.1) (wq e.1.2) (wq e.2.1) (wq e.2.2)
def edgesF (W : Nat) (H : Int) : List (Pt × Pt) -> List (Nat × Nat)
 | [] => []
 | e :: t => edgeF W H e ++ edgesF W H t
theorem edgeF_ok (W : Nat) (H : Int) {a b : Pt} (ha : Small a) (hb : Small b) : FloOk H (wq a.1) (wq a.2) (wq b.1) (wq b.2) /\ ∀ p ∈ edgeF W H (a, b), Bd p.2 68 := by
 rcases Int.lt_trichotomy a.2 b.2 with h | h | h
 ·have hs : Span a.1 a.2 b.1 b.2 := ⟨ha.1, ha.2, hb.1, hb.2, h⟩
  have hg : ¬ fgt (wq a.2) (wq b.2) = true := by rw [fgt_iff hs.q2.1 hs.q4.1, hs.q4.lt_iff hs.q2]; omega
  unfold edgeF floLine FloOk
  rw [if_neg hg, if_neg hg]
  obtain ⟨h1, h2⟩ := hs.floOk false H
  exact ⟨h1, h2 W⟩
 ·have q1 := (wq_ok (n := a.1) (by have := ha.1; omega) (by have := ha.1; omega)).2
  have q2 := (wq_ok (n := a.2) (by have := ha.2; omega) (by have := ha.2; omega)).2
  have q3 := (wq_ok (n := b.1) (by have := hb.1; omega) (by have := hb.1; omega)).2
  have b1 := q1.bd (m := 262144) (by have := ha.1; omega) (by have := ha.1; omega)
  have b3 := q3.bd (m := 262144) (by have := hb.1; omega) (by have := hb.1; omega)
  push_cast at b1 b3
  obtain ⟨h1, h2⟩ := floLine_flat W H q1.1 q2.1 q3.1 (by grind) (by grind)
  unfold edgeF
  simp only
  rw [<- h, h1]
  exact ⟨h2, fun p hp => by simp at hp⟩
 ·have hs : Span b.1 b.2 a.1 a.2 := ⟨hb.1, hb.2, ha.1, ha.2, h⟩
  have hg : fgt (wq a.2) (wq b.2) = true := by rw [fgt_iff hs.q4.1 hs.q2.1, hs.q2.lt_iff hs.q4]; omega
  unfold edgeF floLine FloOk
  rw [if_pos hg, if_pos hg]
  obtain ⟨h1, h2⟩ := hs.floOk true H
  exact ⟨h1, h2 W⟩
def CellsBd (l : List Nat) : Prop := ∀ a ∈ l, Bd a 100
theorem bd_zero (k : Int) : Bd 0 k := by
 have := p2_pos k
 exact ⟨fzero.1, by rw [fzero.2]; grind, by rw [fzero.2]; grind⟩
theorem CellsBd.zero (n : Nat) : CellsBd (List.replicate n 0) := by
 intro a ha
 rw [List.mem_replicate] at ha
 rw [ha.2]
 exact bd_zero _
theorem CellsBd.at {l : List Nat} (h : CellsBd l) (k : Nat) : Bd (fAt l k) 100 := by
 unfold fAt
 by_cases hk : k < l.length
 ·have : l.getD k 0 = l[k] := by simp [List.getD, hk]
  rw [this]
  exact h _ (List.getElem_mem hk)
 ·have : l.getD k 0 = 0 := by simp [List.getD, hk]
  rw [this]
  exact bd_zero _
theorem CellsBd.bump {l : List Nat} (h : CellsBd l) {k v : Nat} (hv : Bd v 68) : CellsBd (fbump l k v) := by
 intro a ha
 unfold fbump at ha
 rw [List.mem_iff_getElem] at ha
 obtain ⟨i, hi, rfl⟩ := ha
 rw [List.getElem_modify]
 have hi' : i < l.length := by simpa using hi
 have hm := h _ (List.getElem_mem hi')
 split
 ·exact (Bd.sat hm (hv.mono (by decide)) (by decide) (by decide)).2
 ·exact hm
theorem fadds_ok : ∀ (t : List (Nat × Nat)) (l : List Nat), CellsBd l -> (∀ p ∈ t, Bd p.2 68) -> FaddsOk t l /\ CellsBd (fadds t l)
 | [], l, h, _ => ⟨trivial, h⟩
 | (k, v) :: t, l, h, hv => by
  have hv0 := hv (k, v) (by simp)
  obtain ⟨a, b⟩ := fadds_ok t (fbump l k v) (h.bump hv0) fun p hp => hv p (by simp [hp])
  exact ⟨⟨fun _ => (Bd.sat (h.at k) (hv0.mono (by decide)) (by decide) (by decide)).1, a⟩, b⟩
theorem edgesB_flo (W : Nat) (H : Int) : ∀ (es : List (Pt × Pt)) (l : List Nat), edgesB W H es (.flo l) = .flo (fadds (edgesF W H es) l)
 | [], _ => rfl
 | e :: t, l => by rw [edgesB, edgeB, lineB, edgesB_flo W H t, edgesF, fadds_append]; rfl
theorem edgesF_ok (W : Nat) (H : Int) : ∀ (es : List (Pt × Pt)) (l : List Nat), CellsBd l -> (∀ e ∈ es, Small e.1 /\ Small e.2) -> EdgesOk W H es (.flo l) /\ CellsBd (fadds (edgesF W H es) l)
 | [], l, h, _ => ⟨trivial, h⟩
 | e :: t, l, h, hs => by
  obtain ⟨s1, s2⟩ := hs e (by simp)
  obtain ⟨o1, o2⟩ := edgeF_ok W H s1 s2
  obtain ⟨a1, a2⟩ := fadds_ok (edgeF W H e) l h o2
  obtain ⟨i1, i2⟩ := edgesF_ok W H t (fadds (edgeF W H e) l) a2 fun e' he => hs e' (by simp [he])
  refine ⟨⟨⟨o1, a1⟩, i1⟩, ?_⟩
  rw [edgesF, fadds_append]
  exact i2
theorem fneg_ok {a : Nat} (ha : F32 a) : F32 (fneg a) /\ V (fneg a) = -V a := by
 obtain ⟨s, m, i, ea⟩ := ha
 have hr : Ieee.single.read (fneg a) = .number (!s) m i := by
  have e : fneg a = a ^^^ 2147483648 := rfl
  have hsw : Ieee.single.signWeight = 2147483648 := by decide
  have hmod : (a ^^^ 2147483648) % 2147483648 = a % 2147483648 := by
   have := Nat.xor_mod_two_pow (a := a) (b := 2147483648) (n := 31)
   simpa using this
  have hdiv : (a ^^^ 2147483648) / 2147483648 = (a / 2147483648) ^^^ 1 := by
   have := Nat.xor_div_two_pow (a := a) (b := 2147483648) (n := 31)
   simpa using this
  have hpar : ((a / 2147483648) ^^^ 1) % 2 = 1 - a / 2147483648 % 2 := by
   have := Nat.xor_mod_two_pow (a := a / 2147483648) (b := 1) (n := 1)
   simp only [Nat.pow_one] at this
   rw [this]
   rcases Nat.mod_two_eq_zero_or_one (a / 2147483648) with h | h <;> rw [h] <;> rfl
  rw [e]
  unfold Ieee.Format.read at ea ⊢
  rw [hsw] at ea ⊢
  simp only at ea ⊢
  rw [hmod, hdiv, hpar]
  have hs2 : (1 - a / 2147483648 % 2 == 1) = !(a / 2147483648 % 2 == 1) := by
   rcases Nat.mod_two_eq_zero_or_one (a / 2147483648) with h | h <;> rw [h] <;> rfl
  rw [hs2]
  split at ea
  ·rename_i hc
   rw [if_pos hc]
   injection ea with h1 h2 h3
   rw [h1, h2, h3]
  ·rename_i hc
   rw [if_neg hc]
   split at ea
   ·rename_i hc2
    rw [if_pos hc2]
    injection ea with h1 h2 h3
    rw [h1, h2, h3]
   ·split at ea <;> cases ea
 obtain ⟨f1, f2⟩ := read_V hr
 refine ⟨f1, ?_⟩
 rw [f2, (read_V ea).2]
 cases s <;> simp [sgn] <;> grind
theorem c255 : F32 1132462079 /\ V 1132462079 = 16777215 * p2 (-16) := by
 obtain ⟨h1, h2⟩ := read_V (a := 1132462079) (s := false) (m := 16777215) (e := -16) (by decide)
 refine ⟨h1, ?_⟩
 rw [h2]
 simp only [sgn]
 push_cast
 grind
theorem p2_m16 : p2 (-16) = 1 / 65536 := by
 have h := p2_neg 16
 have e : p2 (-16) = p2 (-((16 : Nat) : Int)) := rfl
 rw [e]
 push_cast at h
 grind
theorem fint8_ok {a : Nat} (ha : F32 a) (h1 : 0 <= truncR (V a)) (h2 : truncR (V a) <= 255) : Iok8 a /\ fint8 a = truncR (V a) := by
 have h : (FloatKind.f32.decode a).toInt .zero = some (truncR (V a)) := toInt_val (f := Ieee.single) ha (way := .zero) (by decide)
 have e : floatToIntVal .f32 a .u8 = some (truncR (V a)) := by
  unfold floatToIntVal
  rw [h]
  simp only [show IntKind.u8.min = 0 by decide, show IntKind.u8.max = 255 by decide]
  rw [if_pos ⟨h1, h2⟩]
 unfold Iok8 fint8
 rw [e]
 exact ⟨rfl, rfl⟩
theorem fpart_ok {a : Nat} (ha : F32 a) : F32 (fpart a) /\ V (fpart a) = (if 1 < Flt.ab (V a) then 1 else Flt.ab (V a)) := by
 obtain ⟨n1, n2⟩ := fneg_ok ha
 have h0 := flt_iff ha fzero.1
 rw [fzero.2] at h0
 have h1 := fgt_iff n1 fone.1.fin
 have h2 := fgt_iff ha fone.1.fin
 rw [fone.2] at h1 h2
 rw [n2] at h1
 unfold fpart
 by_cases hc : V a < 0
 ·rw [if_pos (h0.2 hc), ab_of_nonpos (by grind)]
  by_cases hd : 1 < -V a
  ·rw [if_pos (h1.2 hd), if_pos hd]
   exact ⟨fone.1.fin, fone.2⟩
  ·rw [if_neg (fun h => hd (h1.1 h)), if_neg hd]
   exact ⟨n1, n2⟩
 ·rw [if_neg (fun h => hc (h0.1 h)), ab_of_nonneg (by grind)]
  by_cases hd : 1 < V a
  ·rw [if_pos (h2.2 hd), if_pos hd]
   exact ⟨fone.1.fin, fone.2⟩
  ·rw [if_neg (fun h => hd (h2.1 h)), if_neg hd]
   exact ⟨ha, rfl⟩
theorem floByte_ok {a : Nat} (ha : F32 a) : FloByteOk a /\ ∃ r, R32 (16777215 / 65536 * V (fpart a)) r /\ floByte a = truncR (V r) /\ 0 <= V r /\ V r <= 16777215 / 65536 := by
 obtain ⟨p1, p2'⟩ := fpart_ok ha
 have hp0 : 0 <= V (fpart a) := by rw [p2']; have := ab_nonneg (V a); split <;> grind
 have hp1 : V (fpart a) <= 1 := by rw [p2']; split <;> grind
 obtain ⟨c1, c2⟩ := c255
 rw [p2_m16] at c2
 have hx0 : 0 <= V 1132462079 * V (fpart a) := by rw [c2]; exact Rat.mul_nonneg (by grind) hp0
 have hx1 : V 1132462079 * V (fpart a) <= 16777215 / 65536 := by
  rw [c2]
  have := Rat.mul_le_mul_of_nonneg_left hp1 (show (0 : Rat) <= 16777215 / 65536 by grind)
  grind
 obtain ⟨q1, q2⟩ := fmul_ok c1 p1 (big126 (by rw [ab_of_nonneg hx0]; grind))
 have hv0 := q2.nonneg hx0
 have hv1 : V (fop .mul 1132462079 (fpart a)) <= 16777215 / 65536 := by
  have := q2.le (n := 16777215) (q := -16) (by rw [p2_m16]; push_cast; grind) (by decide) (by decide) (by decide)
  rw [p2_m16] at this
  push_cast at this
  grind
 obtain ⟨t1, t2, _⟩ := truncR_pos_bd hv0
 have ht : truncR (V (fop .mul 1132462079 (fpart a))) <= 255 := by
  have h3 : ((truncR (V (fop .mul 1132462079 (fpart a))) : Int) : Rat) < ((256 : Int) : Rat) := by push_cast; grind
  have := Rat.intCast_lt_intCast.1 h3
  omega
 obtain ⟨i1, i2⟩ := fint8_ok q2.fin t1 ht
 refine ⟨⟨q1, i1⟩, _, ?_, i2, hv0, hv1⟩
 rw [c2] at q2
 have e : (16777215 : Rat) * (1 / 65536) = 16777215 / 65536 := by grind
 rw [e] at q2
 exact q2
theorem floBytes_ok : ∀ (l : List Nat) (acc : Nat), CellsBd l -> Bd acc 125 -> FloBytesOk acc l
 | [], _, _, _ => trivial
 | v :: t, acc, h, ha => by
  obtain ⟨s1, s2⟩ := Bd.sat ha ((h v (by simp)).mono (by decide)) (by decide) (by decide)
  exact ⟨s1, (floByte_ok s2.fin).1, floBytes_ok t _ (fun a ha => h a (by simp [ha])) s2⟩
end Go.Proofs.Ytmgcbodlolnheaa
namespace Go.Proofs.Ytmgcbodlolnheaa
open Go.ChangeShapes Go.WideShapes Go.ChangeAt Go.RowKit
set_option linter.unusedVariables false
theorem info78 : (Try.prog.info? 78).map (fun i => (i.zero, i.size, i.bytes)) = some (some (.agg #[.int .i64 0, .int .i64 0, .int .i64 0, .int .i64 0]), 4, 32) := by kernel_rfl
def edgeCells (l : List ((Int × Int) × (Int × Int))) : List Value := l.flatMap fun e => [.int .i64 e.1.1, .int .i64 e.1.2, .int .i64 e.2.1, .int .i64 e.2.2]
theorem edgeCells_snoc (l : List ((Int × Int) × (Int × Int))) (e : (Int × Int) × (Int × Int)) : edgeCells (l ++ [e]) = edgeCells l ++ [.int .i64 e.1.1, .int .i64 e.1.2, .int .i64 e.2.1, .int .i64 e.2.2] := by simp [edgeCells]
def polyTo (pts : List (Int × Int)) (k : Nat) : List ((Int × Int) × (Int × Int)) := (List.range k).map fun i => (pts.getD i (0, 0), pts.getD ((i + 1) % pts.length) (0, 0))
theorem polyTo_succ (pts : List (Int × Int)) (k : Nat) : polyTo pts (k + 1) = polyTo pts k ++ [(pts.getD k (0, 0), pts.getD ((k + 1) % pts.length) (0, 0))] := by
 simp [polyTo, List.range_succ]
def PolyS (w : World) (pts : List (Int × Int)) (k : Nat) (v : Value) (wr : World) : Prop := wr.ownsRow w.heap.size 78 4 v k (edgeCells (polyTo pts k)) /\ Same w wr
theorem cells_new4 (W : World) (t : TypeId) (a b c d : Value) (n : Nat) (hn : n = W.heap.size) : ∀ (j : Nat) (u : Value), [a, b, c, d][j]? = some u -> (W.alloc (.cells #[a, b, c, d] t)).cell? ((⟨n, 0, none⟩ : Addr).add j) = some u := by
 subst hn
 intro j u hu
 have hb := Blk.new W t #[a, b, c, d]
 have e : (⟨W.heap.size, 0, none⟩ : Addr).add j = ⟨W.heap.size, j, none⟩ := by unfold Addr.add; split <;> simp_all
 rw [e, hb.cell]
 simpa using hu
set_option maxHeartbeats 1000000 in
set_option maxRecDepth 100000 in
theorem poly_cons (pts : List (Int × Int)) (g off cap : Nat) (w : World) (hpos : 0 < pts.length) (hlen : pts.length <= 1000000) (hp : PtsCells w w.heap.size g off pts) :
  Calls Try.prog 32 #[.slice (some ⟨g, off, none⟩) pts.length cap] w fun e w' => ∃ v, e = .returned v /\ PolyS w pts pts.length v w' := by
 have HP := hid hp
 clear hp
 obtain ⟨i0, hi, hz0, hz1, hz2⟩ := info_parts info78
 go_enter Try.func32, Try.ntmps32
 go_wp2_with fail
 go_loopw [3, 9] (fun v i wr => ∃ k : Nat, k <= pts.length /\ i = .int .i64 k /\ PolyS w pts k v wr) (fun _ i _ => pts.length - (intOf i).toNat)
 case atStart => exact ⟨0, Nat.zero_le _, rfl, World.ownsRow_nil _ _ _ _, Kept.refl _ _⟩
 case round =>
  obtain ⟨k, hk, rfl, q1, q2⟩ := hrel
  by_cases hlt : k < pts.length
  ·have hpc := HP.out.kept q2 (Nat.le_refl _) (fun _ _ hf => hf)
   obtain ⟨q, hq⟩ : ∃ q, q = (k + 1) % pts.length := ⟨_, rfl⟩
   have hql : q < pts.length := by rw [hq]; exact Nat.mod_lt _ hpos
   have hrem : ((k : Int) + 1).tmod (pts.length : Int) = (q : Int) := by
    rw [hq]
    rw [show ((k : Int) + 1) = ((k + 1 : Nat) : Int) by push_cast; rfl]
    exact Int.ofNat_tmod (k + 1) pts.length |>.symm
   have hn0 : ¬ (pts.length : Int) = 0 := by omega
   obtain ⟨c0, c1⟩ := hpc.2 k hlt
   obtain ⟨d0, d1⟩ := hpc.2 q hql
   have hg : g < wr.heap.size := Nat.lt_of_lt_of_le hpc.1 q2.size
   have hsz := q2.size
   have hnext := polyTo_succ pts k
   rw [<- hq, show pts.getD k (0, 0) = pts[k] by simp [List.getD, hlt], show pts.getD q (0, 0) = pts[q] by simp [List.getD, hql]] at hnext
   generalize pts[k] = p at c0 c1 hnext
   generalize pts[q] = p' at d0 d1 hnext
   have HN := hid hnext
   have Q1 := hid q1
   have Q2 := hid q2
   have HQ := hid hq
   have hg1 : g < wr.heap.size + 1 := by omega
   have hqi : (q : Int) < pts.length := by omega
   clear hpc hnext q1 q2 hq
   go_wp2_with (at_builtin; go_loud (refine wpList_append_own _ rfl _ _ 40 rfl w.heap.size 78 i0 (.agg #[.int .i64 0, .int .i64 0, .int .i64 0, .int .i64 0]) 4 32 Try.underlying40 hi hz0 hz1 hz2 rfl (by decide) _ _ _ rfl (((Q1.out.alloc _).alloc _).alloc _) ⟨wr.heap.size + 2, 0, none⟩ 1 1 [.int .i64 p.1, .int .i64 p.2, .int .i64 p'.1, .int .i64 p'.2] rfl rfl ?c1 ?c2 ?c3 ?c4 ?c5 ?_))
   case c1 => exact cells_new4 _ _ _ _ _ _ _ (by simp)
   case c2 => intro u hu; simp at hu; rcases hu with rfl | rfl | rfl | rfl <;> rfl
   case c3 => unfold maxLen; omega
   case c4 => omega
   case c5 => simp; omega
   intro v' w1 hown' hgrow _
   have R : PolyS w pts (k + 1) v' w1 := by
    refine ⟨?_, (((Q2.out.alloc _).alloc _).alloc _).grown hgrow fun x hx => .inl (Q1.out.lt x hx).1⟩
    rw [HN.out, edgeCells_snoc]
    exact hown'
   have R1 := hid R
   clear R hown' hgrow
   go_wp2_with fail
   go_roundw
   case measure => simp [intOf]; omega
   case rel => exact ⟨k + 1, by omega, by go_num, R1.out⟩
  ·obtain rfl : k = pts.length := by omega
   have Q1 := hid q1
   have Q2 := hid q2
   clear q1 q2
   go_wp2_with fail
   go_ret
   exact ⟨_, rfl, Q1.out, Q2.out⟩
abbrev Edge := (Int × Int) × (Int × Int)
def EdgesCells (w : World) (B g off : Nat) (l : List Edge) : Prop :=
 g < B /\ ∀ j, (h : j < l.length) -> w.cell? ⟨g, off + j * 4, none⟩ = some (.int .i64 (l[j]).1.1) /\ w.cell? ⟨g, off + j * 4 + 1, none⟩ = some (.int .i64 (l[j]).1.2) /\
  w.cell? ⟨g, off + j * 4 + 2, none⟩ = some (.int .i64 (l[j]).2.1) /\ w.cell? ⟨g, off + j * 4 + 3, none⟩ = some (.int .i64 (l[j]).2.2)
theorem EdgesCells.kept {S : Nat -> Prop} {w w' : World} {B g off : Nat} {l : List Edge} (h : EdgesCells w B g off l) (hk : Kept S w w') (hB : B <= w.heap.size) (hS : ∀ k, k < B -> ¬ S k) : EdgesCells w' B g off l := by
 refine ⟨h.1, fun j hj => ?_⟩
 obtain ⟨a, b, c, d⟩ := h.2 j hj
 have hg : g < w.heap.size := Nat.lt_of_lt_of_le h.1 hB
 exact ⟨by rw [hk.cell hg (hS _ h.1)]; exact a, by rw [hk.cell hg (hS _ h.1)]; exact b, by rw [hk.cell hg (hS _ h.1)]; exact c, by rw [hk.cell hg (hS _ h.1)]; exact d⟩
end Go.Proofs.Ytmgcbodlolnheaa
