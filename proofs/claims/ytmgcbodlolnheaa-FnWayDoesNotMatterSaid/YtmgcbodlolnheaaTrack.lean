/-
  In the numbers of fixed point: where a line is, row by row. No program is walked here.
-/
import Derived.Test.YtmgcbodlolnheaaPathRun
namespace Go.Proofs.Ytmgcbodlolnheaa
open Flt
set_option linter.unusedVariables false

/-- The slope's word, of a line so far to the right and so far down. -/
def slopeW (m1 m2 m3 m4 : Int) : Nat := fop .quo (fop .sub (wq m3) (wq m1)) (fop .sub (wq m4) (wq m2))
structure Span (m1 m2 m3 m4 : Int) : Prop where
  a1 : -262144 ≤ m1 ∧ m1 ≤ 262144
  a2 : -262144 ≤ m2 ∧ m2 ≤ 262144
  a3 : -262144 ≤ m3 ∧ m3 ≤ 262144
  a4 : -262144 ≤ m4 ∧ m4 ≤ 262144
  lt : m2 < m4
theorem cast_zero : ((0 : Int) : Rat) = 0 := rfl
theorem R32.nonneg {x : Rat} {r : Nat} (h : R32 x r) (hx : 0 ≤ x) : 0 ≤ V r := by
  have := h.geInt (n := 0) (by rw [cast_zero]; exact hx) (by decide) (by decide)
  rwa [cast_zero] at this
theorem fint8of {m : Int} (hq : Q64 (wq m) m) (hb : -262144 ≤ m ∧ m ≤ 262144) : fint (fop .mul (wq m) 1140850688) = 8 * m := by
  have hbd := hq.bd (m := 262144) (by omega) (by omega)
  push_cast at hbd
  obtain ⟨m1, m2, m3⟩ := mul512 hq.1 (by grind)
  have hv : V (fop .mul (wq m) 1140850688) = ((8 * m : Int) : Rat) := by rw [m3, hq.2]; push_cast; grind
  have ht : truncR (V (fop .mul (wq m) 1140850688)) = 8 * m := by rw [hv, truncR_int]
  rw [(fint_ok m2 (by rw [ht]; omega) (by rw [ht]; omega)).2, ht]
section
variable {m1 m2 m3 m4 : Int} (h : Span m1 m2 m3 m4)
include h
theorem Span.q1 : Q64 (wq m1) m1 := by have := h.a1; exact (wq_ok (by omega) (by omega)).2
theorem Span.q2 : Q64 (wq m2) m2 := by have := h.a2; exact (wq_ok (by omega) (by omega)).2
theorem Span.q3 : Q64 (wq m3) m3 := by have := h.a3; exact (wq_ok (by omega) (by omega)).2
theorem Span.q4 : Q64 (wq m4) m4 := by have := h.a4; exact (wq_ok (by omega) (by omega)).2
theorem Span.subX : Fok .sub (wq m3) (wq m1) ∧ Q64 (fop .sub (wq m3) (wq m1)) (m3 - m1) := by
  have := h.a1; have := h.a3
  exact h.q3.sub h.q1 (by omega) (by omega)
theorem Span.subY : Fok .sub (wq m4) (wq m2) ∧ Q64 (fop .sub (wq m4) (wq m2)) (m4 - m2) := by
  have := h.a2; have := h.a4
  exact h.q4.sub h.q2 (by omega) (by omega)
theorem Span.dpos : (1 : Rat) ≤ ((m4 - m2 : Int) : Rat) := by have := h.lt; exact_mod_cast (by omega : (1 : Int) ≤ m4 - m2)
/-- Not taken for horizontal. -/
theorem Span.goes : fle (fop .sub (wq m4) (wq m2)) 897988541 = false := by
  obtain ⟨d1, d2⟩ := h.subY
  rw [Bool.eq_false_iff]
  intro hc
  have h1 := (fle_iff d2.1 cTiny.1).1 hc
  have h2 := cTiny.2.2
  have h3 := h.dpos
  rw [d2.2] at h1
  grind
/-- The slope. -/
theorem Span.slope : R32 (((m3 - m1 : Int) : Rat) / ((m4 - m2 : Int) : Rat)) (slopeW m1 m2 m3 m4) ∧ Fok .quo (fop .sub (wq m3) (wq m1)) (fop .sub (wq m4) (wq m2)) := by
  obtain ⟨_, x2⟩ := h.subX
  obtain ⟨_, y2⟩ := h.subY
  have hd := h.dpos
  have hX := x2.bd (m := 524288) (by have := h.a1; have := h.a3; omega) (by have := h.a1; have := h.a3; omega)
  obtain ⟨q1, q2⟩ := fquo_ok x2.1 y2.1 (by rw [y2.2]; grind) (by
    rw [y2.2, ab_of_nonneg (x := ((m4 - m2 : Int) : Rat) / 64) (by grind)]
    have h4 : (1000000000000000000000000000000 : Rat) ≤ p2 125 := big125 Rat.le_refl
    have := Rat.mul_le_mul_of_nonneg_left (show (1 : Rat) / 64 ≤ ((m4 - m2 : Int) : Rat) / 64 by grind) (show (0 : Rat) ≤ p2 125 by grind)
    push_cast at hX
    grind)
  refine ⟨?_, q1⟩
  have e : V (fop .sub (wq m3) (wq m1)) / V (fop .sub (wq m4) (wq m2)) = ((m3 - m1 : Int) : Rat) / ((m4 - m2 : Int) : Rat) := by
    rw [x2.2, y2.2]
    generalize ((m3 - m1 : Int) : Rat) = X
    generalize ((m4 - m2 : Int) : Rat) = Y at *
    grind
  rw [e] at q2
  exact q2
theorem Span.fxl_is (s : Bool) : fxl s (wq m1) (wq m2) (wq m3) (wq m4) = ⟨8 * m2, 8 * m4, if s then -1 else 1, slopeW m1 m2 m3 m4⟩ := by
  unfold fxl
  rw [fint8of h.q2 h.a2, fint8of h.q4 h.a4]
  rfl
end

/-- Cut towards zero, both signs alike. -/
theorem truncR_neg (x : Rat) : truncR (-x) = -truncR x := by
  unfold truncR
  rcases Rat.le_total (a := 0) (b := x) with h | h
  · by_cases h0 : x = 0
    · subst h0
      simp
      exact Rat.floor_intCast 0
    · rw [if_pos h, if_neg (by grind), Rat.neg_neg]
  · by_cases h0 : x = 0
    · subst h0
      simp
      exact Rat.floor_intCast 0
    · rw [if_neg (by grind : ¬ 0 ≤ x), if_pos (by grind)]
      omega
theorem truncR_pos_bd {x : Rat} (h : 0 ≤ x) : 0 ≤ truncR x ∧ (truncR x : Rat) ≤ x ∧ x < truncR x + 1 := by
  unfold truncR
  rw [if_pos h]
  have h1 := Rat.floor_le x
  have h2 := Rat.lt_floor_add_one x
  push_cast at h2
  exact ⟨(Rat.le_floor_iff).2 (by rw [cast_zero]; exact h), h1, h2⟩

/-- One row's step: n (of 512) high, the slope S's word being dd. -/
theorem row_step {n : Int} {S : Rat} {dd : Nat} (h0 : 0 ≤ n) (h1 : n ≤ 512) (hdd : R32 S dd) (hS : 0 ≤ S) (hb : n * S ≤ 1000000000) :
    0 ≤ fint (fop .mul (floatOfInt .f32 n) dd) ∧ (fint (fop .mul (floatOfInt .f32 n) dd) : Rat) ≤ n * S * (4194305 / 4194304) + 1 / 1000000 ∧
      n * S * (4194303 / 4194304) - 1 - 1 / 1000000 ≤ fint (fop .mul (floatOfInt .f32 n) dd) := by
  have hn0 : (0 : Rat) ≤ n := by exact_mod_cast h0
  have hn1 : (n : Rat) ≤ 512 := by
    have := Rat.intCast_le_intCast.2 h1
    push_cast at this
    exact this
  obtain ⟨o1, o2⟩ := ofInt_small h0 (by omega)
  obtain ⟨e1, e2⟩ := hdd.near5
  rw [ab_of_nonneg hS] at e1 e2
  have g1 := le_ab (V dd - S)
  have g2 := neg_le_ab (V dd - S)
  have hdd0 : 0 ≤ V dd := hdd.nonneg hS
  have hup : V dd ≤ S * (16777217 / 16777216) + 1 / 1000000000000000000000000000000 := by grind
  have hlo : S * (16777215 / 16777216) - 1 / 1000000000000000000000000000000 ≤ V dd := by grind
  have m1 := Rat.mul_le_mul_of_nonneg_left hup hn0
  have m2 := Rat.mul_le_mul_of_nonneg_left hlo hn0
  have hnS := Rat.mul_nonneg hn0 hS
  have hnd := Rat.mul_nonneg hn0 hdd0
  obtain ⟨q1, q2⟩ := fmul_ok o1 hdd.fin (by
    rw [o2, ab_of_nonneg hnd]
    refine big126 ?_
    grind)
  rw [o2] at q2
  obtain ⟨e3, e4⟩ := q2.near5
  rw [ab_of_nonneg hnd] at e3 e4
  have g3 := le_ab (V (fop .mul (floatOfInt .f32 n) dd) - n * V dd)
  have g4 := neg_le_ab (V (fop .mul (floatOfInt .f32 n) dd) - n * V dd)
  have hp0 : 0 ≤ V (fop .mul (floatOfInt .f32 n) dd) := q2.nonneg hnd
  obtain ⟨t1, t2, t3⟩ := truncR_pos_bd hp0
  have hub : V (fop .mul (floatOfInt .f32 n) dd) ≤ 1500000000 := by grind
  obtain ⟨_, i2⟩ := fint_ok q2.fin (by omega) (truncR_le (by push_cast; grind))
  rw [i2]
  refine ⟨t1, ?_, ?_⟩ <;> grind
theorem R32.nonpos {x : Rat} {r : Nat} (h : R32 x r) (hx : x ≤ 0) : V r ≤ 0 := by
  have := h.leInt (n := 0) (by rw [cast_zero]; exact hx) (by decide) (by decide)
  rwa [cast_zero] at this
theorem row_step_neg {n : Int} {S : Rat} {dd : Nat} (h0 : 0 ≤ n) (h1 : n ≤ 512) (hdd : R32 S dd) (hS : S ≤ 0) (hb : -1000000000 ≤ n * S) :
    fint (fop .mul (floatOfInt .f32 n) dd) ≤ 0 ∧ n * S * (4194305 / 4194304) - 1 / 1000000 ≤ (fint (fop .mul (floatOfInt .f32 n) dd) : Rat) ∧
      (fint (fop .mul (floatOfInt .f32 n) dd) : Rat) ≤ n * S * (4194303 / 4194304) + 1 + 1 / 1000000 := by
  have hn0 : (0 : Rat) ≤ n := by exact_mod_cast h0
  have hn1 : (n : Rat) ≤ 512 := by
    have := Rat.intCast_le_intCast.2 h1
    push_cast at this
    exact this
  obtain ⟨o1, o2⟩ := ofInt_small h0 (by omega)
  obtain ⟨e1, e2⟩ := hdd.near5
  rw [ab_of_nonpos hS] at e1 e2
  have g1 := le_ab (V dd - S)
  have g2 := neg_le_ab (V dd - S)
  have hdd0 : V dd ≤ 0 := hdd.nonpos hS
  have hup : -(V dd) ≤ -S * (16777217 / 16777216) + 1 / 1000000000000000000000000000000 := by grind
  have hlo : -S * (16777215 / 16777216) - 1 / 1000000000000000000000000000000 ≤ -(V dd) := by grind
  have m1 := Rat.mul_le_mul_of_nonneg_left hup hn0
  have m2 := Rat.mul_le_mul_of_nonneg_left hlo hn0
  have hnS := Rat.mul_nonneg hn0 (show 0 ≤ -S by grind)
  have hnd := Rat.mul_nonneg hn0 (show 0 ≤ -(V dd) by grind)
  have hnd' : n * V dd ≤ 0 := by grind
  obtain ⟨q1, q2⟩ := fmul_ok o1 hdd.fin (by
    rw [o2, ab_of_nonpos hnd']
    refine big126 ?_
    grind)
  rw [o2] at q2
  obtain ⟨e3, e4⟩ := q2.near5
  rw [ab_of_nonpos hnd'] at e3 e4
  have g3 := le_ab (V (fop .mul (floatOfInt .f32 n) dd) - n * V dd)
  have g4 := neg_le_ab (V (fop .mul (floatOfInt .f32 n) dd) - n * V dd)
  have hp0 : V (fop .mul (floatOfInt .f32 n) dd) ≤ 0 := q2.nonpos hnd'
  obtain ⟨t1, t2, t3⟩ := truncR_pos_bd (x := -(V (fop .mul (floatOfInt .f32 n) dd))) (by grind)
  rw [truncR_neg] at t1 t2 t3
  push_cast at t2 t3
  have hub : -1500000000 ≤ V (fop .mul (floatOfInt .f32 n) dd) := by grind
  obtain ⟨_, i2⟩ := fint_ok q2.fin (le_truncR (by push_cast; grind)) (by omega)
  rw [i2]
  refine ⟨by omega, ?_, ?_⟩ <;> grind

/-- How far down the line has come at row y, in 512ths. -/
def prog (m2 m4 y : Int) : Int := imin (imax (y * 512) (8 * m2)) (8 * m4) - 8 * m2
theorem prog_bd {m2 m4 : Int} (h : m2 < m4) (y : Int) : 0 ≤ prog m2 m4 y ∧ prog m2 m4 y ≤ 8 * (m4 - m2) := by unfold prog imin imax; split <;> split <;> omega
theorem prog_first {m2 m4 : Int} (h : m2 < m4) : prog m2 m4 (8 * m2 / 512) = 0 := by unfold prog imin imax; split <;> split <;> omega
theorem prog_last {m2 m4 : Int} (h : m2 < m4) : prog m2 m4 ((8 * m4 + 511) / 512) = 8 * (m4 - m2) := by unfold prog imin imax; split <;> split <;> omega
theorem prog_next {m2 m4 y : Int} (h : m2 < m4) (h1 : 8 * m2 / 512 ≤ y) (h2 : y < (8 * m4 + 511) / 512) :
    prog m2 m4 (y + 1) = prog m2 m4 y + (imin ((y + 1) * 512) (8 * m4) - imax (y * 512) (8 * m2)) ∧ 0 ≤ imin ((y + 1) * 512) (8 * m4) - imax (y * 512) (8 * m2) ∧ imin ((y + 1) * 512) (8 * m4) - imax (y * 512) (8 * m2) ≤ 512 := by
  unfold prog imin imax
  split <;> split <;> split <;> split <;> (try split) <;> (try split) <;> omega
/-- The slope. -/
def slopeR (m1 m2 m3 m4 : Int) : Rat := ((m3 - m1 : Int) : Rat) / ((m4 - m2 : Int) : Rat)
/-- Where a line is, x, behind n rows, being at row y: never past the exact place but for 1/4194304, and behind it by at most 1 a row. -/
structure On (m1 m2 m3 m4 : Int) (n : Nat) (y x : Int) : Prop where
  right : 0 ≤ m3 - m1 → 0 ≤ x - 8 * m1 ∧
    ((x - 8 * m1 : Int) : Rat) ≤ slopeR m1 m2 m3 m4 * prog m2 m4 y * (4194305 / 4194304) + n * (1 / 1000000) ∧
    slopeR m1 m2 m3 m4 * prog m2 m4 y * (4194303 / 4194304) - n * (1 + 1 / 1000000) ≤ ((x - 8 * m1 : Int) : Rat)
  left : m3 - m1 ≤ 0 → x - 8 * m1 ≤ 0 ∧
    slopeR m1 m2 m3 m4 * prog m2 m4 y * (4194305 / 4194304) - n * (1 / 1000000) ≤ ((x - 8 * m1 : Int) : Rat) ∧
    ((x - 8 * m1 : Int) : Rat) ≤ slopeR m1 m2 m3 m4 * prog m2 m4 y * (4194303 / 4194304) + n * (1 + 1 / 1000000)
section
variable {m1 m2 m3 m4 : Int} (h : Span m1 m2 m3 m4)
include h
theorem Span.slopeR_mul : slopeR m1 m2 m3 m4 * ((m4 - m2 : Int) : Rat) = ((m3 - m1 : Int) : Rat) := by
  unfold slopeR
  have := h.dpos
  rw [Rat.div_mul_cancel]
  grind
theorem Span.slopeR_nonneg (hp : 0 ≤ m3 - m1) : 0 ≤ slopeR m1 m2 m3 m4 := by
  unfold slopeR
  have := h.dpos
  rw [Rat.div_def]
  exact Rat.mul_nonneg (by exact_mod_cast hp) (Rat.le_of_lt (Rat.inv_pos.2 (by grind)))
theorem Span.slopeR_nonpos (hp : m3 - m1 ≤ 0) : slopeR m1 m2 m3 m4 ≤ 0 := by
  have e := h.slopeR_mul
  have hd := h.dpos
  have hx : ((m3 - m1 : Int) : Rat) ≤ 0 := by exact_mod_cast hp
  rcases Rat.le_total (a := slopeR m1 m2 m3 m4) (b := 0) with h1 | h1
  · exact h1
  · have := Rat.mul_le_mul_of_nonneg_left hd h1
    grind
theorem Span.slope_prog {n : Int} (h0 : 0 ≤ n) (h1 : n ≤ 8 * (m4 - m2)) : (0 ≤ m3 - m1 → slopeR m1 m2 m3 m4 * n ≤ 8 * ((m3 - m1 : Int) : Rat)) ∧ (m3 - m1 ≤ 0 → 8 * ((m3 - m1 : Int) : Rat) ≤ slopeR m1 m2 m3 m4 * n) := by
  have e := h.slopeR_mul
  have hn : (n : Rat) ≤ 8 * ((m4 - m2 : Int) : Rat) := by
    have := Rat.intCast_le_intCast.2 h1
    push_cast at this ⊢
    exact this
  constructor
  · intro hp
    have := Rat.mul_le_mul_of_nonneg_left hn (h.slopeR_nonneg hp)
    grind
  · intro hp
    have h2 := h.slopeR_nonpos hp
    have := Rat.mul_le_mul_of_nonneg_left hn (show 0 ≤ -slopeR m1 m2 m3 m4 by grind)
    grind
theorem On.first : On m1 m2 m3 m4 0 (8 * m2 / 512) (8 * m1) := by
  have e := prog_first h.lt
  constructor
  · intro _
    rw [e, Int.sub_self, cast_zero]
    refine ⟨Int.le_refl _, ?_, ?_⟩ <;> grind
  · intro _
    rw [e, Int.sub_self, cast_zero]
    refine ⟨Int.le_refl _, ?_, ?_⟩ <;> grind
theorem On.next {dir : Int} {n : Nat} {y x : Int} (ho : On m1 m2 m3 m4 n y x) (h1 : 8 * m2 / 512 ≤ y) (h2 : y < (8 * m4 + 511) / 512) :
    On m1 m2 m3 m4 (n + 1) (y + 1) (x + (⟨8 * m2, 8 * m4, dir, slopeW m1 m2 m3 m4⟩ : FL).dx y) := by
  obtain ⟨p1, p2, p3⟩ := prog_next h.lt h1 h2
  have hd : (⟨8 * m2, 8 * m4, dir, slopeW m1 m2 m3 m4⟩ : FL).dx y = fint (fop .mul (floatOfInt .f32 (imin ((y + 1) * 512) (8 * m4) - imax (y * 512) (8 * m2))) (slopeW m1 m2 m3 m4)) := rfl
  rw [hd]
  have hpb := prog_bd h.lt (y + 1)
  have hpb0 := prog_bd h.lt y
  generalize imin ((y + 1) * 512) (8 * m4) - imax (y * 512) (8 * m2) = k at *
  have hsl := h.slope.1
  have hbig : ab ((m3 - m1 : Int) : Rat) ≤ 524288 := by
    have := ab_int_le (n := m3 - m1) (b := 524288) (by have := h.a1; have := h.a3; omega) (by have := h.a1; have := h.a3; omega)
    push_cast at this ⊢
    exact this
  have b1 := le_ab ((m3 - m1 : Int) : Rat)
  have b2 := neg_le_ab ((m3 - m1 : Int) : Rat)
  have hpr := h.slope_prog (n := k) p2 (by omega)
  have e1 : ((prog m2 m4 (y + 1) : Int) : Rat) = prog m2 m4 y + k := by rw [p1]; push_cast; rfl
  have e2 : ((n + 1 : Nat) : Rat) = n + 1 := by push_cast; rfl
  constructor
  · intro hp
    obtain ⟨o1, o2, o3⟩ := ho.right hp
    obtain ⟨r1, r2, r3⟩ := row_step p2 p3 hsl (h.slopeR_nonneg hp) (by have := hpr.1 hp; unfold slopeR at this; grind)
    have e3 : ((x + fint (fop .mul (floatOfInt .f32 k) (slopeW m1 m2 m3 m4)) - 8 * m1 : Int) : Rat) = ((x - 8 * m1 : Int) : Rat) + fint (fop .mul (floatOfInt .f32 k) (slopeW m1 m2 m3 m4)) := by push_cast; grind
    rw [e3, e1, e2]
    unfold slopeR at *
    refine ⟨by omega, ?_, ?_⟩ <;> grind
  · intro hp
    obtain ⟨o1, o2, o3⟩ := ho.left hp
    obtain ⟨r1, r2, r3⟩ := row_step_neg p2 p3 hsl (h.slopeR_nonpos hp) (by have := hpr.2 hp; unfold slopeR at this; grind)
    have e3 : ((x + fint (fop .mul (floatOfInt .f32 k) (slopeW m1 m2 m3 m4)) - 8 * m1 : Int) : Rat) = ((x - 8 * m1 : Int) : Rat) + fint (fop .mul (floatOfInt .f32 k) (slopeW m1 m2 m3 m4)) := by push_cast; grind
    rw [e3, e1, e2]
    unfold slopeR at *
    refine ⟨by omega, ?_, ?_⟩ <;> grind
/-- The line never leaves the span of its ends. -/
theorem On.within {n : Nat} {y x : Int} (ho : On m1 m2 m3 m4 n y x) (hs1 : m3 - m1 ≤ 131072) (hs2 : -131072 ≤ m3 - m1) (hn : n ≤ 100000) : imin (8 * m1) (8 * m3) ≤ x ∧ x ≤ imax (8 * m1) (8 * m3) := by
  obtain ⟨p1, p2⟩ := prog_bd h.lt y
  have hpr := h.slope_prog p1 p2
  have hn' : (n : Rat) ≤ 100000 := by
    have := Rat.natCast_le_natCast.2 hn
    push_cast at this
    exact this
  have hc1 : ((m3 - m1 : Int) : Rat) ≤ 131072 := by
    have := Rat.intCast_le_intCast.2 hs1
    push_cast at this ⊢
    exact this
  have hc2 : -131072 ≤ ((m3 - m1 : Int) : Rat) := by
    have := Rat.intCast_le_intCast.2 hs2
    push_cast at this ⊢
    exact this
  rcases Int.le_total 0 (m3 - m1) with hp | hp
  · obtain ⟨o1, o2, _⟩ := ho.right hp
    have := hpr.1 hp
    have hlt : ((x - 8 * m1 : Int) : Rat) < ((8 * (m3 - m1) + 1 : Int) : Rat) := by
      rw [show ((8 * (m3 - m1) + 1 : Int) : Rat) = 8 * ((m3 - m1 : Int) : Rat) + 1 by push_cast; grind]
      grind
    have := Rat.intCast_lt_intCast.1 hlt
    unfold imin imax
    constructor <;> split <;> omega
  · obtain ⟨o1, o2, _⟩ := ho.left hp
    have := hpr.2 hp
    have hlt : ((8 * (m3 - m1) - 1 : Int) : Rat) < ((x - 8 * m1 : Int) : Rat) := by
      rw [show ((8 * (m3 - m1) - 1 : Int) : Rat) = 8 * ((m3 - m1 : Int) : Rat) - 1 by push_cast; grind]
      grind
    have := Rat.intCast_lt_intCast.1 hlt
    unfold imin imax
    constructor <;> split <;> omega
end
end Go.Proofs.Ytmgcbodlolnheaa
