/-
  A line in the numbers of fixed point goes well: no operation leaves its kind.
-/
import Derived.Test.YtmgcbodlolnheaaFixNum
namespace Go.Proofs.Ytmgcbodlolnheaa
open Flt

/-! ### constants -/
theorem p2_neg (n : Nat) : p2 (-(n : Int)) * ((2 ^ n : Nat) : Rat) = 1 := by rw [← p2_nat, ← p2_add, show -(n : Int) + n = 0 by omega, p2_zero]
theorem read_V {a : Nat} {s : Bool} {m : Nat} {e : Int} (h : Ieee.single.read a = .number s m e) : F32 a ∧ V a = sgn s * m * p2 e :=
  ⟨⟨s, m, e, h⟩, by show dval (Ieee.single.read a) = _; rw [h]; rfl⟩
theorem c512 : F32 1140850688 ∧ V 1140850688 = 512 := by
  obtain ⟨h1, h2⟩ := read_V (a := 1140850688) (s := false) (m := 8388608) (e := -14) (by decide)
  refine ⟨h1, ?_⟩
  rw [h2]
  have := p2_neg 14
  simp only [sgn]
  push_cast at this ⊢
  grind
theorem cTiny : F32 897988541 ∧ (999 : Rat) / 1000000000 ≤ V 897988541 ∧ V 897988541 ≤ 1 / 1000000 := by
  obtain ⟨h1, h2⟩ := read_V (a := 897988541) (s := false) (m := 8796093) (e := -43) (by decide)
  refine ⟨h1, ?_⟩
  rw [h2]
  have := p2_neg 43
  simp only [sgn]
  push_cast at this ⊢
  constructor <;> grind
theorem fzero : F32 0 ∧ V 0 = 0 := by
  obtain ⟨h1, h2⟩ := read_V (a := 0) (s := false) (m := 0) (e := -149) (by decide)
  exact ⟨h1, by rw [h2]; simp⟩

/-! ### sizes -/
theorem p2_100 : (1000000000000000000000000000000 : Rat) ≤ p2 100 := by
  have : p2 ((100 : Nat) : Int) = ((2 ^ 100 : Nat) : Rat) := p2_nat 100
  have e : p2 100 = ((2 ^ 100 : Nat) : Rat) := this
  rw [e]
  push_cast
  grind
theorem big126 {x : Rat} (h : x ≤ 1000000000000000000000000000000) : x ≤ p2 126 := Rat.le_trans h (Rat.le_trans p2_100 (p2_mono (by decide)))
theorem big125 {x : Rat} (h : x ≤ 1000000000000000000000000000000) : x ≤ p2 125 := Rat.le_trans h (Rat.le_trans p2_100 (p2_mono (by decide)))
theorem p2_m24 : p2 (-24) = 1 / 16777216 := by
  have h := p2_neg 24
  have e : p2 (-24) = p2 (-((24 : Nat) : Int)) := rfl
  rw [e]
  push_cast at h
  grind
/-- What is less than everything here. -/
theorem p2_m150 : p2 (-150) ≤ 1 / 1000000000000000000000000000000 ∧ 0 < p2 (-150) := by
  refine ⟨?_, p2_pos _⟩
  have h1 : p2 (-150) ≤ p2 (-100) := p2_mono (by decide)
  have h := p2_neg 100
  have e : p2 (-100) = p2 (-((100 : Nat) : Int)) := rfl
  have h2 := p2_100
  have e2 : p2 100 = ((2 ^ 100 : Nat) : Rat) := p2_nat 100
  rw [← e2] at h
  rw [← e] at h
  have hp := p2_pos (-100)
  have h3 := Rat.mul_le_mul_of_nonneg_left h2 (Rat.le_of_lt hp)
  grind
/-- The error, by a hundredth of a thousandth. -/
theorem R32.near5 {x : Rat} {r : Nat} (h : R32 x r) : ab (V r) ≤ ab x * (100001 / 100000) + 1 / 1000000000000000000000000000000 ∧ ab (V r - x) ≤ ab x * (1 / 16777216) + 1 / 1000000000000000000000000000000 := by
  obtain ⟨h1, h2⟩ := h.rel
  rw [p2_m24] at h1 h2
  obtain ⟨h3, _⟩ := p2_m150
  have ha := ab_nonneg x
  have hx1 := le_ab x
  have hx2 := neg_le_ab x
  constructor
  · refine ab_le ?_ ?_ <;> grind
  · refine ab_le ?_ ?_ <;> grind
theorem mul512 {a : Nat} (ha : F32 a) (h : ab (V a) ≤ 1000000000) : Fok .mul a 1140850688 ∧ F32 (fop .mul a 1140850688) ∧ V (fop .mul a 1140850688) = 512 * V a := by
  obtain ⟨c1, c2⟩ := c512
  obtain ⟨h1, h2⟩ := fmul_ok ha c1 (by
    rw [c2, ab_mul]
    have : ab 512 = 512 := by decide
    rw [this]
    refine big126 ?_
    grind)
  refine ⟨h1, h2.fin, ?_⟩
  rw [c2] at h2
  have hrep : Rep Ieee.single (V a) := val_rep ha
  obtain ⟨n, q, e1, e2, e3, e4⟩ := hrep
  have := Rounds.exact h2 ⟨n, q + 9, by
    rw [e1, p2_add, show p2 9 = 512 from by
      have : p2 ((9 : Nat) : Int) = ((2 ^ 9 : Nat) : Rat) := p2_nat 9
      simpa using this]
    grind, e2, e3, by omega⟩
  show fval Ieee.single _ = _
  rw [this]
  grind

/-! ### cutting -/
theorem truncR_diff {x y : Rat} (h : x ≤ y) : (truncR y : Rat) - truncR x ≤ y - x + 1 := by
  unfold truncR
  by_cases hx : 0 ≤ x
  · have hy : 0 ≤ y := by grind
    rw [if_pos hx, if_pos hy]
    have h1 := Rat.floor_le y
    have h2 := Rat.lt_floor_add_one x
    push_cast at h2
    grind
  · rw [if_neg hx]
    have h2 := Rat.floor_le (-x)
    have h4 := Rat.lt_floor_add_one (-x)
    push_cast at h4 ⊢
    by_cases hy : 0 ≤ y
    · rw [if_pos hy]
      have h1 := Rat.floor_le y
      grind
    · rw [if_neg hy]
      have h1 := Rat.floor_le (-y)
      have h3 := Rat.lt_floor_add_one (-y)
      push_cast at h3 ⊢
      grind
theorem truncR_near (x : Rat) : ab (truncR x : Rat) ≤ ab x := truncR_ab x

/-! ### whole numbers as floats -/
theorem ofInt_small {n : Int} (h1 : 0 ≤ n) (h2 : n ≤ 16777216) : F32 (floatOfInt .f32 n) ∧ V (floatOfInt .f32 n) = n := by
  have hr := ofInt_ok n (by
    refine big126 ?_
    have := ab_int_le (n := n) (b := 16777216) (by omega) (by omega)
    grind)
  exact ⟨hr.fin, hr.eq (n := n) (q := 0) (by rw [p2_zero, Rat.mul_one]) h2 (by omega) (by decide)⟩

/-! ### the rows -/
/-- How much of the line is left at row y. -/
def FL.rem (L : FL) (y : Int) : Int := max 0 (L.ey - imax (y * 512) L.ay)
theorem FL.dy_bd {L : FL} {y : Int} (h1 : L.ay ≤ L.ey) (h2 : L.ay / 512 ≤ y) (h3 : y < (L.ey + 511) / 512) : 0 ≤ L.dy y ∧ L.dy y ≤ 512 ∧ L.rem (y + 1) = L.rem y - L.dy y ∧ L.dy y ≤ L.ey - L.ay := by
  unfold FL.dy FL.rem imin imax
  split <;> split <;> split <;> omega
theorem FL.rem_nonneg (L : FL) (y : Int) : 0 ≤ L.rem y := by unfold FL.rem; omega

theorem FL.rem_le {L : FL} (y : Int) (h : L.ay ≤ L.ey) : L.rem y ≤ L.ey - L.ay := by unfold FL.rem imax; split <;> omega
/-- If each row moves x by at most D times its height, and all is small, all goes well. -/
theorem FL.ok_of {L : FL} {D : Rat} (hD0 : 0 ≤ D) (h1 : L.ay ≤ L.ey)
    (hrow : ∀ y, 0 ≤ L.dy y → L.dy y ≤ 512 → L.dy y ≤ L.ey - L.ay → Fok .mul (floatOfInt .f32 (L.dy y)) L.dxdy ∧ Iok (fop .mul (floatOfInt .f32 (L.dy y)) L.dxdy) ∧ ab (L.dx y : Rat) ≤ L.dy y * D) :
    ∀ (k : Nat) (y x : Int), L.ay / 512 ≤ y → y + k ≤ (L.ey + 511) / 512 → ab (x : Rat) + L.rem y * D ≤ 200000000 → L.ok k y x
  | 0, _, _, _, _, _ => trivial
  | k + 1, y, x, hy, hk, hx => by
    obtain ⟨b1, b2, b3, b4⟩ := FL.dy_bd h1 hy (by omega)
    obtain ⟨r1, r2, r3⟩ := hrow y b1 b2 b4
    have hrem := L.rem_nonneg (y + 1)
    have hrem' : (0 : Rat) ≤ L.rem (y + 1) := by exact_mod_cast hrem
    have e1 : (L.rem (y + 1) : Rat) = L.rem y - L.dy y := by rw [b3]; push_cast; rfl
    have hm := Rat.mul_nonneg hrem' hD0
    have hd : (0 : Rat) ≤ L.dy y := by exact_mod_cast b1
    have hm2 := Rat.mul_nonneg hd hD0
    have e2 : (L.rem y : Rat) * D = L.rem (y + 1) * D + L.dy y * D := by rw [e1]; grind
    have hx1 := le_ab (x : Rat)
    have hx2 := neg_le_ab (x : Rat)
    have hd1 := le_ab (L.dx y : Rat)
    have hd2 := neg_le_ab (L.dx y : Rat)
    have a1 : (x : Rat) ≤ ((200000000 : Int) : Rat) := by push_cast; grind
    have a2 : ((-200000000 : Int) : Rat) ≤ x := by push_cast; grind
    have a3 : ((x + L.dx y : Int) : Rat) ≤ ((200000000 : Int) : Rat) := by push_cast; grind
    have a4 : ((-200000000 : Int) : Rat) ≤ ((x + L.dx y : Int) : Rat) := by push_cast; grind
    refine ⟨b1, b2, r1, r2, Rat.intCast_le_intCast.1 a2, Rat.intCast_le_intCast.1 a1, Rat.intCast_le_intCast.1 a4, Rat.intCast_le_intCast.1 a3, FL.ok_of hD0 h1 hrow k (y + 1) _ (by omega) (by omega) ?_⟩
    have : ab ((x + L.dx y : Int) : Rat) ≤ ab (x : Rat) + ab (L.dx y : Rat) := by
      refine ab_le ?_ ?_ <;> push_cast <;> grind
    grind

theorem int_zero_of_ab {n : Int} {x : Rat} (h : ab (n : Rat) ≤ x) (hx : x < 1) : n = 0 := by
  have h1 := le_ab (n : Rat)
  have h2 := neg_le_ab (n : Rat)
  have a1 : (n : Rat) < ((1 : Int) : Rat) := by push_cast; grind
  have a2 : ((-1 : Int) : Rat) < n := by push_cast; grind
  have b1 := Rat.intCast_lt_intCast.1 a1
  have b2 := Rat.intCast_lt_intCast.1 a2
  omega
theorem ab_div {x y : Rat} (hy : 0 < y) : ab (x / y) = ab x / y := by
  have h1 : x / y * y = x := by rw [Rat.div_mul_cancel]; grind
  have h2 : ab (x / y) * y = ab x := by
    rw [← h1, ab_mul, ab_of_nonneg (Rat.le_of_lt hy), h1]
  rw [← h2]
  have : ab (x / y) * y / y = ab (x / y) := by rw [Rat.mul_div_cancel]; grind
  rw [this]

set_option maxHeartbeats 1000000 in
theorem fixUp_ok {s : Bool} {H : Int} {ax ay bx qy : Nat} (fax : F32 ax) (fay : F32 ay) (fbx : F32 bx) (fqy : F32 qy) (hax : ab (V ax) ≤ 4096) (hay : ab (V ay) ≤ 4096) (hbx : ab (V bx) ≤ 4096) (hqy : ab (V qy) ≤ 4096)
    (hle : V ay ≤ V qy) (hgo : V 897988541 < V (fop .sub qy ay) → (512 * V (fop .sub qy ay) + 1) * ab (V bx - V ax) ≤ 140000000 * V (fop .sub qy ay)) : FixUpOk s H ax ay bx qy := by
  obtain ⟨t1, t2, t3⟩ := cTiny
  have a1 := le_ab (V ax); have a2 := neg_le_ab (V ax)
  have a3 := le_ab (V ay); have a4 := neg_le_ab (V ay)
  have a5 := le_ab (V bx); have a6 := neg_le_ab (V bx)
  have a7 := le_ab (V qy); have a8 := neg_le_ab (V qy)
  have hdy : ab (V qy - V ay) ≤ 8192 := ab_le (by grind) (by grind)
  have hdx : ab (V bx - V ax) ≤ 8192 := ab_le (by grind) (by grind)
  have hdx0 := ab_nonneg (V bx - V ax)
  obtain ⟨q1, q2⟩ := fsub_ok fqy fay (big126 (by grind))
  refine ⟨q1, fun hf => ?_⟩
  have hlt : V 897988541 < V (fop .sub qy ay) := by
    have h : ¬ V (fop .sub qy ay) ≤ V 897988541 := fun hc => by
      have := (fle_iff q2.fin t1).2 hc
      rw [hf] at this
      cases this
    grind
  have hgo := hgo hlt
  obtain ⟨n1, n2⟩ := q2.near5
  rw [ab_of_nonneg (by grind : 0 ≤ V qy - V ay)] at n1 n2
  obtain ⟨q3, q4⟩ := fsub_ok fbx fax (big126 (by grind))
  obtain ⟨n3, n4⟩ := q4.near5
  generalize hδ : V (fop .sub qy ay) = δ at *
  generalize hX : ab (V bx - V ax) = X at *
  have hδ0 : 0 < δ := by grind
  have hYd : X / δ * δ = X := by rw [Rat.div_mul_cancel]; grind
  have hY0 : 0 ≤ X / δ := by rw [Rat.div_def]; exact Rat.mul_nonneg hdx0 (Rat.le_of_lt (Rat.inv_pos.2 hδ0))
  generalize hY : X / δ = Y at *
  have hYb : (512 * δ + 1) * Y ≤ 140000000 := by
    refine Rat.le_of_mul_le_mul_right (c := δ) ?_ hδ0
    rw [Rat.mul_assoc, hYd]
    exact hgo
  have hYm := Rat.mul_nonneg (Rat.le_of_lt hδ0) hY0
  have hYs : Y ≤ 140000000 := by grind
  -- the quotient
  obtain ⟨q5, q6⟩ := fquo_ok q4.fin q2.fin (by rw [hδ]; grind) (by
    rw [hδ, ab_of_nonneg (Rat.le_of_lt hδ0)]
    have hp : (1000000000000000000000000000000 : Rat) ≤ p2 125 := big125 Rat.le_refl
    have := Rat.mul_le_mul_of_nonneg_right hp (Rat.le_of_lt hδ0)
    grind)
  rw [hδ] at q6
  obtain ⟨n5, n6⟩ := q6.near5
  have hq : ab (V (fop .sub bx ax) / δ) ≤ Y * (100001 / 100000) + 1 / 100000000000000000000 := by
    rw [ab_div hδ0]
    refine Rat.le_of_mul_le_mul_right (c := δ) ?_ hδ0
    rw [Rat.div_mul_cancel (by grind)]
    grind
  generalize ab (V (fop .sub bx ax) / δ) = Q at *
  generalize hdd : fop .quo (fop .sub bx ax) (fop .sub qy ay) = dd at *
  have hdd1 : ab (V dd) ≤ Y * (100003 / 100000) + 1 / 10000000000000000000 := by grind
  have hdd0 := ab_nonneg (V dd)
  -- the ends
  obtain ⟨m1, m2, m3⟩ := mul512 fay (by grind)
  obtain ⟨m4, m5, m6⟩ := mul512 fqy (by grind)
  obtain ⟨m7, m8, m9⟩ := mul512 fax (by grind)
  have hb : ∀ {a : Nat}, ab (V a) ≤ 4096 → -2097152 ≤ truncR (512 * V a) ∧ truncR (512 * V a) ≤ 2097152 := by
    intro a ha
    have b1 := le_ab (V a); have b2 := neg_le_ab (V a)
    exact ⟨le_truncR (by push_cast; grind), truncR_le (by push_cast; grind)⟩
  obtain ⟨i1, i2⟩ := fint_ok m2 (by rw [m3]; have := hb hay; omega) (by rw [m3]; have := hb hay; omega)
  obtain ⟨i3, i4⟩ := fint_ok m5 (by rw [m6]; have := hb hqy; omega) (by rw [m6]; have := hb hqy; omega)
  obtain ⟨i5, i6⟩ := fint_ok m8 (by rw [m9]; have := hb hax; omega) (by rw [m9]; have := hb hax; omega)
  rw [m3] at i2
  rw [m6] at i4
  rw [m9] at i6
  have hmono : truncR (512 * V ay) ≤ truncR (512 * V qy) := truncR_mono (by grind)
  have hdiff := truncR_diff (x := 512 * V ay) (y := 512 * V qy) (by grind)
  have hbay := hb hay
  have hbqy := hb hqy
  refine ⟨q3, q5, m1, i1, m4, i3, m7, i5, by omega, by omega, by omega, ?_⟩
  -- the rows
  have k1 := neg_le_ab (δ - (V qy - V ay))
  have k2 := le_ab δ
  have hn : ((truncR (512 * V qy) : Int) : Rat) - truncR (512 * V ay) ≤ (512 * δ + 1) * (10001 / 10000) := by grind
  have hnn : (0 : Rat) ≤ ((truncR (512 * V qy) : Int) : Rat) - truncR (512 * V ay) := by
    have := Rat.intCast_le_intCast.2 hmono
    grind
  have hD0 : 0 ≤ ab (V dd) * (100001 / 100000) + 1 / 1000000000000000000000000000000 := by grind
  have hDN : (((truncR (512 * V qy) : Int) : Rat) - truncR (512 * V ay)) * (ab (V dd) * (100001 / 100000) + 1 / 1000000000000000000000000000000) ≤ 141000000 := by
    have e1 : ab (V dd) * (100001 / 100000) + 1 / 1000000000000000000000000000000 ≤ Y * (10001 / 10000) + 1 / 1000000000000000000 := by grind
    have e2 := Rat.mul_le_mul_of_nonneg_left e1 hnn
    have e3 : (0 : Rat) ≤ Y * (10001 / 10000) + 1 / 1000000000000000000 := by grind
    have e4 := Rat.mul_le_mul_of_nonneg_right hn e3
    have e5 : (512 * δ + 1) * (10001 / 10000) * (Y * (10001 / 10000) + 1 / 1000000000000000000) = (512 * δ + 1) * Y * (10001 / 10000 * (10001 / 10000)) + (512 * δ + 1) * (10001 / 10000 / 1000000000000000000) := by grind
    have e6 : δ ≤ 10000 := by grind
    grind
  have hxb := truncR_near (512 * V ax)
  have hx5 : ab (512 * V ax) ≤ 2097152 := ab_le (by grind) (by grind)
  refine FL.ok_of (L := fxl s ax ay bx qy) (D := ab (V dd) * (100001 / 100000) + 1 / 1000000000000000000000000000000) hD0 (by simp only [fxl]; rw [i2, i4]; exact hmono) ?_ _ _ _ ?_ ?_ ?_
  · intro y h0 h1 h2
    have hd : (fxl s ax ay bx qy).dxdy = dd := by simp only [fxl]; exact hdd
    have hend : (fxl s ax ay bx qy).ey - (fxl s ax ay bx qy).ay = truncR (512 * V qy) - truncR (512 * V ay) := by simp only [fxl]; rw [i2, i4]
    rw [hend] at h2
    unfold FL.dx
    rw [hd]
    generalize (fxl s ax ay bx qy).dy y = n at *
    obtain ⟨o1, o2⟩ := ofInt_small h0 (by omega)
    have hn0 : (0 : Rat) ≤ n := by exact_mod_cast h0
    have hnD : (n : Rat) * (ab (V dd) * (100001 / 100000) + 1 / 1000000000000000000000000000000) ≤ 141000000 := by
      have e1 : (n : Rat) ≤ ((truncR (512 * V qy) : Int) : Rat) - truncR (512 * V ay) := by
        have := Rat.intCast_le_intCast.2 h2
        push_cast at this
        exact this
      have := Rat.mul_le_mul_of_nonneg_right e1 hD0
      grind
    have hprod : ab (n * V dd) = n * ab (V dd) := by rw [ab_mul, ab_of_nonneg hn0]
    have hnd := Rat.mul_nonneg hn0 hdd0
    obtain ⟨g1, g2⟩ := fmul_ok o1 q6.fin (by
      rw [o2, hprod]
      refine big126 ?_
      grind)
    rw [o2] at g2
    obtain ⟨n7, n8⟩ := g2.near5
    rw [hprod] at n7
    have hv : ab (V (fop .mul (floatOfInt .f32 n) dd)) ≤ 150000000 := by grind
    have v1 := le_ab (V (fop .mul (floatOfInt .f32 n) dd))
    have v2 := neg_le_ab (V (fop .mul (floatOfInt .f32 n) dd))
    have w1 : -2147483648 ≤ truncR (V (fop .mul (floatOfInt .f32 n) dd)) := le_truncR (by push_cast; grind)
    have w2 : truncR (V (fop .mul (floatOfInt .f32 n) dd)) ≤ 2147483647 := truncR_le (by push_cast; grind)
    obtain ⟨j1, j2⟩ := fint_ok g2.fin w1 w2
    refine ⟨g1, j1, ?_⟩
    rw [j2]
    have ht := truncR_near (V (fop .mul (floatOfInt .f32 n) dd))
    by_cases hz : n = 0
    · subst hz
      have e0 : ab (truncR (V (fop .mul (floatOfInt .f32 0) dd)) : Rat) ≤ 1 / 1000000000000000000000000000000 := by
        push_cast at n7
        grind
      have := int_zero_of_ab e0 (by grind)
      rw [this]
      push_cast
      have : ab 0 = 0 := by decide
      rw [this]
      grind
    · have h1n : (1 : Rat) ≤ n := by
        have : 1 ≤ n := by omega
        exact_mod_cast this
      grind
  · simp only [fxBeg, fxl]
    omega
  · have e := fxEnd_le qy H
    have e2 : fxEnd qy H ≤ (fint (fop .mul qy 1140850688) + 511) / 512 := by unfold fxEnd; split <;> omega
    simp only [fxl, fxBeg]
    omega
  · rw [i6]
    have hrem : (((fxl s ax ay bx qy).rem (fxBeg ay) : Int) : Rat) ≤ ((truncR (512 * V qy) : Int) : Rat) - truncR (512 * V ay) := by
      have : (fxl s ax ay bx qy).rem (fxBeg ay) ≤ truncR (512 * V qy) - truncR (512 * V ay) := by
        have e1 : (fxl s ax ay bx qy).ey = truncR (512 * V qy) := by simp only [fxl]; exact i4
        have e2 : (fxl s ax ay bx qy).ay = truncR (512 * V ay) := by simp only [fxl]; exact i2
        have h := FL.rem_le (L := fxl s ax ay bx qy) (fxBeg ay) (by rw [e1, e2]; exact hmono)
        rw [e1, e2] at h
        exact h
      have := Rat.intCast_le_intCast.2 this
      push_cast at this
      exact this
    have := Rat.mul_le_mul_of_nonneg_right hrem hD0
    grind
end Go.Proofs.Ytmgcbodlolnheaa
