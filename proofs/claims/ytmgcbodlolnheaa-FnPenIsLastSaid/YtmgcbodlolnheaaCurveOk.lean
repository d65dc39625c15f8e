/-
  Curves near the beginning go well in the numbers of fixed point. No program is walked here.
-/
import Derived.Test.YtmgcbodlolnheaaSqrt
namespace Go.Proofs.Ytmgcbodlolnheaa
open Flt
set_option linter.unusedVariables false

theorem R64.bdd {x : Rat} {r : Nat} (h : R64 x r) {k : Int} (h0 : 0 ≤ x) (hk : x ≤ p2 k) (hk1 : -1000 ≤ k) : 0 ≤ VV r ∧ VV r ≤ p2 k := by
  have e2 : Ieee.double.binade = 4503599627370496 := by decide
  have e4 : Ieee.double.leastPlace = -1074 := by decide
  have hrep1 : Rep Ieee.double (p2 k) := ⟨1, k, by rw [show ((1 : Int) : Rat) = 1 from rfl, Rat.one_mul], by rw [e2]; decide, by rw [e2]; decide, by rw [e4]; omega⟩
  have hrep0 : Rep Ieee.double 0 := ⟨0, 0, by simp, by decide, by decide, by decide⟩
  exact ⟨Rounds.dn h _ hrep0 h0, Rounds.up h _ hrep1 hk⟩
theorem c3d : F64 4613937818241073152 ∧ VV 4613937818241073152 = 3 := by
  have h : Ieee.double.read 4613937818241073152 = .number false 6755399441055744 (-51) := by decide
  refine ⟨⟨_, _, _, h⟩, ?_⟩
  have e : VV 4613937818241073152 = dval (.number false 6755399441055744 (-51)) := by unfold VV fval; rw [h]
  rw [e]
  have := p2_neg 51
  simp only [dval, sgn]
  push_cast at this ⊢
  grind
theorem cThird : F32 1051361018 ∧ 0 < V 1051361018 := by
  obtain ⟨h1, h2⟩ := read_V (a := 1051361018) (s := false) (m := 11173626) (e := -25) (by decide)
  refine ⟨h1, ?_⟩
  rw [h2]
  have := p2_pos (-25)
  simp only [sgn]
  push_cast
  grind
theorem p2_val (n : Nat) : p2 (n : Int) = ((2 ^ n : Nat) : Rat) := p2_nat n
/-- How many parts: at most 129. -/
theorem parts_ok {d : Nat} (hd : Bd d 19) (h0 : 0 ≤ V d) : PartsOk d ∧ 1 ≤ parts d ∧ parts d ≤ 129 := by
  have h19 : Flt.ab (V d) ≤ p2 126 := Rat.le_trans hd.ab (p2_mono (by decide))
  obtain ⟨w1, w2, w3⟩ := wide_ok hd.fin h19
  obtain ⟨c1, c2'⟩ := c3d
  have e19 : p2 19 = 524288 := by have := p2_val 19; simpa using this
  have hhi := hd.hi
  rw [e19] at hhi
  have hx0 : 0 ≤ VV 4613937818241073152 * VV (wide d) := by rw [c2', w3]; grind
  have e22 : p2 (2 * 11) = 4194304 := by have := p2_val 22; simpa using this
  have hx1 : VV 4613937818241073152 * VV (wide d) ≤ p2 (2 * 11) := by rw [c2', w3, e22]; grind
  obtain ⟨q1, q2⟩ := fmul64_ok c1 w2 (by rw [ab_of_nonneg hx0]; exact Rat.le_trans hx1 (p2_mono (by decide)))
  obtain ⟨b1, b2⟩ := q2.bdd hx0 hx1 (by decide)
  obtain ⟨s1, s2, s3, s4⟩ := sqrt_ok (a := thrice d) q2.fin b1 (k := 11) b2 (by decide) (by decide)
  obtain ⟨t1, t2, t3, t4⟩ := sqrt_ok (a := fsqrt (thrice d)) s2 s3 (k := 6) s4 (by decide) (by decide)
  have e7 : p2 (6 + 1) = 128 := by have := p2_val 7; simpa using this
  rw [e7] at t4
  obtain ⟨u1, u2, u3⟩ := truncR_pos_bd t3
  have hu : truncR (VV (fsqrt (fsqrt (thrice d)))) ≤ 128 := by
    have h : ((truncR (VV (fsqrt (fsqrt (thrice d)))) : Int) : Rat) ≤ ((128 : Int) : Rat) := by push_cast; grind
    exact Rat.intCast_le_intCast.1 h
  obtain ⟨i1, i2⟩ := int64of_ok t2 (by omega) (by omega)
  have hp : parts d = 1 + truncR (VV (fsqrt (fsqrt (thrice d)))) := by unfold parts; rw [i2]
  obtain ⟨o1, o2⟩ := ofInt_small (n := parts d) (by omega) (by omega)
  have hp1 : (1 : Rat) ≤ parts d := by exact_mod_cast (by omega : (1 : Int) ≤ parts d)
  obtain ⟨v1, _⟩ := fquo_ok fone.1.fin o1 (by rw [o2]; grind) (by
    rw [fone.2, o2, ab_of_nonneg (x := ((parts d : Int) : Rat)) (by grind)]
    have a1 : Flt.ab 1 = 1 := by decide
    have h4 : (1000000000000000000000000000000 : Rat) ≤ p2 125 := big125 Rat.le_refl
    have := Rat.mul_le_mul_of_nonneg_left hp1 (show (0 : Rat) ≤ p2 125 by grind)
    rw [a1]
    grind)
  exact ⟨⟨w1, q1, s1, t1, i1, by omega, by omega, v1⟩, by omega, by omega⟩
/-- The steps along a curve stay within it. -/
theorem steps_ok {ok : Nat → Prop} {pt : Nat → Nat × Nat} {P : Nat × Nat → Prop} {N : Int} (hN0 : 0 ≤ N) (hN : N ≤ 128)
    (hok : ∀ t, F32 t → 0 ≤ V t → V t ≤ 1 → ok t ∧ P (pt t)) : ∀ (m j t : Nat), F32 t → 0 ≤ V t → V t ≤ j * (1 / ((1 + N : Int) : Rat) + 2 / 1000000) → j + m ≤ N.toNat →
      StepsOk ok (fop .quo 1065353216 (floatOfInt .f32 (1 + N))) m t ∧ ∀ p ∈ steps pt (fop .quo 1065353216 (floatOfInt .f32 (1 + N))) m t, P p
  | 0, _, _, _, _, _, _ => ⟨trivial, fun p hp => by simp [steps] at hp⟩
  | m + 1, j, t, ht, h0, h1, hj => by
    obtain ⟨o1, o2⟩ := ofInt_small (n := 1 + N) (by omega) (by omega)
    have hp1 : (1 : Rat) ≤ ((1 + N : Int) : Rat) := by exact_mod_cast (by omega : (1 : Int) ≤ 1 + N)
    have a1 : Flt.ab 1 = 1 := by decide
    obtain ⟨v1, v2⟩ := fquo_ok fone.1.fin o1 (by rw [o2]; grind) (by
      rw [fone.2, o2, ab_of_nonneg (x := ((1 + N : Int) : Rat)) (by grind), a1]
      have h4 : (1000000000000000000000000000000 : Rat) ≤ p2 125 := big125 Rat.le_refl
      have := Rat.mul_le_mul_of_nonneg_left hp1 (show (0 : Rat) ≤ p2 125 by grind)
      grind)
    rw [fone.2, o2] at v2
    obtain ⟨n1, n2⟩ := v2.near5
    have hinv : (1 : Rat) / ((1 + N : Int) : Rat) * ((1 + N : Int) : Rat) = 1 := by rw [Rat.div_mul_cancel]; grind
    have hinv0 : 0 ≤ (1 : Rat) / ((1 + N : Int) : Rat) := by rw [Rat.div_def]; exact Rat.mul_nonneg (by decide) (Rat.le_of_lt (Rat.inv_pos.2 (by grind)))
    rw [ab_of_nonneg hinv0] at n2
    have hs0 := v2.nonneg hinv0
    have hjN : (j : Rat) + 1 ≤ ((N : Int) : Rat) := by
      have h2 : ((j + 1 : Nat) : Int) ≤ N := by omega
      have h3 := Rat.intCast_le_intCast.2 h2
      rw [Rat.intCast_natCast] at h3
      push_cast at h3
      exact h3
    have hN128 : ((N : Int) : Rat) ≤ 128 := by
      have := Rat.intCast_le_intCast.2 hN
      push_cast at this
      exact this
    have eN : ((1 + N : Int) : Rat) = 1 + ((N : Int) : Rat) := by push_cast; rfl
    have hj0 : (0 : Rat) ≤ j := Rat.natCast_nonneg
    have ej : ((j + 1 : Nat) : Rat) = j + 1 := by push_cast; rfl
    generalize hsw : fop .quo 1065353216 (floatOfInt .f32 (1 + N)) = s at *
    generalize hiv : (1 : Rat) / ((1 + N : Int) : Rat) = iv at *
    rw [eN] at hp1 hinv
    generalize ((N : Int) : Rat) = Nr at *
    have d1 := le_ab (V s - iv); have d2 := neg_le_ab (V s - iv)
    have hiv1 : iv ≤ 1 := by
      have := Rat.mul_le_mul_of_nonneg_left hp1 hinv0
      grind
    have hiv2 : 1 / 129 ≤ iv := by
      have := Rat.mul_le_mul_of_nonneg_left hN128 hinv0
      grind
    have hjiv := Rat.mul_le_mul_of_nonneg_right hjN hinv0
    have hji := Rat.mul_nonneg hj0 hinv0
    have hsum0 : 0 ≤ V t + V s := by grind
    have hsum1 : V t + V s ≤ 101 / 100 := by grind
    obtain ⟨q1, q2⟩ := fadd_ok ht v2.fin (big126 (by rw [ab_of_nonneg hsum0]; grind))
    obtain ⟨n3, n4⟩ := q2.near5
    rw [ab_of_nonneg hsum0] at n4
    have d3 := le_ab (V (fop .add t s) - (V t + V s)); have d4 := neg_le_ab (V (fop .add t s) - (V t + V s))
    have h0' := q2.nonneg hsum0
    have h1' : V (fop .add t s) ≤ (j + 1 : Nat) * (iv + 2 / 1000000) := by rw [ej]; grind
    have h2' : V (fop .add t s) ≤ 1 := by rw [ej] at h1'; grind
    obtain ⟨k1, k2⟩ := hok (fop .add t s) q2.fin h0' h2'
    obtain ⟨i1, i2⟩ := steps_ok (pt := pt) hN0 hN hok m (j + 1) (fop .add t s) q2.fin h0' (by rw [hiv]; exact h1') (by omega)
    rw [hsw] at i1 i2
    refine ⟨⟨q1, k1, i1⟩, fun p hp => ?_⟩
    rw [steps, List.mem_cons] at hp
    rcases hp with rfl | hp
    · exact k2
    · exact i2 p hp

/-- Near the beginning. -/
structure Near (a : Nat) : Prop where
  fin : F32 a
  bd : Flt.ab (V a) ≤ 64
theorem Near.b6 {a : Nat} (h : Near a) : Bd a 6 := Bd.of h.fin (by have := p2_val 6; have e : p2 6 = 64 := (by simpa using this); rw [e]; exact h.bd)
def NearP (p : Nat × Nat) : Prop := (F32 p.1 ∧ Flt.ab (V p.1) ≤ 65) ∧ (F32 p.2 ∧ Flt.ab (V p.2) ≤ 65)
theorem Near.to {a b : Nat} (ha : Near a) (hb : Near b) : NearP (a, b) := ⟨⟨ha.fin, by have := ha.bd; grind⟩, ⟨hb.fin, by have := hb.bd; grind⟩⟩
theorem dev_ok {a b c : Nat} (ha : Near a) (hb : Near b) (hc : Near c) : FdevOk a b c ∧ Bd (fop .mul (fdev a b c) (fdev a b c)) 18 := by
  obtain ⟨q1, r1⟩ := Bd.mul c2.1 hb.b6
  obtain ⟨q2, r2⟩ := Bd.sub (ha.b6.mono (m := 7) (by decide)) r1
  obtain ⟨q3, r3⟩ := Bd.add r2 (hc.b6.mono (m := 8) (by decide))
  have e : fop .add (fop .sub a (fop .mul 1073741824 b)) c = fdev a b c := rfl
  rw [e] at r3
  obtain ⟨q4, r4⟩ := Bd.mul r3 r3
  exact ⟨⟨q1, q2, q3, q4⟩, r4⟩
theorem devSq_ok {ax ay bx qy cx cy : Nat} (h1 : Near ax) (h2 : Near ay) (h3 : Near bx) (h4 : Near qy) (h5 : Near cx) (h6 : Near cy) : FdevSqOk ax ay bx qy cx cy ∧ Bd (fdevSq ax ay bx qy cx cy) 19 := by
  obtain ⟨a1, a2⟩ := dev_ok h1 h3 h5
  obtain ⟨b1, b2⟩ := dev_ok h2 h4 h6
  obtain ⟨q, r⟩ := Bd.add a2 b2
  exact ⟨⟨a1, b1, q⟩, r⟩
theorem V0 : F32 0 ∧ (0 : Rat) ≤ V 0 := ⟨fzero.1, by rw [fzero.2]; exact Rat.le_refl⟩
theorem quad_ok {ax ay bx qy cx cy : Nat} (h1 : Near ax) (h2 : Near ay) (h3 : Near bx) (h4 : Near qy) (h5 : Near cx) (h6 : Near cy) :
    QuadOk ax ay bx qy cx cy ∧ ∀ p ∈ quadPts ax ay bx qy cx cy, NearP p := by
  obtain ⟨d1, d2⟩ := devSq_ok h1 h2 h3 h4 h5 h6
  by_cases hf : fge (fdevSq ax ay bx qy cx cy) 1051361018 = true
  · have hpos : 0 ≤ V (fdevSq ax ay bx qy cx cy) := by
      have := (fge_iff d2.fin cThird.1).1 hf
      have := cThird.2
      grind
    obtain ⟨p1, p2', p3⟩ := parts_ok d2 hpos
    have eN : 1 + (parts (fdevSq ax ay bx qy cx cy) - 1) = parts (fdevSq ax ay bx qy cx cy) := by omega
    have hst := steps_ok (ok := fun t => QuadAtOk ax bx cx t ∧ QuadAtOk ay qy cy t) (pt := fun t => (quadAt ax bx cx t, quadAt ay qy cy t)) (P := NearP) (N := parts (fdevSq ax ay bx qy cx cy) - 1) (by omega) (by omega)
      (fun t ht t0 t1 => by
        obtain ⟨x1, x2, x3⟩ := quadAt_ok ht h1.fin h3.fin h5.fin t0 t1 (M := 64) (by decide) (by decide) h1.bd h3.bd h5.bd
        obtain ⟨y1, y2, y3⟩ := quadAt_ok ht h2.fin h4.fin h6.fin t0 t1 (M := 64) (by decide) (by decide) h2.bd h4.bd h6.bd
        exact ⟨⟨x1, y1⟩, ⟨x2, by grind⟩, ⟨y2, by grind⟩⟩)
      (parts (fdevSq ax ay bx qy cx cy) - 1).toNat 0 0 V0.1 V0.2 (by rw [fzero.2]; simp) (by omega)
    rw [eN] at hst
    refine ⟨⟨d1, fun _ => ⟨p1, hst.1⟩⟩, fun p hp => ?_⟩
    unfold quadPts at hp
    rw [if_pos hf, List.mem_append] at hp
    rcases hp with hp | hp
    · exact hst.2 p hp
    · simp only [List.mem_singleton] at hp
      rw [hp]
      exact h5.to h6
  · refine ⟨⟨d1, fun h => absurd h hf⟩, fun p hp => ?_⟩
    unfold quadPts at hp
    rw [if_neg hf, List.mem_singleton] at hp
    rw [hp]
    exact h5.to h6
theorem cube_ok {ax ay bx qy cx cy dx dy : Nat} (h1 : Near ax) (h2 : Near ay) (h3 : Near bx) (h4 : Near qy) (h5 : Near cx) (h6 : Near cy) (h7 : Near dx) (h8 : Near dy) :
    CubeOk ax ay bx qy cx cy dx dy ∧ ∀ p ∈ cubePts ax ay bx qy cx cy dx dy, NearP p := by
  obtain ⟨d1, d2⟩ := devSq_ok h1 h2 h3 h4 h7 h8
  obtain ⟨e1, e2⟩ := devSq_ok h1 h2 h5 h6 h7 h8
  have hD : Bd (cubeD ax ay bx qy cx cy dx dy) 19 := by unfold cubeD; split <;> assumption
  by_cases hf : fge (cubeD ax ay bx qy cx cy dx dy) 1051361018 = true
  · have hpos : 0 ≤ V (cubeD ax ay bx qy cx cy dx dy) := by
      have := (fge_iff hD.fin cThird.1).1 hf
      have := cThird.2
      grind
    obtain ⟨p1, p2', p3⟩ := parts_ok hD hpos
    have eN : 1 + (parts (cubeD ax ay bx qy cx cy dx dy) - 1) = parts (cubeD ax ay bx qy cx cy dx dy) := by omega
    have hst := steps_ok (ok := fun t => CubeAtOk ax bx cx dx t ∧ CubeAtOk ay qy cy dy t) (pt := fun t => (cubeAt ax bx cx dx t, cubeAt ay qy cy dy t)) (P := NearP) (N := parts (cubeD ax ay bx qy cx cy dx dy) - 1) (by omega) (by omega)
      (fun t ht t0 t1 => by
        obtain ⟨x1, x2, x3⟩ := cubeAt_ok ht h1.fin h3.fin h5.fin h7.fin t0 t1 (M := 64) (by decide) (by decide) h1.bd h3.bd h5.bd h7.bd
        obtain ⟨y1, y2, y3⟩ := cubeAt_ok ht h2.fin h4.fin h6.fin h8.fin t0 t1 (M := 64) (by decide) (by decide) h2.bd h4.bd h6.bd h8.bd
        exact ⟨⟨x1, y1⟩, ⟨x2, by grind⟩, ⟨y2, by grind⟩⟩)
      (parts (cubeD ax ay bx qy cx cy dx dy) - 1).toNat 0 0 V0.1 V0.2 (by rw [fzero.2]; simp) (by omega)
    rw [eN] at hst
    refine ⟨⟨d1, e1, fun _ => ⟨p1, hst.1⟩⟩, fun p hp => ?_⟩
    unfold cubePts at hp
    rw [if_pos hf, List.mem_append] at hp
    rcases hp with hp | hp
    · exact hst.2 p hp
    · simp only [List.mem_singleton] at hp
      rw [hp]
      exact h7.to h8
  · refine ⟨⟨d1, e1, fun h => absurd h hf⟩, fun p hp => ?_⟩
    unfold cubePts at hp
    rw [if_neg hf, List.mem_singleton] at hp
    rw [hp]
    exact h7.to h8
theorem lines_near (W : Nat) (H : Int) : ∀ (pts : List (Nat × Nat)) (px py : Nat) (l : List Int), NearP (px, py) → (∀ q ∈ pts, NearP q) → LinesOk W H pts px py (.fix l)
  | [], _, _, _, _, _ => trivial
  | (qx, qy) :: t, px, py, l, hp, hq => by
    have h := hq (qx, qy) (by simp)
    exact ⟨fixOk_near hp.1.1 hp.2.1 h.1.1 h.2.1 hp.1.2 hp.2.2 h.1.2 h.2.2, lines_near W H t qx qy _ h fun q hq' => hq q (by simp [hq'])⟩
theorem near_wq {n : Int} (h1 : -4096 ≤ n) (h2 : n ≤ 4096) : Near (wq n) := by
  have hq := (wq_ok (n := n) (by omega) (by omega)).2
  have := hq.bd (m := 4096) (by omega) (by omega)
  push_cast at this
  exact ⟨hq.1, by grind⟩
end Go.Proofs.Ytmgcbodlolnheaa
