/-
  Closed paths through points in 64ths in the floating kind: all goes well. No program is walked here.
-/
import Derived.Test.YtmgcbodlolnheaaFloRowOk
namespace Go.Proofs.Ytmgcbodlolnheaa
open Flt
set_option linter.unusedVariables false

theorem Q64.ofInt {n : Int} (h1 : -16777216 ≤ n) (h2 : n ≤ 16777216) : Q64 (floatOfInt .f32 n) (64 * n) := by
  obtain ⟨a, b⟩ := ofInt_any h1 h2
  exact ⟨a, by rw [b]; push_cast; grind⟩
theorem Q64.fmin {a b : Nat} {m n : Int} (ha : Q64 a m) (hb : Q64 b n) : Q64 (fmin a b) (imin m n) := by
  unfold Go.Proofs.Ytmgcbodlolnheaa.fmin imin
  have h := flt_iff ha.1 hb.1
  rw [ha.lt_iff hb] at h
  by_cases hc : m < n
  · rw [if_pos hc, if_pos (h.2 hc)]
    exact ha
  · rw [if_neg hc, if_neg (fun hh => hc (h.1 hh))]
    exact hb
theorem Q64.fmax {a b : Nat} {m n : Int} (ha : Q64 a m) (hb : Q64 b n) : Q64 (fmax a b) (imax m n) := by
  unfold Go.Proofs.Ytmgcbodlolnheaa.fmax imax
  have h := fgt_iff ha.1 hb.1
  rw [hb.lt_iff ha] at h
  by_cases hc : n < m
  · rw [if_pos hc, if_pos (h.2 hc)]
    exact ha
  · rw [if_neg hc, if_neg (fun hh => hc (h.1 hh))]
    exact hb
/-- How much of row y a line crosses, in 64ths; how far down it has come. -/
def k64 (m2 m4 y : Int) : Int := imin (64 * (y + 1)) m4 - imax (64 * y) m2
def prog64 (m2 m4 y : Int) : Int := imin (imax (y * 64) m2) m4 - m2
theorem prog64_bd {m2 m4 : Int} (h : m2 < m4) (y : Int) : 0 ≤ prog64 m2 m4 y ∧ prog64 m2 m4 y ≤ m4 - m2 := by unfold prog64 imin imax; split <;> (try split) <;> omega
theorem prog64_first {m2 m4 : Int} (h : m2 < m4) : prog64 m2 m4 (m2 / 64) = 0 := by unfold prog64 imin imax; split <;> (try split) <;> omega
theorem k64_bd {m2 m4 y : Int} (h : m2 < m4) (h1 : m2 / 64 ≤ y) (h2 : y < (m4 + 63) / 64) : prog64 m2 m4 (y + 1) = prog64 m2 m4 y + k64 m2 m4 y ∧ 0 ≤ k64 m2 m4 y ∧ k64 m2 m4 y ≤ 64 := by
  unfold prog64 k64 imin imax
  split <;> split <;> split <;> split <;> (try split) <;> (try split) <;> omega

section
variable {m1 m2 m3 m4 : Int} (h : Span m1 m2 m3 m4)
include h
theorem Span.slope_ab : Flt.ab (slopeR m1 m2 m3 m4) ≤ 524288 := by
  unfold slopeR
  have hd := h.dpos
  rw [ab_div (by grind)]
  refine Rat.le_of_mul_le_mul_right (c := ((m4 - m2 : Int) : Rat)) ?_ (by grind)
  rw [Rat.div_mul_cancel (by grind)]
  have h1 := ab_int_le (n := m3 - m1) (b := 524288) (by have := h.a1; have := h.a3; omega) (by have := h.a1; have := h.a3; omega)
  push_cast at h1
  have h2 := Rat.mul_le_mul_of_nonneg_left hd (show (0 : Rat) ≤ 524288 by decide)
  push_cast at h2 ⊢
  grind
theorem Span.slope_bd : Bd (slopeW m1 m2 m3 m4) 20 := by
  refine h.slope.1.bd ?_ (by decide)
  have h1 := h.slope_ab
  unfold slopeR at h1
  have e : p2 20 = 1048576 := by
    have : p2 ((20 : Nat) : Int) = ((2 ^ 20 : Nat) : Rat) := p2_nat 20
    simpa using this
  rw [e]
  grind
theorem Span.slope_grid : Grid (-42) (V (slopeW m1 m2 m3 m4)) := by
  obtain ⟨L, k, l1, l2, l3, l4, l5, l6⟩ := Rounds.err h.slope.1
  have hV : fval Ieee.single (slopeW m1 m2 m3 m4) = V (slopeW m1 m2 m3 m4) := rfl
  rw [hV] at l5
  by_cases h0 : m3 - m1 = 0
  · refine ⟨0, ?_⟩
    have e : (((m3 - m1 : Int) : Rat) / ((m4 - m2 : Int) : Rat)) = ((0 : Int) : Rat) * p2 0 := by rw [h0, cast_zero, Rat.div_def, Rat.zero_mul, Rat.zero_mul]
    have := h.slope.1.eq e (by decide) (by decide) (by decide)
    rw [this, e]
    simp
  · rw [l5]
    refine Grid.up ⟨k, rfl⟩ ?_
    have hd := h.dpos
    have hX : (1 : Rat) ≤ Flt.ab ((m3 - m1 : Int) : Rat) := by
      rcases Int.lt_or_le 0 (m3 - m1) with hc | hc
      · have : (1 : Rat) ≤ ((m3 - m1 : Int) : Rat) := by exact_mod_cast (by omega : (1 : Int) ≤ m3 - m1)
        have := le_ab ((m3 - m1 : Int) : Rat)
        grind
      · have : ((m3 - m1 : Int) : Rat) ≤ -1 := by
          have := Rat.intCast_le_intCast.2 (show m3 - m1 ≤ -1 by omega)
          push_cast at this ⊢
          exact this
        have := neg_le_ab ((m3 - m1 : Int) : Rat)
        grind
    have hD : ((m4 - m2 : Int) : Rat) ≤ 524288 := by
      have := Rat.intCast_le_intCast.2 (show m4 - m2 ≤ 524288 by have := h.a2; have := h.a4; omega)
      push_cast at this ⊢
      exact this
    rw [ab_div (by grind)] at l6
    have hb : ((Ieee.single.binade : Nat) : Rat) = p2 23 := by
      rw [binade_single]
      have : p2 ((23 : Nat) : Int) = ((2 ^ 23 : Nat) : Rat) := p2_nat 23
      rw [show p2 23 = p2 ((23 : Nat) : Int) from rfl, this]
    rw [hb] at l6
    have h24 : 2 * p2 23 * p2 L = p2 (L + 24) := by rw [← p2_succ, ← p2_add]; congr 1; omega
    rw [h24] at l6
    have hm := Rat.mul_lt_mul_of_pos_right l6 (show (0 : Rat) < ((m4 - m2 : Int) : Rat) by grind)
    rw [Rat.div_mul_cancel (by grind)] at hm
    have hm2 := Rat.mul_le_mul_of_nonneg_left hD (Rat.le_of_lt (p2_pos (L + 24)))
    have e19 : (524288 : Rat) = p2 19 := by
      have : p2 ((19 : Nat) : Int) = ((2 ^ 19 : Nat) : Rat) := p2_nat 19
      rw [show p2 19 = p2 ((19 : Nat) : Int) from rfl, this]
      rfl
    rw [e19, ← p2_add] at hm2
    have h3 : p2 0 < p2 (L + 24 + 19) := by rw [p2_zero]; grind
    rcases Int.lt_or_le L (-42) with hc | hc
    · have := p2_mono (a := L + 24 + 19) (b := 0) (by omega)
      grind
    · exact hc
/-- One row: how much of it; the step. -/
theorem Span.dy64 (dir dd : Nat) {y : Int} (hy1 : -5000 ≤ y) (hy2 : y ≤ 5000) (hk1 : 0 ≤ k64 m2 m4 y) (hk2 : k64 m2 m4 y ≤ 64) :
    Fok .sub (fmin (floatOfInt .f32 (y + 1)) (wq m4)) (fmax (floatOfInt .f32 y) (wq m2)) ∧ Q64 ((⟨wq m2, wq m4, dir, dd⟩ : GL).dy y) (k64 m2 m4 y) :=
  ((Q64.ofInt (n := y + 1) (by omega) (by omega)).fmin h.q4).sub ((Q64.ofInt (n := y) (by omega) (by omega)).fmax h.q2) (by unfold k64 at hk1; omega) (by unfold k64 at hk2; omega)
end
theorem Q64.bd0 {a : Nat} {n : Int} (h : Q64 a n) (h1 : -64 ≤ n) (h2 : n ≤ 64) : Bd a 0 := by
  refine Bd.of h.1 ?_
  have := h.bd (m := 64) h2 (by omega)
  rw [p2_zero]
  push_cast at this
  grind

theorem fl64of {m : Int} (hq : Q64 (wq m) m) (hb : -262144 ≤ m ∧ m ≤ 262144) : (FlOk (wq m) ∧ ffl (wq m) = m / 64) ∧ (CeOk (wq m) ∧ fce (wq m) = (m + 63) / 64) := by
  have hbd := hq.bd (m := 262144) (by omega) (by omega)
  push_cast at hbd
  have hx : Xs (wq m) := ⟨Bd.of hq.1 (by rw [p2_15]; grind), hq.grid.up (by decide)⟩
  obtain ⟨f1, f2, _, _⟩ := hx.fl
  obtain ⟨c1, c2, _, _⟩ := hx.ce
  refine ⟨⟨f1, ?_⟩, c1, ?_⟩
  · rw [f2, hq.2]
    have h1 : m / 64 ≤ ((m : Rat) / 64).floor := by
      rw [Rat.le_floor_iff]
      have := Rat.intCast_le_intCast.2 (show m / 64 * 64 ≤ m by omega)
      push_cast at this
      grind
    have h2 : ((m : Rat) / 64).floor < m / 64 + 1 := by
      rw [Rat.floor_lt_iff]
      have := Rat.intCast_lt_intCast.2 (show m < (m / 64 + 1) * 64 by omega)
      push_cast at this ⊢
      grind
    omega
  · rw [c2, hq.2]
    unfold ceilR
    have h1 : (-((m + 63) / 64)) ≤ (-((m : Rat) / 64)).floor := by
      rw [Rat.le_floor_iff]
      have := Rat.intCast_le_intCast.2 (show m ≤ (m + 63) / 64 * 64 by omega)
      push_cast at this ⊢
      grind
    have h2 : (-((m : Rat) / 64)).floor < -((m + 63) / 64) + 1 := by
      rw [Rat.floor_lt_iff]
      have := Rat.intCast_lt_intCast.2 (show ((m + 63) / 64 - 1) * 64 < m by omega)
      push_cast at this ⊢
      grind
    omega
/-- What holds at each row. -/
structure OnF (m1 m2 m3 m4 : Int) (n : Nat) (y : Int) (x : Nat) : Prop where
  xs : Xs x
  bound : Flt.ab (V x) ≤ 4096 + Flt.ab (slopeR m1 m2 m3 m4) * ((prog64 m2 m4 y : Int) : Rat) / 64 * (10001 / 10000) + n * (1 / 100)
section
variable {m1 m2 m3 m4 : Int} (h : Span m1 m2 m3 m4)
include h
theorem Span.slope_prog64 {k : Int} (h0 : 0 ≤ k) (h1 : k ≤ m4 - m2) : Flt.ab (slopeR m1 m2 m3 m4) * (k : Rat) ≤ 524288 := by
  have e := h.slopeR_mul
  have hd := h.dpos
  have hk : (k : Rat) ≤ ((m4 - m2 : Int) : Rat) := Rat.intCast_le_intCast.2 h1
  have h2 := Rat.mul_le_mul_of_nonneg_left hk (ab_nonneg (slopeR m1 m2 m3 m4))
  have h3 : Flt.ab (slopeR m1 m2 m3 m4) * ((m4 - m2 : Int) : Rat) = Flt.ab ((m3 - m1 : Int) : Rat) := by
    rw [← e, ab_mul, ab_of_nonneg (x := ((m4 - m2 : Int) : Rat)) (by grind)]
  have h4 := ab_int_le (n := m3 - m1) (b := 524288) (by have := h.a1; have := h.a3; omega) (by have := h.a1; have := h.a3; omega)
  push_cast at h4
  push_cast at h3 h2
  grind
theorem OnF.first : OnF m1 m2 m3 m4 0 (m2 / 64) (wq m1) := by
  have hb := h.q1.bd (m := 262144) (by have := h.a1; omega) (by have := h.a1; omega)
  push_cast at hb
  refine ⟨⟨Bd.of h.q1.1 (by rw [p2_15]; grind), h.q1.grid.up (by decide)⟩, ?_⟩
  rw [prog64_first h.lt, cast_zero]
  grind
theorem OnF.next {n : Nat} {y : Int} {x : Nat} {dir : Nat} (ho : OnF m1 m2 m3 m4 n y x) (h1 : m2 / 64 ≤ y) (h2 : y < (m4 + 63) / 64) (hn : n ≤ 10000) :
    (Fok .sub (fmin (floatOfInt .f32 (y + 1)) (wq m4)) (fmax (floatOfInt .f32 y) (wq m2)) ∧ Fok .mul ((⟨wq m2, wq m4, dir, slopeW m1 m2 m3 m4⟩ : GL).dy y) (slopeW m1 m2 m3 m4) ∧
      Fok .add x (fop .mul ((⟨wq m2, wq m4, dir, slopeW m1 m2 m3 m4⟩ : GL).dy y) (slopeW m1 m2 m3 m4)) ∧ Q64 ((⟨wq m2, wq m4, dir, slopeW m1 m2 m3 m4⟩ : GL).dy y) (k64 m2 m4 y)) ∧
    OnF m1 m2 m3 m4 (n + 1) (y + 1) ((⟨wq m2, wq m4, dir, slopeW m1 m2 m3 m4⟩ : GL).nx y x) := by
  obtain ⟨p1, p2', p3⟩ := k64_bd h.lt h1 h2
  have hb2 := h.a2
  have hb4 := h.a4
  obtain ⟨s1, s2⟩ := h.dy64 dir (slopeW m1 m2 m3 m4) (y := y) (by omega) (by omega) p2' p3
  have hdir : (⟨wq m2, wq m4, dir, slopeW m1 m2 m3 m4⟩ : GL).nx y x = fop .add x (fop .mul ((⟨wq m2, wq m4, dir, slopeW m1 m2 m3 m4⟩ : GL).dy y) (slopeW m1 m2 m3 m4)) := rfl
  rw [hdir]
  generalize (⟨wq m2, wq m4, dir, slopeW m1 m2 m3 m4⟩ : GL).dy y = dy at *
  obtain ⟨t1, t2⟩ := Bd.mul (s2.bd0 (by omega) p3) h.slope_bd
  have hk0 : (0 : Rat) ≤ (k64 m2 m4 y : Int) := by exact_mod_cast p2'
  have hk1 : ((k64 m2 m4 y : Int) : Rat) ≤ 64 := by
    have := Rat.intCast_le_intCast.2 p3
    push_cast at this
    exact this
  have hpb := prog64_bd h.lt y
  have hpb1 := prog64_bd h.lt (y + 1)
  have e1 : ((prog64 m2 m4 (y + 1) : Int) : Rat) = prog64 m2 m4 y + k64 m2 m4 y := by rw [p1]; push_cast; rfl
  have hS0 := ab_nonneg (slopeR m1 m2 m3 m4)
  have hsp := h.slope_prog64 hpb1.1 hpb1.2
  have hsp0 := h.slope_prog64 hpb.1 hpb.2
  have hsk := h.slope_prog64 p2' (by omega)
  -- the slope's word
  obtain ⟨n1, _⟩ := h.slope.1.near5
  have hsl : ((m3 - m1 : Int) : Rat) / ((m4 - m2 : Int) : Rat) = slopeR m1 m2 m3 m4 := rfl
  rw [hsl] at n1
  -- the product
  have hprod : V dy * V (slopeW m1 m2 m3 m4) = ((k64 m2 m4 y : Int) : Rat) / 64 * V (slopeW m1 m2 m3 m4) := by rw [s2.2]
  have hpab : Flt.ab (V dy * V (slopeW m1 m2 m3 m4)) = ((k64 m2 m4 y : Int) : Rat) / 64 * Flt.ab (V (slopeW m1 m2 m3 m4)) := by
    rw [hprod, ab_mul, ab_of_nonneg (by grind)]
  obtain ⟨_, r2⟩ := fmul_ok s2.1 h.slope_bd.fin (by
    rw [hpab]
    have := Rat.mul_le_mul_of_nonneg_left n1 hk0
    exact big126 (by grind))
  obtain ⟨n2, _⟩ := r2.near5
  rw [hpab] at n2
  have hpr : Flt.ab (V (fop .mul dy (slopeW m1 m2 m3 m4))) ≤ Flt.ab (slopeR m1 m2 m3 m4) * ((k64 m2 m4 y : Int) : Rat) / 64 * (10001 / 10000) + 1 / 100000 := by
    have := Rat.mul_le_mul_of_nonneg_left n1 hk0
    have h5 := Rat.mul_nonneg hS0 hk0
    grind
  have hpg : Grid (-48) (V (fop .mul dy (slopeW m1 m2 m3 m4))) := Grid.round (Grid.mul (p := -6) (q := -42) s2.grid h.slope_grid) r2 (by decide)
  -- the sum
  have hn' : (n : Rat) ≤ 10000 := by
    have := Rat.natCast_le_natCast.2 hn
    push_cast at this
    exact this
  have hxb : Flt.ab (V x) ≤ 13000 := by
    have := ho.bound
    grind
  have hp2b : Flt.ab (V (fop .mul dy (slopeW m1 m2 m3 m4))) ≤ 8200 := by grind
  have a1 := le_ab (V x); have a2 := neg_le_ab (V x)
  have a3 := le_ab (V (fop .mul dy (slopeW m1 m2 m3 m4))); have a4 := neg_le_ab (V (fop .mul dy (slopeW m1 m2 m3 m4)))
  have hsum : Flt.ab (V x + V (fop .mul dy (slopeW m1 m2 m3 m4))) ≤ Flt.ab (V x) + Flt.ab (V (fop .mul dy (slopeW m1 m2 m3 m4))) := ab_le (by grind) (by grind)
  obtain ⟨u1, u2⟩ := fadd_ok ho.xs.bd.fin r2.fin (big126 (by grind))
  obtain ⟨n3, n4⟩ := u2.near5
  have g1 := le_ab (V (fop .add x (fop .mul dy (slopeW m1 m2 m3 m4))) - (V x + V (fop .mul dy (slopeW m1 m2 m3 m4))))
  have g2 := neg_le_ab (V (fop .add x (fop .mul dy (slopeW m1 m2 m3 m4))) - (V x + V (fop .mul dy (slopeW m1 m2 m3 m4))))
  have b1 := le_ab (V x + V (fop .mul dy (slopeW m1 m2 m3 m4)))
  have b2 := neg_le_ab (V x + V (fop .mul dy (slopeW m1 m2 m3 m4)))
  have hres : Flt.ab (V (fop .add x (fop .mul dy (slopeW m1 m2 m3 m4)))) ≤ Flt.ab (V x) + Flt.ab (V (fop .mul dy (slopeW m1 m2 m3 m4))) + 1 / 500 := ab_le (by grind) (by grind)
  refine ⟨⟨s1, t1, u1, s2⟩, ⟨Bd.of u2.fin ?_, Grid.round (ho.xs.grid.add hpg) u2 (by decide)⟩, ?_⟩
  · rw [p2_15]
    grind
  · rw [e1]
    have := ho.bound
    have e2 : ((n + 1 : Nat) : Rat) = n + 1 := by push_cast; rfl
    rw [e2]
    grind
/-- All rows go well, and add nothing great. -/
theorem OnF.all (dir : Nat) (hdir : Bd dir 0) : ∀ (k n : Nat) (y : Int) (x : Nat), OnF m1 m2 m3 m4 n y x → m2 / 64 ≤ y → y + k ≤ (m4 + 63) / 64 → n + k ≤ 10000 →
    (⟨wq m2, wq m4, dir, slopeW m1 m2 m3 m4⟩ : GL).ok k y x ∧ ∀ W, ∀ p ∈ (⟨wq m2, wq m4, dir, slopeW m1 m2 m3 m4⟩ : GL).adds W k y x, Bd p.2 68
  | 0, _, _, _, _, _, _, _ => ⟨trivial, fun W p hp => by simp [GL.adds] at hp⟩
  | k + 1, n, y, x, ho, h1, h2, h3 => by
    obtain ⟨⟨s1, s2, s3, s4⟩, hn⟩ := ho.next h (dir := dir) h1 (by omega) (by omega)
    obtain ⟨p1, p2', p3⟩ := k64_bd h.lt h1 (show y < (m4 + 63) / 64 by omega)
    obtain ⟨i1, i2⟩ := OnF.all dir hdir k (n + 1) (y + 1) _ hn (by omega) (by omega) (by omega)
    obtain ⟨d1, d2⟩ := Bd.mul (s4.bd0 (by omega) p3) hdir
    obtain ⟨r1, r2⟩ := row_ok ho.xs hn.xs d2
    refine ⟨⟨s1, s2, s3, fun _ => ⟨d1, r1⟩, i1⟩, fun W p hp => ?_⟩
    rw [GL.adds, List.mem_append] at hp
    rcases hp with hp | hp
    · split at hp
      · simp at hp
      · exact r2 W _ p hp
    · exact i2 W p hp
theorem Span.floUp (s : Bool) (W : Nat) (H : Int) :
    floUp s W H (wq m1) (wq m2) (wq m3) (wq m4) = (⟨wq m2, wq m4, if s then 3212836864 else 1065353216, slopeW m1 m2 m3 m4⟩ : GL).adds W (imin H ((m4 + 63) / 64) - m2 / 64).toNat (m2 / 64) (wq m1) := by
  unfold Go.Proofs.Ytmgcbodlolnheaa.floUp
  rw [h.goes, if_neg (by decide), (fl64of h.q2 h.a2).1.2]
  unfold flEnd
  rw [(fl64of h.q4 h.a4).2.2]
  rfl
theorem Span.floOk (s : Bool) (H : Int) : FloUpOk s H (wq m1) (wq m2) (wq m3) (wq m4) ∧ ∀ W, ∀ p ∈ Go.Proofs.Ytmgcbodlolnheaa.floUp s W H (wq m1) (wq m2) (wq m3) (wq m4), Bd p.2 68 := by
  have hb2 := h.a2
  have hb4 := h.a4
  have hlt := h.lt
  obtain ⟨⟨f1, f2⟩, _⟩ := fl64of h.q2 h.a2
  obtain ⟨_, c1, c2⟩ := fl64of h.q4 h.a4
  have hdir : Bd (if s then 3212836864 else 1065353216) 0 := by cases s; exact fone.1; exact fmone.1
  have hall := OnF.all h _ hdir (imin H ((m4 + 63) / 64) - m2 / 64).toNat 0 (m2 / 64) (wq m1) (OnF.first h) (Int.le_refl _) (by unfold imin; split <;> omega) (by unfold imin; split <;> omega)
  refine ⟨⟨h.subY.1, fun _ => ⟨h.subX.1, h.slope.2, f1, c1, by rw [f2]; omega, ?_⟩⟩, fun W p hp => ?_⟩
  · rw [f2]
    unfold flEnd
    rw [c2]
    exact hall.1
  · rw [h.floUp] at hp
    exact hall.2 W p hp
end
end Go.Proofs.Ytmgcbodlolnheaa
