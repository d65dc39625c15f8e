/-
  Square roots over the model's words, loosely: a bound. Curves go well. No program is walked here.
-/
import Derived.Test.YtmgcbodlolnheaaFloEdges
namespace Go.Proofs.Ytmgcbodlolnheaa
open Flt
set_option linter.unusedVariables false

theorem rootFrom_lt (n : Nat) : ∀ (todo root : Nat), Ieee.Datum.rootFrom n todo root < root + 2 ^ todo
  | 0, root => by rw [Ieee.Datum.rootFrom]; omega
  | todo + 1, root => by
    rw [Ieee.Datum.rootFrom]
    have e : 1 <<< todo = 2 ^ todo := by rw [Nat.shiftLeft_eq, Nat.one_mul]
    have hp : 2 ^ (todo + 1) = 2 ^ todo + 2 ^ todo := by rw [Nat.pow_succ]; omega
    have hpos := Nat.two_pow_pos todo
    simp only [e]
    split
    · have := rootFrom_lt n todo (root + 2 ^ todo)
      omega
    · have := rootFrom_lt n todo root
      omega
/-- The root of a number that is not below 0. -/
theorem sqrt_ok {a : Nat} (ha : F64 a) (h0 : 0 ≤ VV a) {k : Int} (hk : VV a ≤ p2 (2 * k)) (hk1 : -400 ≤ k) (hk2 : k ≤ 400) :
    SqOk a ∧ F64 (fsqrt a) ∧ 0 ≤ VV (fsqrt a) ∧ VV (fsqrt a) ≤ p2 (k + 1) := by
  obtain ⟨s, m, i, ea⟩ := ha
  have hv : VV a = sgn s * m * p2 i := by show dval (Ieee.double.read a) = _; rw [ea]; rfl
  have hp1 := p2_pos (k + 1)
  have hdec : FloatKind.f64.format.sqrt a = ((Ieee.Datum.number s m i).root (Ieee.double.fractionBits + 2)).map Ieee.double.write := by
    show Ieee.double.sqrt a = _
    unfold Ieee.Format.sqrt
    rw [ea]
  by_cases hm : m = 0
  · subst hm
    have hr : (Ieee.Datum.number s 0 i).root (Ieee.double.fractionBits + 2) = some (.number s 0 i) := by simp [Ieee.Datum.root]
    rw [hr] at hdec
    have hb : Flt.ab (dval (.number s 0 i)) ≤ p2 (big Ieee.double) := by
      have : dval (.number s 0 i) = 0 := by simp [dval]
      rw [this]
      have := p2_pos (big Ieee.double)
      have e : Flt.ab 0 = 0 := by decide
      grind
    have hw := write_rounds' good_double s 0 i hb
    have hz : dval (.number s 0 i) = 0 := by simp [dval]
    rw [hz] at hw
    have hrep : Rep Ieee.double 0 := ⟨0, 0, by simp, by decide, by decide, by decide⟩
    have hx := hw.exact hrep
    unfold SqOk fsqrt
    rw [hdec]
    refine ⟨rfl, hw.fin, ?_, ?_⟩
    · show 0 ≤ fval Ieee.double _
      simp only [Option.map_some, Option.getD_some]
      rw [hx]
      exact Rat.le_refl
    · show fval Ieee.double _ ≤ _
      simp only [Option.map_some, Option.getD_some]
      rw [hx]
      grind
  · have hs : s = false := by
      cases s
      · rfl
      · exfalso
        have h1 : (0 : Rat) < m * p2 i := Rat.mul_pos (by have := Nat.pos_of_ne_zero hm; exact_mod_cast this) (p2_pos i)
        rw [hv] at h0
        simp [sgn] at h0
        grind
    subst hs
    obtain ⟨more, hmore⟩ : ∃ more : Nat, more = (2 * (Ieee.double.fractionBits + 2) - m.log2) + ((i - ((2 * (Ieee.double.fractionBits + 2) - m.log2 : Nat) : Int)) % 2).toNat := ⟨_, rfl⟩
    have heven : (i - (more : Int)) % 2 = 0 := by rw [hmore]; omega
    obtain ⟨n, hn⟩ : ∃ n : Nat, n = m <<< more := ⟨_, rfl⟩
    obtain ⟨whole, hwh⟩ : ∃ whole : Nat, whole = Ieee.Datum.rootFrom n (n.log2 / 2 + 1) 0 := ⟨_, rfl⟩
    have hr : (Ieee.Datum.number false m i).root (Ieee.double.fractionBits + 2) = some (.number false (2 * whole + (whole * whole != n).toNat) ((i - more) / 2 - 1)) := by
      simp only [Ieee.Datum.root, if_neg hm]
      rw [← hmore, ← hn, ← hwh]
      rfl
    rw [hr] at hdec
    have hlt : whole < 2 ^ (n.log2 / 2 + 1) := by
      have := rootFrom_lt n (n.log2 / 2 + 1) 0
      omega
    have hn0 : n ≠ 0 := by
      rw [hn, Nat.shiftLeft_eq]
      have h1 := Nat.two_pow_pos more
      have h2 := Nat.pos_of_ne_zero hm
      have := Nat.mul_pos h2 h1
      omega
    -- the size
    have hx : VV a = n * p2 (i - more) := by
      rw [hv, hn, Nat.shiftLeft_eq]
      have e : p2 i = p2 (i - more) * p2 (more : Int) := by rw [← p2_add]; congr 1; omega
      rw [e, p2_nat]
      simp only [sgn]
      push_cast
      grind
    have hlo := log2_lo n (i - more) hn0
    rw [← hx] at hlo
    have hle := le_of_p2 (Rat.le_trans hlo hk)
    have hbit : (whole * whole != n).toNat ≤ 1 := by cases (whole * whole != n) <;> decide
    have hd0 : 0 ≤ dval (.number false (2 * whole + (whole * whole != n).toNat) ((i - more) / 2 - 1)) := by
      simp only [dval, sgn]
      exact Rat.mul_nonneg (Rat.mul_nonneg (by decide) Rat.natCast_nonneg) (Rat.le_of_lt (p2_pos _))
    have hd1 : dval (.number false (2 * whole + (whole * whole != n).toNat) ((i - more) / 2 - 1)) ≤ p2 (k + 1) := by
      have e1 : (2 * whole + (whole * whole != n).toNat : Nat) ≤ 2 ^ (n.log2 / 2 + 2) := by
        have : 2 ^ (n.log2 / 2 + 2) = 2 * 2 ^ (n.log2 / 2 + 1) := by rw [Nat.pow_succ, Nat.mul_comm]
        omega
      have e2 : ((2 * whole + (whole * whole != n).toNat : Nat) : Rat) ≤ p2 ((n.log2 / 2 + 2 : Nat) : Int) := by
        rw [p2_nat]
        exact_mod_cast e1
      have e3 := Rat.mul_le_mul_of_nonneg_right e2 (Rat.le_of_lt (p2_pos ((i - more) / 2 - 1)))
      rw [← p2_add] at e3
      have e4 : p2 (((n.log2 / 2 + 2 : Nat) : Int) + ((i - more) / 2 - 1)) ≤ p2 (k + 1) := p2_mono (by omega)
      have e5 : dval (.number false (2 * whole + (whole * whole != n).toNat) ((i - more) / 2 - 1)) = ((2 * whole + (whole * whole != n).toNat : Nat) : Rat) * p2 ((i - more) / 2 - 1) := by
        simp only [dval, sgn]
        grind
      rw [e5]
      grind
    have hb : Flt.ab (dval (.number false (2 * whole + (whole * whole != n).toNat) ((i - more) / 2 - 1))) ≤ p2 (big Ieee.double) := by
      rw [ab_of_nonneg hd0, big_double]
      exact Rat.le_trans hd1 (p2_mono (by omega))
    have hw := write_rounds' good_double _ _ _ hb
    have e2 : Ieee.double.binade = 4503599627370496 := by decide
    have e4 : Ieee.double.leastPlace = -1074 := by decide
    have hrep1 : Rep Ieee.double (p2 (k + 1)) := ⟨1, k + 1, by rw [show ((1 : Int) : Rat) = 1 from rfl, Rat.one_mul], by rw [e2]; decide, by rw [e2]; decide, by rw [e4]; omega⟩
    have hrep0 : Rep Ieee.double 0 := ⟨0, 0, by simp, by decide, by decide, by decide⟩
    unfold SqOk fsqrt
    rw [hdec]
    exact ⟨rfl, hw.fin, hw.dn _ hrep0 hd0, hw.up _ hrep1 hd1⟩

/-! ### between two points -/
theorem c2 : Bd 1073741824 1 ∧ V 1073741824 = 2 := by
  obtain ⟨h1, h2⟩ := read_V (a := 1073741824) (s := false) (m := 8388608) (e := -22) (by decide)
  have hv : V 1073741824 = 2 := by
    rw [h2]
    have := p2_neg 22
    simp only [sgn]
    push_cast at this ⊢
    grind
  exact ⟨⟨h1, by rw [hv, p2_one]; exact Rat.le_refl, by rw [hv, p2_one]; decide⟩, hv⟩
/-- From p towards q, by a part t: between them, but for a millionth. -/
theorem lerp_ok {t p q : Nat} {M : Rat} (ht : F32 t) (hp : F32 p) (hq : F32 q) (t0 : 0 ≤ V t) (t1 : V t ≤ 1) (hM : M ≤ 1000000) (hM1 : 1 ≤ M) (bp : Flt.ab (V p) ≤ M) (bq : Flt.ab (V q) ≤ M) :
    FlerpOk t p q ∧ F32 (flerp t p q) ∧ Flt.ab (V (flerp t p q) - (V p + V t * (V q - V p))) ≤ M / 1000000 ∧ Flt.ab (V (flerp t p q)) ≤ M + M / 1000000 := by
  have a1 := le_ab (V p); have a2 := neg_le_ab (V p)
  have a3 := le_ab (V q); have a4 := neg_le_ab (V q)
  have hd : Flt.ab (V q - V p) ≤ 2 * M := ab_le (by grind) (by grind)
  obtain ⟨q1, q2⟩ := fsub_ok hq hp (big126 (by grind))
  obtain ⟨n1, n2⟩ := q2.near5
  have d1 := le_ab (V (fop .sub q p) - (V q - V p)); have d2 := neg_le_ab (V (fop .sub q p) - (V q - V p))
  have hab : Flt.ab (V t * V (fop .sub q p)) ≤ Flt.ab (V (fop .sub q p)) := by
    rw [ab_mul, ab_of_nonneg t0]
    have := Rat.mul_le_mul_of_nonneg_right t1 (ab_nonneg (V (fop .sub q p)))
    grind
  obtain ⟨q3, q4⟩ := fmul_ok ht q2.fin (big126 (by grind))
  obtain ⟨n3, n4⟩ := q4.near5
  have d3 := le_ab (V (fop .mul t (fop .sub q p)) - V t * V (fop .sub q p)); have d4 := neg_le_ab (V (fop .mul t (fop .sub q p)) - V t * V (fop .sub q p))
  have hm : Flt.ab (V t * (V (fop .sub q p) - (V q - V p))) ≤ Flt.ab (V (fop .sub q p) - (V q - V p)) := by
    rw [ab_mul, ab_of_nonneg t0]
    have := Rat.mul_le_mul_of_nonneg_right t1 (ab_nonneg (V (fop .sub q p) - (V q - V p)))
    grind
  have d5 := le_ab (V t * (V (fop .sub q p) - (V q - V p))); have d6 := neg_le_ab (V t * (V (fop .sub q p) - (V q - V p)))
  have hb : Flt.ab (V (fop .mul t (fop .sub q p))) ≤ 3 * M := by grind
  have d9 := le_ab (V (fop .mul t (fop .sub q p))); have d10 := neg_le_ab (V (fop .mul t (fop .sub q p)))
  have hsum : Flt.ab (V p + V (fop .mul t (fop .sub q p))) ≤ 4 * M := ab_le (by grind) (by grind)
  obtain ⟨q5, q6⟩ := fadd_ok hp q4.fin (big126 (by grind))
  obtain ⟨n5, n6⟩ := q6.near5
  have d7 := le_ab (V (fop .add p (fop .mul t (fop .sub q p))) - (V p + V (fop .mul t (fop .sub q p)))); have d8 := neg_le_ab (V (fop .add p (fop .mul t (fop .sub q p))) - (V p + V (fop .mul t (fop .sub q p))))
  have herr : Flt.ab (V (flerp t p q) - (V p + V t * (V q - V p))) ≤ M / 1000000 := by
    unfold flerp
    exact ab_le (by grind) (by grind)
  have e1 := le_ab (V (flerp t p q) - (V p + V t * (V q - V p))); have e2 := neg_le_ab (V (flerp t p q) - (V p + V t * (V q - V p)))
  refine ⟨⟨q1, q3, q5⟩, q6.fin, herr, ?_⟩
  have hx : Flt.ab (V p + V t * (V q - V p)) ≤ M := by
    have k1 := Rat.mul_nonneg t0 (show 0 ≤ M - V q by grind)
    have k2 := Rat.mul_nonneg t0 (show 0 ≤ M + V q by grind)
    have k3 := Rat.mul_nonneg (show 0 ≤ 1 - V t by grind) (show 0 ≤ M - V p by grind)
    have k4 := Rat.mul_nonneg (show 0 ≤ 1 - V t by grind) (show 0 ≤ M + V p by grind)
    exact ab_le (by grind) (by grind)
  have f1 := le_ab (V p + V t * (V q - V p)); have f2 := neg_le_ab (V p + V t * (V q - V p))
  exact ab_le (by grind) (by grind)
theorem quadAt_ok {t a b c : Nat} {M : Rat} (ht : F32 t) (ha : F32 a) (hb : F32 b) (hc : F32 c) (t0 : 0 ≤ V t) (t1 : V t ≤ 1) (hM : M ≤ 100000) (hM1 : 1 ≤ M) (ba : Flt.ab (V a) ≤ M) (bb : Flt.ab (V b) ≤ M) (bc : Flt.ab (V c) ≤ M) :
    QuadAtOk a b c t ∧ F32 (quadAt a b c t) ∧ Flt.ab (V (quadAt a b c t)) ≤ M + M / 100000 := by
  obtain ⟨a1, a2, _, a3⟩ := lerp_ok ht ha hb t0 t1 (by grind) hM1 ba bb
  obtain ⟨b1, b2, _, b3⟩ := lerp_ok ht hb hc t0 t1 (by grind) hM1 bb bc
  obtain ⟨c1, c2, _, c3⟩ := lerp_ok ht a2 b2 t0 t1 (M := M + M / 1000000) (by grind) (by grind) a3 b3
  exact ⟨⟨a1, b1, c1⟩, c2, by unfold quadAt; grind⟩
theorem cubeAt_ok {t a b c d : Nat} {M : Rat} (ht : F32 t) (ha : F32 a) (hb : F32 b) (hc : F32 c) (hd : F32 d) (t0 : 0 ≤ V t) (t1 : V t ≤ 1) (hM : M ≤ 100000) (hM1 : 1 ≤ M) (ba : Flt.ab (V a) ≤ M) (bb : Flt.ab (V b) ≤ M) (bc : Flt.ab (V c) ≤ M) (bd : Flt.ab (V d) ≤ M) :
    CubeAtOk a b c d t ∧ F32 (cubeAt a b c d t) ∧ Flt.ab (V (cubeAt a b c d t)) ≤ M + M / 100000 := by
  obtain ⟨a1, a2, _, a3⟩ := lerp_ok ht ha hb t0 t1 (by grind) hM1 ba bb
  obtain ⟨b1, b2, _, b3⟩ := lerp_ok ht hb hc t0 t1 (by grind) hM1 bb bc
  obtain ⟨c1, c2, _, c3⟩ := lerp_ok ht hc hd t0 t1 (by grind) hM1 bc bd
  obtain ⟨d1, d2, _, d3⟩ := lerp_ok ht a2 b2 t0 t1 (M := M + M / 1000000) (by grind) (by grind) a3 b3
  obtain ⟨e1, e2, _, e3⟩ := lerp_ok ht b2 c2 t0 t1 (M := M + M / 1000000) (by grind) (by grind) b3 c3
  obtain ⟨f1, f2, _, f3⟩ := lerp_ok ht d2 e2 t0 t1 (M := M + M / 1000000 + (M + M / 1000000) / 1000000) (by grind) (by grind) d3 e3
  exact ⟨⟨a1, b1, c1, d1, e1, f1⟩, f2, by unfold cubeAt; grind⟩
end Go.Proofs.Ytmgcbodlolnheaa
