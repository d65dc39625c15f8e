/-
  The program's float32 and float64 operations, in rational numbers.
-/
import Derived.Test.YtmgcbodlolnheaaZFlt2
import Derived.Test.YtmgcbodlolnheaaZCurves
namespace Go.Proofs.Ytmgcbodlolnheaa
open Flt

/-- A finite float32; its value. -/
def F32 (a : Nat) : Prop := Fin Ieee.single a
def V (a : Nat) : Rat := fval Ieee.single a
/-- A finite float64; its value. -/
def F64 (a : Nat) : Prop := Fin Ieee.double a
def VV (a : Nat) : Rat := fval Ieee.double a
/-- The float32 r is what x rounds to. -/
def R32 (x : Rat) (r : Nat) : Prop := Rounds Ieee.single x r
def R64 (x : Rat) (r : Nat) : Prop := Rounds Ieee.double x r
theorem R32.fin {x : Rat} {r : Nat} (h : R32 x r) : F32 r := Rounds.fin h
theorem R64.fin {x : Rat} {r : Nat} (h : R64 x r) : F64 r := Rounds.fin h
theorem big_single : big Ieee.single = 126 := by decide
theorem big_double : big Ieee.double = 1022 := by decide

theorem fadd_ok {a b : Nat} (ha : F32 a) (hb : F32 b) (h : ab (V a + V b) ≤ p2 126) : Fok .add a b ∧ R32 (V a + V b) (fop .add a b) := by
  obtain ⟨r, h1, h2⟩ := add_rounds good_single ha hb (by rw [big_single]; exact h)
  have e : floatBits .add .f32 a b = some r := h1
  unfold Fok fop
  rw [e]
  exact ⟨rfl, h2⟩
theorem fsub_ok {a b : Nat} (ha : F32 a) (hb : F32 b) (h : ab (V a - V b) ≤ p2 126) : Fok .sub a b ∧ R32 (V a - V b) (fop .sub a b) := by
  obtain ⟨r, h1, h2⟩ := sub_rounds good_single ha hb (by rw [big_single]; exact h)
  have e : floatBits .sub .f32 a b = some r := h1
  unfold Fok fop
  rw [e]
  exact ⟨rfl, h2⟩
theorem fmul_ok {a b : Nat} (ha : F32 a) (hb : F32 b) (h : ab (V a * V b) ≤ p2 126) : Fok .mul a b ∧ R32 (V a * V b) (fop .mul a b) := by
  obtain ⟨r, h1, h2⟩ := mul_rounds good_single ha hb (by rw [big_single]; exact h)
  have e : floatBits .mul .f32 a b = some r := h1
  unfold Fok fop
  rw [e]
  exact ⟨rfl, h2⟩
theorem fquo_ok {a b : Nat} (ha : F32 a) (hb : F32 b) (h0 : V b ≠ 0) (h : ab (V a) ≤ p2 125 * ab (V b)) : Fok .quo a b ∧ R32 (V a / V b) (fop .quo a b) := by
  obtain ⟨r, h1, h2⟩ := div_rounds good_single ha hb h0 (by rw [big_single]; exact h)
  have e : floatBits .quo .f32 a b = some r := h1
  unfold Fok fop
  rw [e]
  exact ⟨rfl, h2⟩
theorem fmul64_ok {a b : Nat} (ha : F64 a) (hb : F64 b) (h : ab (VV a * VV b) ≤ p2 1022) : Fok64 .mul a b ∧ R64 (VV a * VV b) (fop64 .mul a b) := by
  obtain ⟨r, h1, h2⟩ := mul_rounds good_double ha hb (by rw [big_double]; exact h)
  have e : floatBits .mul .f64 a b = some r := h1
  unfold Fok64 fop64
  rw [e]
  exact ⟨rfl, h2⟩
/-! ### comparing -/
theorem fgt_iff {a b : Nat} (ha : F32 a) (hb : F32 b) : fgt a b = true ↔ V b < V a := by
  have h : FloatKind.f32.format.order a b = some (if V a < V b then .lt else if V a = V b then .eq else .gt) := order_val (f := Ieee.single) ha hb
  unfold fgt
  rw [h]
  by_cases h1 : V a < V b
  · rw [if_pos h1]
    constructor
    · intro h; cases h
    · intro h; grind
  · rw [if_neg h1]
    by_cases h2 : V a = V b
    · rw [if_pos h2]
      constructor
      · intro h; cases h
      · intro h; grind
    · rw [if_neg h2]
      constructor
      · intro _; grind
      · intro _; rfl
theorem flt_iff {a b : Nat} (ha : F32 a) (hb : F32 b) : flt a b = true ↔ V a < V b := by
  have h : FloatKind.f32.format.order a b = some (if V a < V b then .lt else if V a = V b then .eq else .gt) := order_val (f := Ieee.single) ha hb
  unfold flt
  rw [h]
  by_cases h1 : V a < V b
  · rw [if_pos h1]
    exact ⟨fun _ => h1, fun _ => rfl⟩
  · rw [if_neg h1]
    constructor
    · intro h
      split at h <;> cases h
    · intro h; grind
theorem fle_iff {a b : Nat} (ha : F32 a) (hb : F32 b) : fle a b = true ↔ V a ≤ V b := by
  have h : FloatKind.f32.format.order a b = some (if V a < V b then .lt else if V a = V b then .eq else .gt) := order_val (f := Ieee.single) ha hb
  unfold fle
  rw [h]
  by_cases h1 : V a < V b
  · rw [if_pos h1]
    exact ⟨fun _ => by grind, fun _ => rfl⟩
  · rw [if_neg h1]
    by_cases h2 : V a = V b
    · rw [if_pos h2]
      exact ⟨fun _ => by grind, fun _ => rfl⟩
    · rw [if_neg h2]
      constructor
      · intro h; cases h
      · intro h; grind
theorem fge_iff {a b : Nat} (ha : F32 a) (hb : F32 b) : fge a b = true ↔ V b ≤ V a := by
  have h : FloatKind.f32.format.order a b = some (if V a < V b then .lt else if V a = V b then .eq else .gt) := order_val (f := Ieee.single) ha hb
  unfold fge
  rw [h]
  by_cases h1 : V a < V b
  · rw [if_pos h1]
    constructor
    · intro h; cases h
    · intro h; grind
  · rw [if_neg h1]
    by_cases h2 : V a = V b
    · rw [if_pos h2]
      exact ⟨fun _ => by grind, fun _ => rfl⟩
    · rw [if_neg h2]
      exact ⟨fun _ => by grind, fun _ => rfl⟩

/-! ### whole numbers -/
theorem ofInt_ok (n : Int) (h : ab (n : Rat) ≤ p2 126) : R32 (n : Rat) (floatOfInt .f32 n) := int_rounds good_single n (by rw [big_single]; exact h)
theorem min_i32 : IntKind.i32.min = -2147483648 := by decide
theorem max_i32 : IntKind.i32.max = 2147483647 := by decide
theorem min_i64 : IntKind.i64.min = -9223372036854775808 := by decide
theorem max_i64 : IntKind.i64.max = 9223372036854775807 := by decide
theorem int64to32_ok {a : Nat} (ha : F64 a) (h1 : -2147483648 ≤ truncR (VV a)) (h2 : truncR (VV a) ≤ 2147483647) : Iok64 a ∧ int64to32 a = truncR (VV a) := by
  have h : (FloatKind.f64.decode a).toInt .zero = some (truncR (VV a)) := toInt_val (f := Ieee.double) ha (way := .zero) (by decide)
  have e : floatToIntVal .f64 a .i32 = some (truncR (VV a)) := by
    unfold floatToIntVal
    rw [h]
    simp only [min_i32, max_i32]
    rw [if_pos ⟨h1, h2⟩]
  unfold Iok64 int64to32
  rw [e]
  exact ⟨rfl, rfl⟩
theorem int64of_ok {a : Nat} (ha : F64 a) (h1 : -9223372036854775808 ≤ truncR (VV a)) (h2 : truncR (VV a) ≤ 9223372036854775807) : Iok6464 a ∧ int64of a = truncR (VV a) := by
  have h : (FloatKind.f64.decode a).toInt .zero = some (truncR (VV a)) := toInt_val (f := Ieee.double) ha (way := .zero) (by decide)
  have e : floatToIntVal .f64 a .i64 = some (truncR (VV a)) := by
    unfold floatToIntVal
    rw [h]
    simp only [min_i64, max_i64]
    rw [if_pos ⟨h1, h2⟩]
  unfold Iok6464 int64of
  rw [e]
  exact ⟨rfl, rfl⟩
theorem truncR_int (n : Int) : truncR (n : Rat) = n := by
  unfold truncR
  split
  · exact Rat.floor_intCast n
  · have : -(n : Rat) = ((-n : Int) : Rat) := by push_cast; rfl
    rw [this, Rat.floor_intCast]
    omega

/-! ### float64 of a float32 -/
theorem rep_wide {y : Rat} (h : Rep Ieee.single y) : Rep Ieee.double y := by
  obtain ⟨n, q, h1, h2, h3, h4⟩ := h
  have e1 : Ieee.single.binade = 8388608 := by decide
  have e2 : Ieee.double.binade = 4503599627370496 := by decide
  have e3 : Ieee.single.leastPlace = -149 := by decide
  have e4 : Ieee.double.leastPlace = -1074 := by decide
  rw [e1] at h2 h3
  rw [e3] at h4
  exact ⟨n, q, h1, by rw [e2]; omega, by rw [e2]; omega, by rw [e4]; omega⟩
theorem wide_ok {a : Nat} (ha : F32 a) (h : ab (V a) ≤ p2 126) : Num32 a ∧ F64 (wide a) ∧ VV (wide a) = V a := by
  have hrep := rep_wide (val_rep ha)
  obtain ⟨s, m, e, ea⟩ := ha
  have ea' : FloatKind.f32.decode a = .number s m e := ea
  have hv : V a = dval (.number s m e) := by unfold V fval; rw [ea]
  have hbig : ab (dval (.number s m e)) ≤ p2 (big Ieee.double) := by
    rw [← hv, big_double]
    exact Rat.le_trans h (p2_mono (by decide))
  have hr := write_rounds' good_double s m e hbig
  have hw : wide a = Ieee.double.write (.number s m e) := by unfold wide; rw [ea']; rfl
  have hx := hr.exact (by rw [← hv]; exact hrep)
  refine ⟨⟨s, m, e, ea', ?_⟩, by rw [hw]; exact hr.fin, by rw [hw, hv]; exact hx⟩
  obtain ⟨s', m', e', hf⟩ := hr.fin
  have : FloatKind.f64.decode (wide a) = .number s' m' e' := by rw [hw]; exact hf
  rw [this]
  rfl
theorem num64_of {a : Nat} (h : F64 a) : Num64 a := by
  obtain ⟨s, m, e, ea⟩ := h
  have : FloatKind.f64.decode a = .number s m e := ea
  unfold Num64
  rw [this]
  rfl

/-! ### floor and ceiling -/
theorem rep_int {f : Ieee.Format} (hf : f.leastPlace ≤ 0) {n : Int} (h1 : n ≤ 2 * f.binade) (h2 : -(2 * f.binade) ≤ n) : Rep f (n : Rat) :=
  ⟨n, 0, by rw [p2_zero, Rat.mul_one], h1, h2, hf⟩
theorem ab_int_le {n : Int} {b : Nat} (h1 : n ≤ b) (h2 : -(b : Int) ≤ n) : ab (n : Rat) ≤ b := by
  have a1 : (n : Rat) ≤ b := by exact_mod_cast h1
  have a2 : -(b : Rat) ≤ n := by
    have h3 : ((-(b : Int) : Int) : Rat) ≤ (n : Rat) := Rat.intCast_le_intCast.2 h2
    simpa [Rat.intCast_natCast] using h3
  exact ab_le a1 a2
theorem p2_126 : ((2147483648 : Nat) : Rat) ≤ p2 126 := by
  have e : p2 (31 : Nat) = ((2147483648 : Nat) : Rat) := by rw [p2_nat]
  rw [← e]
  exact p2_mono (by decide)
theorem whole_ok {way : Ieee.Toward} (hway : way ≠ .even) {a : Nat} (ha : F32 a) (hV : ab (V a) ≤ p2 126) (h1 : -2147483648 ≤ cutR way (V a)) (h2 : cutR way (V a) ≤ 2147483647) :
    Num32 a ∧ Num64 (wide a) ∧ Iok64 (FloatKind.f64.encode ((FloatKind.f64.decode (wide a)).integral way)) ∧ int64to32 (FloatKind.f64.encode ((FloatKind.f64.decode (wide a)).integral way)) = cutR way (V a) := by
  obtain ⟨w1, w2, w3⟩ := wide_ok ha hV
  have e4 : Ieee.double.leastPlace = -1074 := by decide
  have e2 : Ieee.double.binade = 4503599627370496 := by decide
  have hbig : ab (cutR way (VV (wide a)) : Rat) ≤ p2 (big Ieee.double) := by
    rw [w3, big_double]
    refine Rat.le_trans (ab_int_le (b := 2147483648) (by omega) (by omega)) ?_
    exact Rat.le_trans p2_126 (p2_mono (by decide))
  have hr := integral_float good_double w2 hway hbig
  have hx : fval Ieee.double (Ieee.double.write ((Ieee.double.read (wide a)).integral way)) = (cutR way (V a) : Rat) := by
    have := hr.exact (by
      have e5 : fval Ieee.double (wide a) = V a := w3
      rw [e5]
      exact rep_int (by rw [e4]; decide) (by rw [e2]; omega) (by rw [e2]; omega))
    rw [this]
    have e5 : fval Ieee.double (wide a) = V a := w3
    rw [e5]
  have hT : truncR (VV (Ieee.double.write ((Ieee.double.read (wide a)).integral way))) = cutR way (V a) := by
    show truncR (fval Ieee.double _) = _
    rw [hx, truncR_int]
  obtain ⟨i1, i2⟩ := int64to32_ok (a := Ieee.double.write ((Ieee.double.read (wide a)).integral way)) hr.fin (by rw [hT]; exact h1) (by rw [hT]; exact h2)
  exact ⟨w1, num64_of w2, i1, i2.trans hT⟩
theorem ffl_ok {a : Nat} (ha : F32 a) (hV : ab (V a) ≤ p2 126) (h1 : -2147483648 ≤ (V a).floor) (h2 : (V a).floor ≤ 2147483647) : FlOk a ∧ ffl a = (V a).floor := by
  obtain ⟨w1, w2, w3, w4⟩ := whole_ok (way := .down) (by decide) ha hV h1 h2
  exact ⟨⟨w1, w2, w3⟩, w4⟩
/-- The least whole number that is not below. -/
def ceilR (x : Rat) : Int := -(-x).floor
theorem fce_ok {a : Nat} (ha : F32 a) (hV : ab (V a) ≤ p2 126) (h1 : -2147483648 ≤ ceilR (V a)) (h2 : ceilR (V a) ≤ 2147483647) : CeOk a ∧ fce a = ceilR (V a) := by
  obtain ⟨w1, w2, w3, w4⟩ := whole_ok (way := .up) (by decide) ha hV h1 h2
  exact ⟨⟨w1, w2, w3⟩, w4⟩
end Go.Proofs.Ytmgcbodlolnheaa
