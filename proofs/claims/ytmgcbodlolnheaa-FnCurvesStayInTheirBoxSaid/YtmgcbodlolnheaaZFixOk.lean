/-
  A line in the numbers of fixed point goes well: no operation leaves its kind.
-/
import Derived.Test.YtmgcbodlolnheaaZFixNum
namespace Go.Proofs.Ytmgcbodlolnheaa
open Flt

/-! ### constants -/
theorem p2_neg (n : Nat) : p2 (-(n : Int)) * ((2 ^ n : Nat) : Rat) = 1 := by rw [← p2_nat, ← p2_add, show -(n : Int) + n = 0 by omega, p2_zero]
theorem read_V {a : Nat} {s : Bool} {m : Nat} {e : Int} (h : Ieee.single.read a = .number s m e) : F32 a ∧ V a = sgn s * m * p2 e :=
  ⟨⟨s, m, e, h⟩, by show dval (Ieee.single.read a) = _; rw [h]; rfl⟩
theorem cTiny : F32 897988541 ∧ (999 : Rat) / 1000000000 ≤ V 897988541 ∧ V 897988541 ≤ 1 / 1000000 := by
  obtain ⟨h1, h2⟩ := read_V (a := 897988541) (s := false) (m := 8796093) (e := -43) (by decide)
  refine ⟨h1, ?_⟩
  rw [h2]
  have := p2_neg 43
  simp only [sgn]
  push_cast at this ⊢
  constructor <;> grind
theorem fzero : F32 0 ∧ V 0 = 0 := by
  obtain ⟨h1, h2⟩ := read_V (a := 0) (s := false) (m := 0) (e := -149) (by decide)
  exact ⟨h1, by rw [h2]; simp⟩

/-! ### sizes -/
theorem p2_100 : (1000000000000000000000000000000 : Rat) ≤ p2 100 := by
  have : p2 ((100 : Nat) : Int) = ((2 ^ 100 : Nat) : Rat) := p2_nat 100
  have e : p2 100 = ((2 ^ 100 : Nat) : Rat) := this
  rw [e]
  push_cast
  grind
theorem big126 {x : Rat} (h : x ≤ 1000000000000000000000000000000) : x ≤ p2 126 := Rat.le_trans h (Rat.le_trans p2_100 (p2_mono (by decide)))
theorem big125 {x : Rat} (h : x ≤ 1000000000000000000000000000000) : x ≤ p2 125 := Rat.le_trans h (Rat.le_trans p2_100 (p2_mono (by decide)))
theorem p2_m24 : p2 (-24) = 1 / 16777216 := by
  have h := p2_neg 24
  have e : p2 (-24) = p2 (-((24 : Nat) : Int)) := rfl
  rw [e]
  push_cast at h
  grind
/-- What is less than everything here. -/
theorem p2_m150 : p2 (-150) ≤ 1 / 1000000000000000000000000000000 ∧ 0 < p2 (-150) := by
  refine ⟨?_, p2_pos _⟩
  have h1 : p2 (-150) ≤ p2 (-100) := p2_mono (by decide)
  have h := p2_neg 100
  have e : p2 (-100) = p2 (-((100 : Nat) : Int)) := rfl
  have h2 := p2_100
  have e2 : p2 100 = ((2 ^ 100 : Nat) : Rat) := p2_nat 100
  rw [← e2] at h
  rw [← e] at h
  have hp := p2_pos (-100)
  have h3 := Rat.mul_le_mul_of_nonneg_left h2 (Rat.le_of_lt hp)
  grind
/-- The error, by a hundredth of a thousandth. -/
theorem R32.near5 {x : Rat} {r : Nat} (h : R32 x r) : ab (V r) ≤ ab x * (100001 / 100000) + 1 / 1000000000000000000000000000000 ∧ ab (V r - x) ≤ ab x * (1 / 16777216) + 1 / 1000000000000000000000000000000 := by
  obtain ⟨h1, h2⟩ := h.rel
  rw [p2_m24] at h1 h2
  obtain ⟨h3, _⟩ := p2_m150
  have ha := ab_nonneg x
  have hx1 := le_ab x
  have hx2 := neg_le_ab x
  constructor
  · refine ab_le ?_ ?_ <;> grind
  · refine ab_le ?_ ?_ <;> grind
/-! ### cutting -/
/-! ### whole numbers as floats -/
theorem ofInt_small {n : Int} (h1 : 0 ≤ n) (h2 : n ≤ 16777216) : F32 (floatOfInt .f32 n) ∧ V (floatOfInt .f32 n) = n := by
  have hr := ofInt_ok n (by
    refine big126 ?_
    have := ab_int_le (n := n) (b := 16777216) (by omega) (by omega)
    grind)
  exact ⟨hr.fin, hr.eq (n := n) (q := 0) (by rw [p2_zero, Rat.mul_one]) h2 (by omega) (by decide)⟩

/-! ### the rows -/
theorem ab_div {x y : Rat} (hy : 0 < y) : ab (x / y) = ab x / y := by
  have h1 : x / y * y = x := by rw [Rat.div_mul_cancel]; grind
  have h2 : ab (x / y) * y = ab x := by
    rw [← h1, ab_mul, ab_of_nonneg (Rat.le_of_lt hy), h1]
  rw [← h2]
  have : ab (x / y) * y / y = ab (x / y) := by rw [Rat.mul_div_cancel]; grind
  rw [this]

end Go.Proofs.Ytmgcbodlolnheaa
