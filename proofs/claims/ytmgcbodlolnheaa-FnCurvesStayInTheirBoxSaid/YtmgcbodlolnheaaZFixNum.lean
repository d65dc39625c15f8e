/-
  When a line in the numbers of fixed point goes well: nothing leaves its kind.
-/
import Derived.Test.YtmgcbodlolnheaaZFlt3
namespace Go.Proofs.Ytmgcbodlolnheaa
open Flt

/-! ### sizes of rounded numbers -/
theorem least_single : Ieee.single.leastPlace = -149 := by decide
theorem binade_single : Ieee.single.binade = 8388608 := by decide
/-- A bound that the format has bounds the rounded number too. -/
theorem R32.le {x : Rat} {r : Nat} (h : R32 x r) {n : Int} {q : Int} (hx : x ≤ n * p2 q) (h1 : n ≤ 16777216) (h2 : -16777216 ≤ n) (hq : -149 ≤ q) : V r ≤ n * p2 q :=
  Rounds.up h _ ⟨n, q, rfl, by rw [binade_single]; omega, by rw [binade_single]; omega, by rw [least_single]; exact hq⟩ hx
theorem R32.ge {x : Rat} {r : Nat} (h : R32 x r) {n : Int} {q : Int} (hx : n * p2 q ≤ x) (h1 : n ≤ 16777216) (h2 : -16777216 ≤ n) (hq : -149 ≤ q) : n * p2 q ≤ V r :=
  Rounds.dn h _ ⟨n, q, rfl, by rw [binade_single]; omega, by rw [binade_single]; omega, by rw [least_single]; exact hq⟩ hx
theorem R32.eq {x : Rat} {r : Nat} (h : R32 x r) {n : Int} {q : Int} (hx : x = n * p2 q) (h1 : n ≤ 16777216) (h2 : -16777216 ≤ n) (hq : -149 ≤ q) : V r = x := by
  have a := h.le (n := n) (q := q) (by rw [hx]; exact Rat.le_refl) h1 h2 hq
  have b := h.ge (n := n) (q := q) (by rw [hx]; exact Rat.le_refl) h1 h2 hq
  grind
theorem R32.leInt {x : Rat} {r : Nat} (h : R32 x r) {n : Int} (hx : x ≤ n) (h1 : n ≤ 16777216) (h2 : -16777216 ≤ n) : V r ≤ n := by
  have := h.le (n := n) (q := 0) (by rw [p2_zero, Rat.mul_one]; exact hx) h1 h2 (by decide)
  rwa [p2_zero, Rat.mul_one] at this
theorem R32.geInt {x : Rat} {r : Nat} (h : R32 x r) {n : Int} (hx : (n : Rat) ≤ x) (h1 : n ≤ 16777216) (h2 : -16777216 ≤ n) : (n : Rat) ≤ V r := by
  have := h.ge (n := n) (q := 0) (by rw [p2_zero, Rat.mul_one]; exact hx) h1 h2 (by decide)
  rwa [p2_zero, Rat.mul_one] at this
/-- The error, relative to the number. -/
theorem R32.rel {x : Rat} {r : Nat} (h : R32 x r) : V r ≤ x + ab x * p2 (-24) + p2 (-150) ∧ x ≤ V r + ab x * p2 (-24) + p2 (-150) := by
  obtain ⟨L, k, l1, l2, l3, l4, l5, l6⟩ := Rounds.err h
  rw [least_single] at l1 l4
  rw [binade_single] at l4
  have hL : p2 L ≤ 2 * (ab x * p2 (-24) + p2 (-150)) := by
    have ha := ab_nonneg x
    have hp := p2_pos (-24)
    have hq := p2_pos (-150)
    have hm := Rat.mul_nonneg ha (Rat.le_of_lt hp)
    rcases l4 with h4 | h4
    · subst h4
      have : p2 (-149) = 2 * p2 (-150) := by rw [← p2_succ]; rfl
      grind
    · have h5 := Rat.mul_le_mul_of_nonneg_right h4 (Rat.le_of_lt hp)
      have h6 : ((8388608 : Nat) : Rat) * p2 L * p2 (-24) = p2 L / 2 := by
        have e1 : ((8388608 : Nat) : Rat) = p2 23 := by rw [show (23 : Int) = ((23 : Nat) : Int) by rfl, p2_nat]
        have e2 : p2 23 * p2 (-24) = p2 (-1) := by rw [← p2_add]; rfl
        have e3 : p2 (-1) = 1 / 2 := by
          have : p2 (-1) * 2 = 1 := by rw [← p2_one, ← p2_add]; exact p2_zero
          grind
        rw [e1]
        grind
      grind
  have hV : V r = fval Ieee.single r := rfl
  rw [hV]
  constructor <;> grind
theorem ab_bounds {x y : Rat} (h : ab x ≤ y) : x ≤ y ∧ -y ≤ x := by
  have h1 := le_ab x
  have h2 := neg_le_ab x
  constructor <;> grind
end Go.Proofs.Ytmgcbodlolnheaa
