/-
  Coordinates in 64ths of a pixel as float32; lines between such points, and between near points, in the numbers of fixed point.
-/
import Derived.Test.YtmgcbodlolnheaaZFixOk
namespace Go.Proofs.Ytmgcbodlolnheaa
open Flt

theorem c64 : F32 1115684864 ∧ V 1115684864 = 64 := by
  obtain ⟨h1, h2⟩ := read_V (a := 1115684864) (s := false) (m := 8388608) (e := -17) (by decide)
  refine ⟨h1, ?_⟩
  rw [h2]
  have := p2_neg 17
  simp only [sgn]
  push_cast at this ⊢
  grind
theorem p2_m6 : p2 (-6) = 1 / 64 := by
  have h := p2_neg 6
  have e : p2 (-6) = p2 (-((6 : Nat) : Int)) := rfl
  rw [e]
  push_cast at h
  grind
theorem ofInt_any {n : Int} (h1 : -16777216 ≤ n) (h2 : n ≤ 16777216) : F32 (floatOfInt .f32 n) ∧ V (floatOfInt .f32 n) = n := by
  have hr := ofInt_ok n (by
    refine big126 ?_
    have := ab_int_le (n := n) (b := 16777216) (by omega) (by omega)
    grind)
  exact ⟨hr.fin, hr.eq (n := n) (q := 0) (by rw [p2_zero, Rat.mul_one]) h2 h1 (by decide)⟩
/-- A float32 that is n 64ths. -/
def Q64 (a : Nat) (n : Int) : Prop := F32 a ∧ V a = (n : Rat) / 64
theorem quo64 {n : Int} (h1 : -16777216 ≤ n) (h2 : n ≤ 16777216) : Fok .quo (floatOfInt .f32 n) 1115684864 ∧ Q64 (fop .quo (floatOfInt .f32 n) 1115684864) n := by
  obtain ⟨a1, a2⟩ := ofInt_any h1 h2
  obtain ⟨c1, c2⟩ := c64
  obtain ⟨q1, q2⟩ := fquo_ok a1 c1 (by rw [c2]; decide) (by
    rw [a2, c2]
    have h3 := ab_int_le (n := n) (b := 16777216) (by omega) (by omega)
    have h4 : (1000000000000000000000000000000 : Rat) ≤ p2 125 := big125 Rat.le_refl
    have h5 : ab 64 = 64 := by decide
    rw [h5]
    grind)
  rw [a2, c2] at q2
  exact ⟨q1, q2.fin, q2.eq (n := n) (q := -6) (by rw [p2_m6]; grind) h2 h1 (by decide)⟩
/-- Differences are exact. -/
theorem Q64.sub {a b : Nat} {m n : Int} (ha : Q64 a m) (hb : Q64 b n) (h1 : -16777216 ≤ m - n) (h2 : m - n ≤ 16777216) : Fok .sub a b ∧ Q64 (fop .sub a b) (m - n) := by
  have hv : V a - V b = ((m - n : Int) : Rat) / 64 := by rw [ha.2, hb.2]; push_cast; grind
  obtain ⟨q1, q2⟩ := fsub_ok ha.1 hb.1 (by
    rw [hv]
    refine big126 ?_
    have h3 := ab_int_le (n := m - n) (b := 16777216) (by omega) (by omega)
    have h4 := le_ab ((m - n : Int) : Rat)
    have h5 := neg_le_ab ((m - n : Int) : Rat)
    exact ab_le (by grind) (by grind))
  rw [hv] at q2
  exact ⟨q1, q2.fin, by
    have := q2.eq (n := m - n) (q := -6) (by rw [p2_m6]; grind) h2 h1 (by decide)
    exact this⟩

end Go.Proofs.Ytmgcbodlolnheaa
