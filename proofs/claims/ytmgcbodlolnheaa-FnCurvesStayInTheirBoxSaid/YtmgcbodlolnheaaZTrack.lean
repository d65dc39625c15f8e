/-
  In the numbers of fixed point: where a line is, row by row. No program is walked here.
-/
import Derived.Test.YtmgcbodlolnheaaZPathRun
namespace Go.Proofs.Ytmgcbodlolnheaa
open Flt
set_option linter.unusedVariables false

structure Span (m1 m2 m3 m4 : Int) : Prop where
  a1 : -262144 ≤ m1 ∧ m1 ≤ 262144
  a2 : -262144 ≤ m2 ∧ m2 ≤ 262144
  a3 : -262144 ≤ m3 ∧ m3 ≤ 262144
  a4 : -262144 ≤ m4 ∧ m4 ≤ 262144
  lt : m2 < m4
theorem cast_zero : ((0 : Int) : Rat) = 0 := rfl
theorem R32.nonneg {x : Rat} {r : Nat} (h : R32 x r) (hx : 0 ≤ x) : 0 ≤ V r := by
  have := h.geInt (n := 0) (by rw [cast_zero]; exact hx) (by decide) (by decide)
  rwa [cast_zero] at this
section
variable {m1 m2 m3 m4 : Int} (h : Span m1 m2 m3 m4)
include h
end

theorem truncR_pos_bd {x : Rat} (h : 0 ≤ x) : 0 ≤ truncR x ∧ (truncR x : Rat) ≤ x ∧ x < truncR x + 1 := by
  unfold truncR
  rw [if_pos h]
  have h1 := Rat.floor_le x
  have h2 := Rat.lt_floor_add_one x
  push_cast at h2
  exact ⟨(Rat.le_floor_iff).2 (by rw [cast_zero]; exact h), h1, h2⟩

theorem R32.nonpos {x : Rat} {r : Nat} (h : R32 x r) (hx : x ≤ 0) : V r ≤ 0 := by
  have := h.leInt (n := 0) (by rw [cast_zero]; exact hx) (by decide) (by decide)
  rwa [cast_zero] at this
/-- The slope. -/
def slopeR (m1 m2 m3 m4 : Int) : Rat := ((m3 - m1 : Int) : Rat) / ((m4 - m2 : Int) : Rat)
section
variable {m1 m2 m3 m4 : Int} (h : Span m1 m2 m3 m4)
include h
end
end Go.Proofs.Ytmgcbodlolnheaa
