/-
  Go's max and min of two float64 words.
  'spec.Near': contract.
  'spec.Area's closure: the height's place on an edge.
  'spec.Area' in words of float64: what it computes, and when each step has an answer. No program is walked here.
  'spec.Area' is the area, but for very little: float64 as numbers. No program is walked here.
  'spec.Near' in numbers. No program is walked here.
-/
import Derived.Test.YtmgcbodlolnheaaZFlt3
import Derived.Test.YtmgcbodlolnheaaZCurves
import Derived.Test.YtmgcbodlolnheaaZSpec1
import Derived.Test.YtmgcbodlolnheaaZFixEdge
namespace Go.Proofs.Ytmgcbodlolnheaa
open Flt
open Go.ChangeShapes Go.WideShapes Go.ChangeAt Go.RowKit
set_option linter.unusedVariables false

def Cmp64 (x y : Nat) : Prop := (FloatKind.f64.format.order x y).isSome = true
def fmax64 (x y : Nat) : Nat := match FloatKind.f64.format.order x y with
  | some .lt => y
  | some .gt => x
  | _ => if (FloatKind.f64.decode x).neg then y else x
def fmin64 (x y : Nat) : Nat := match FloatKind.f64.format.order x y with
  | some .lt => x
  | some .gt => y
  | _ => if (FloatKind.f64.decode x).neg then x else y
@[go_sem ↓] theorem run_max64 {P : Program} {w : World} (ts : Array TypeId) (t : TypeId) (x y : Nat) (h : Cmp64 x y) : (Builtin.max_ ts t #[.float .f64 x, .float .f64 y]).run P w = .ok (.float .f64 (fmax64 x y)) w := by
  unfold Cmp64 at h
  unfold fmax64
  cases ho : FloatKind.f64.format.order x y with
  | none => rw [ho] at h; cases h
  | some o => cases o <;> simp [Builtin.max_, Builtin.max2, ho]
@[go_sem ↓] theorem run_min64 {P : Program} {w : World} (ts : Array TypeId) (t : TypeId) (x y : Nat) (h : Cmp64 x y) : (Builtin.min_ ts t #[.float .f64 x, .float .f64 y]).run P w = .ok (.float .f64 (fmin64 x y)) w := by
  unfold Cmp64 at h
  unfold fmin64
  cases ho : FloatKind.f64.format.order x y with
  | none => rw [ho] at h; cases h
  | some o => cases o <;> simp [Builtin.min_, Builtin.min2, ho]
end Go.Proofs.Ytmgcbodlolnheaa

namespace Go.Proofs.Ytmgcbodlolnheaa
open Flt
open Go.ChangeShapes Go.WideShapes Go.ChangeAt Go.RowKit
set_option linter.unusedVariables false

def fneg64 (x : Nat) : Nat := Op.negFloat .f64 x
@[go_sem ↓] theorem run_neg64 {P : Program} {w : World} (x : Nat) : (Op.unary .neg (.float .f64 x)).run P w = .ok (.float .f64 (fneg64 x)) w := by
  simp [Op.unary, fneg64]
end Go.Proofs.Ytmgcbodlolnheaa

namespace Go.Proofs.Ytmgcbodlolnheaa
open Flt
open Go.ChangeShapes Go.WideShapes Go.ChangeAt Go.RowKit
set_option linter.unusedVariables false

end Go.Proofs.Ytmgcbodlolnheaa

namespace Go.Proofs.Ytmgcbodlolnheaa
open Flt
open Go.ChangeShapes Go.WideShapes Go.ChangeAt Go.RowKit
set_option linter.unusedVariables false

/-! ### sorting by exchange -/
/-! ### an edge -/
end Go.Proofs.Ytmgcbodlolnheaa

namespace Go.Proofs.Ytmgcbodlolnheaa
open Flt
set_option linter.unusedVariables false

theorem least_double : Ieee.double.leastPlace = -1074 := by decide
theorem binade_double : Ieee.double.binade = 4503599627370496 := by decide
theorem p2_m53 : p2 (-53) = 1 / 9007199254740992 := by
  have h := p2_neg 53
  have e : p2 (-53) = p2 (-((53 : Nat) : Int)) := rfl
  rw [e]
  push_cast at h
  grind
theorem R64.rel {x : Rat} {r : Nat} (h : R64 x r) : VV r ≤ x + ab x * p2 (-53) + p2 (-1075) ∧ x ≤ VV r + ab x * p2 (-53) + p2 (-1075) := by
  obtain ⟨L, k, l1, l2, l3, l4, l5, l6⟩ := Rounds.err h
  rw [least_double] at l1 l4
  rw [binade_double] at l4
  have hL : p2 L ≤ 2 * (ab x * p2 (-53) + p2 (-1075)) := by
    have ha := ab_nonneg x
    have hp := p2_pos (-53)
    have hq := p2_pos (-1075)
    have hm := Rat.mul_nonneg ha (Rat.le_of_lt hp)
    rcases l4 with h4 | h4
    · subst h4
      have : p2 (-1074) = 2 * p2 (-1075) := by rw [← p2_succ]; rfl
      grind
    · have h5 := Rat.mul_le_mul_of_nonneg_right h4 (Rat.le_of_lt hp)
      have h6 : ((4503599627370496 : Nat) : Rat) * p2 L * p2 (-53) = p2 L / 2 := by
        have e1 : ((4503599627370496 : Nat) : Rat) = p2 52 := by rw [show (52 : Int) = ((52 : Nat) : Int) by rfl, p2_nat]
        have e2 : p2 52 * p2 (-53) = p2 (-1) := by rw [← p2_add]; rfl
        have e3 : p2 (-1) = 1 / 2 := by
          have : p2 (-1) * 2 = 1 := by rw [← p2_one, ← p2_add]; exact p2_zero
          grind
        rw [e1]
        grind
      grind
  have hV : VV r = fval Ieee.double r := rfl
  rw [hV]
  constructor <;> grind
theorem p2_m1075 : p2 (-1075) ≤ 1 / 1000000000000000000000000000000 := Rat.le_trans (p2_mono (by decide)) p2_m150.1
/-- The error of a float64. -/
theorem R64.near {x : Rat} {r : Nat} (h : R64 x r) : VV r ≤ x + ab x / 9007199254740992 + 1 / 1000000000000000000000000000000 ∧ x ≤ VV r + ab x / 9007199254740992 + 1 / 1000000000000000000000000000000 := by
  obtain ⟨h1, h2⟩ := h.rel
  have h3 := p2_m1075
  rw [p2_m53] at h1 h2
  constructor <;> grind
theorem R64.near2 {x : Rat} {r : Nat} (h : R64 x r) {M : Rat} (hx : ab x ≤ M) : ab (VV r - x) ≤ M / 9007199254740992 + 1 / 1000000000000000000000000000000 := by
  obtain ⟨h1, h2⟩ := h.near
  refine ab_le ?_ ?_ <;> grind
/-- An edge that goes down, and a pixel, near enough. -/
structure Dn (x0 y0 x1 y1 : Int) (X Y : Nat) : Prop where
  a : -65536 ≤ x0 ∧ x0 ≤ 65536
  b : -65536 ≤ y0 ∧ y0 ≤ 65536
  c : -65536 ≤ x1 ∧ x1 ≤ 65536
  d : -65536 ≤ y1 ∧ y1 ≤ 65536
  lt : y0 < y1
  hX : X ≤ 600
  hY : Y ≤ 600
section
variable {x0 y0 x1 y1 : Int} {X Y : Nat} (h : Dn x0 y0 x1 y1 X Y)
include h
end
section
variable {x0 y0 x1 y1 : Int} {X Y : Nat} (h : Dn x0 y0 x1 y1 X Y)
include h
end
/-! ### the order of the cuts -/
section
variable {x0 y0 x1 y1 : Int} {X Y : Nat} (h : Dn x0 y0 x1 y1 X Y)
include h
end
end Go.Proofs.Ytmgcbodlolnheaa

namespace Go.Proofs.Ytmgcbodlolnheaa
open Flt
set_option linter.unusedVariables false

end Go.Proofs.Ytmgcbodlolnheaa
