/-
  What a closed path's calls leave: its edges, one line behind the other. No program is walked here.
-/
import Derived.Test.YtmgcbodlolnheaaZFixSum
namespace Go.Proofs.Ytmgcbodlolnheaa
open Go.RowKit
set_option linter.unusedVariables false

abbrev Pt := Int × Int
/-- A coordinate in 64ths as a float32. -/
def wq (n : Int) : Nat := fop .quo (floatOfInt .f32 n) 1115684864
theorem wq_ok {n : Int} (h1 : -16777216 ≤ n) (h2 : n ≤ 16777216) : Fok .quo (floatOfInt .f32 n) 1115684864 ∧ Q64 (wq n) n := quo64 h1 h2

/-! ### in the numbers of fixed point -/
end Go.Proofs.Ytmgcbodlolnheaa
