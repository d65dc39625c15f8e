/-
  The numbers of fixed point: a line as a list of additions; the bytes of the mask out of sums of additions. No program is walked here.
-/
import Derived.Test.YtmgcbodlolnheaaZSixty
import Derived.Test.YtmgcbodlolnheaaZEqual
namespace Go.Proofs.Ytmgcbodlolnheaa
open Go.RowKit
set_option linter.unusedVariables false

/-! ### sums -/
end Go.Proofs.Ytmgcbodlolnheaa
