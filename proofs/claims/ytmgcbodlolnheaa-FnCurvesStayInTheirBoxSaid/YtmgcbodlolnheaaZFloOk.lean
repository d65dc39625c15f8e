/-
  Closed paths through points in 64ths in the floating kind: all goes well. No program is walked here.
-/
import Derived.Test.YtmgcbodlolnheaaZFloRowOk
namespace Go.Proofs.Ytmgcbodlolnheaa
open Flt
set_option linter.unusedVariables false

section
variable {m1 m2 m3 m4 : Int} (h : Span m1 m2 m3 m4)
include h
end
section
variable {m1 m2 m3 m4 : Int} (h : Span m1 m2 m3 m4)
include h
end
end Go.Proofs.Ytmgcbodlolnheaa
