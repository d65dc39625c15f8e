/-
  No cell of these rows narrows 'for every input' (looked for: loops, veiled, ifaces, maps, wideKeys, modest, calm, conditions, laid).
  DERIVED. THE GIVEN ROWS OF THIS SEAT. 12 by the template 'for every input the law returns true; each argument reads behind the call as it read before'; 0 by the template 'total and deterministic' (their statements: YtmgcbodlolnheaaTotals.lean).
  GIVEN WITH THE SEED: the statements are not yours to turn. If you find one false, say at which input.
  Laid BY PROGRAM, IN A SANDBOX (cutbox-rows.mjs): the forced cells as the released guide's own fill.sh prints them over the translation f738f131332337dc… (all of the seat's roots in one cut). By AI agents, Wed Nov 11 2026. No macro, syntax, notation, axiom, sorry.
-/
import Derived.Test.YtmgcbodlolnheaaChecked
import GoSem.Claim
import GoSem.ClaimJoined
import GoSem.ClaimMapViews
import Derived.JoinedTies
import Derived.KernelRfl
namespace Go.Proofs.Ytmgcbodlolnheaa
/- THE CELL 'sum', in the pinned program and in every row, IS THE sha256 OF THE DUMP (.gsa) THAT YtmgcbodlolnheaaProg.lean LOADS. Nothing in Lean hashes anything: it is a label: what it is worth is what the hold of that sum in a sandbox is worth. -/
noncomputable def Try.pinned : Pinned := { name := "ytmgcbodlolnheaa", sum := "f738f131332337dccadc6526ebfc4ee24b1f3a4454950230151b654452168833", checked := Try.checked }
namespace Rows
def none {H : Type} : Left H := { results := [], args := [] }

/-- 'laws.FnSizes': WHATEVER THE INPUT: true; the input reads as it did. -/
def fnSizesSpec : ChangeSpec := { name := "fnSizes", fn := fun _ => fun
  | [d1, d2] => { results := [.lit (.bool true)], args := [d1, d2] }
  | _ => none }
def fnSizesRow : OpenClaim := { program := "ytmgcbodlolnheaa", sum := "f738f131332337dccadc6526ebfc4ee24b1f3a4454950230151b654452168833", func := "pathmasks/laws.FnSizes", spec := "fnSizes", apart := false }
def FnSizesSaid : Prop := fnSizesRow.holds Try.pinned (OpenSpec.ofChange fnSizesSpec)

/-- ITS FALSE NEIGHBOUR: 'it returns false'. Refute it at one input. -/
def fnSizesWrong : ChangeSpec := { name := "fnSizes", fn := fun _ => fun
  | [d1, d2] => { results := [.lit (.bool false)], args := [d1, d2] }
  | _ => none }
def FnSizesWrongFalsely : Prop := fnSizesRow.holds Try.pinned (OpenSpec.ofChange fnSizesWrong)

/-- 'laws.FnPenIsLast': WHATEVER THE INPUT: true; the input reads as it did. -/
def fnPenIsLastSpec : ChangeSpec := { name := "fnPenIsLast", fn := fun _ => fun
  | [d] => { results := [.lit (.bool true)], args := [d] }
  | _ => none }
def fnPenIsLastRow : OpenClaim := { program := "ytmgcbodlolnheaa", sum := "f738f131332337dccadc6526ebfc4ee24b1f3a4454950230151b654452168833", func := "pathmasks/laws.FnPenIsLast", spec := "fnPenIsLast", inPlace := ["math.archFloor", "math.Float64bits", "math.Float64frombits", "math.archTrunc", "math.archCeil", "math.sqrt"], apart := false }
def FnPenIsLastSaid : Prop := fnPenIsLastRow.holds Try.pinned (OpenSpec.ofChange fnPenIsLastSpec)

/-- ITS FALSE NEIGHBOUR: 'it returns false'. Refute it at one input. -/
def fnPenIsLastWrong : ChangeSpec := { name := "fnPenIsLast", fn := fun _ => fun
  | [d] => { results := [.lit (.bool false)], args := [d] }
  | _ => none }
def FnPenIsLastWrongFalsely : Prop := fnPenIsLastRow.holds Try.pinned (OpenSpec.ofChange fnPenIsLastWrong)

/-- 'laws.FnMovedIsMoved': WHATEVER THE INPUT: true; the input reads as it did. -/
def fnMovedIsMovedSpec : ChangeSpec := { name := "fnMovedIsMoved", fn := fun _ => fun
  | [d1, d2, d3, d4, d5] => { results := [.lit (.bool true)], args := [d1, d2, d3, d4, d5] }
  | _ => none }
def fnMovedIsMovedRow : OpenClaim := { program := "ytmgcbodlolnheaa", sum := "f738f131332337dccadc6526ebfc4ee24b1f3a4454950230151b654452168833", func := "pathmasks/laws.FnMovedIsMoved", spec := "fnMovedIsMoved", inPlace := ["math.archFloor", "math.Float64bits", "math.Float64frombits", "math.archTrunc", "math.archCeil", "math.sqrt"], apart := false }
def FnMovedIsMovedSaid : Prop := fnMovedIsMovedRow.holds Try.pinned (OpenSpec.ofChange fnMovedIsMovedSpec)

/-- ITS FALSE NEIGHBOUR: 'it returns false'. Refute it at one input. -/
def fnMovedIsMovedWrong : ChangeSpec := { name := "fnMovedIsMoved", fn := fun _ => fun
  | [d1, d2, d3, d4, d5] => { results := [.lit (.bool false)], args := [d1, d2, d3, d4, d5] }
  | _ => none }
def FnMovedIsMovedWrongFalsely : Prop := fnMovedIsMovedRow.holds Try.pinned (OpenSpec.ofChange fnMovedIsMovedWrong)

/-- 'laws.FnStairsAreWinding': WHATEVER THE INPUT: true; the input reads as it did. -/
def fnStairsAreWindingSpec : ChangeSpec := { name := "fnStairsAreWinding", fn := fun _ => fun
  | [d1, d2, d3] => { results := [.lit (.bool true)], args := [d1, d2, d3] }
  | _ => none }
def fnStairsAreWindingRow : OpenClaim := { program := "ytmgcbodlolnheaa", sum := "f738f131332337dccadc6526ebfc4ee24b1f3a4454950230151b654452168833", func := "pathmasks/laws.FnStairsAreWinding", spec := "fnStairsAreWinding", inPlace := ["math.archFloor", "math.Float64bits", "math.Float64frombits", "math.archTrunc", "math.archCeil", "math.sqrt"], apart := false }
def FnStairsAreWindingSaid : Prop := fnStairsAreWindingRow.holds Try.pinned (OpenSpec.ofChange fnStairsAreWindingSpec)

/-- ITS FALSE NEIGHBOUR: 'it returns false'. Refute it at one input. -/
def fnStairsAreWindingWrong : ChangeSpec := { name := "fnStairsAreWinding", fn := fun _ => fun
  | [d1, d2, d3] => { results := [.lit (.bool false)], args := [d1, d2, d3] }
  | _ => none }
def FnStairsAreWindingWrongFalsely : Prop := fnStairsAreWindingRow.holds Try.pinned (OpenSpec.ofChange fnStairsAreWindingWrong)

/-- 'laws.FnCurvesStayInTheirBox': WHATEVER THE INPUT: true; the input reads as it did. -/
def fnCurvesStayInTheirBoxSpec : ChangeSpec := { name := "fnCurvesStayInTheirBox", fn := fun _ => fun
  | [d1, d2, d3, d4] => { results := [.lit (.bool true)], args := [d1, d2, d3, d4] }
  | _ => none }
def fnCurvesStayInTheirBoxRow : OpenClaim := { program := "ytmgcbodlolnheaa", sum := "f738f131332337dccadc6526ebfc4ee24b1f3a4454950230151b654452168833", func := "pathmasks/laws.FnCurvesStayInTheirBox", spec := "fnCurvesStayInTheirBox", inPlace := ["math.archFloor", "math.Float64bits", "math.Float64frombits", "math.archTrunc", "math.archCeil", "math.sqrt"], apart := false }
def FnCurvesStayInTheirBoxSaid : Prop := fnCurvesStayInTheirBoxRow.holds Try.pinned (OpenSpec.ofChange fnCurvesStayInTheirBoxSpec)

/-- ITS FALSE NEIGHBOUR: 'it returns false'. Refute it at one input. -/
def fnCurvesStayInTheirBoxWrong : ChangeSpec := { name := "fnCurvesStayInTheirBox", fn := fun _ => fun
  | [d1, d2, d3, d4] => { results := [.lit (.bool false)], args := [d1, d2, d3, d4] }
  | _ => none }
def FnCurvesStayInTheirBoxWrongFalsely : Prop := fnCurvesStayInTheirBoxRow.holds Try.pinned (OpenSpec.ofChange fnCurvesStayInTheirBoxWrong)

/-- 'laws.FnFixedIsArea': WHATEVER THE INPUT: true; the input reads as it did. -/
def fnFixedIsAreaSpec : ChangeSpec := { name := "fnFixedIsArea", fn := fun _ => fun
  | [d1, d2, d3] => { results := [.lit (.bool true)], args := [d1, d2, d3] }
  | _ => none }
def fnFixedIsAreaRow : OpenClaim := { program := "ytmgcbodlolnheaa", sum := "f738f131332337dccadc6526ebfc4ee24b1f3a4454950230151b654452168833", func := "pathmasks/laws.FnFixedIsArea", spec := "fnFixedIsArea", inPlace := ["math.archFloor", "math.Float64bits", "math.Float64frombits", "math.archTrunc", "math.archCeil", "math.sqrt"], unfollowed := true, recurses := true, apart := false }
def FnFixedIsAreaSaid : Prop := fnFixedIsAreaRow.holds Try.pinned (OpenSpec.ofChange fnFixedIsAreaSpec)

/-- ITS FALSE NEIGHBOUR: 'it returns false'. Refute it at one input. -/
def fnFixedIsAreaWrong : ChangeSpec := { name := "fnFixedIsArea", fn := fun _ => fun
  | [d1, d2, d3] => { results := [.lit (.bool false)], args := [d1, d2, d3] }
  | _ => none }
def FnFixedIsAreaWrongFalsely : Prop := fnFixedIsAreaRow.holds Try.pinned (OpenSpec.ofChange fnFixedIsAreaWrong)

/-- 'laws.FnFloatingIsArea': WHATEVER THE INPUT: true; the input reads as it did. -/
def fnFloatingIsAreaSpec : ChangeSpec := { name := "fnFloatingIsArea", fn := fun _ => fun
  | [d1, d2, d3] => { results := [.lit (.bool true)], args := [d1, d2, d3] }
  | _ => none }
def fnFloatingIsAreaRow : OpenClaim := { program := "ytmgcbodlolnheaa", sum := "f738f131332337dccadc6526ebfc4ee24b1f3a4454950230151b654452168833", func := "pathmasks/laws.FnFloatingIsArea", spec := "fnFloatingIsArea", inPlace := ["math.archFloor", "math.Float64bits", "math.Float64frombits", "math.archTrunc", "math.archCeil", "math.sqrt"], unfollowed := true, recurses := true, apart := false }
def FnFloatingIsAreaSaid : Prop := fnFloatingIsAreaRow.holds Try.pinned (OpenSpec.ofChange fnFloatingIsAreaSpec)

/-- ITS FALSE NEIGHBOUR: 'it returns false'. Refute it at one input. -/
def fnFloatingIsAreaWrong : ChangeSpec := { name := "fnFloatingIsArea", fn := fun _ => fun
  | [d1, d2, d3] => { results := [.lit (.bool false)], args := [d1, d2, d3] }
  | _ => none }
def FnFloatingIsAreaWrongFalsely : Prop := fnFloatingIsAreaRow.holds Try.pinned (OpenSpec.ofChange fnFloatingIsAreaWrong)

/-- 'laws.FnRectanglesAreAreas': WHATEVER THE INPUT: true; the input reads as it did. -/
def fnRectanglesAreAreasSpec : ChangeSpec := { name := "fnRectanglesAreAreas", fn := fun _ => fun
  | [d1, d2, d3, d4, d5, d6, d7] => { results := [.lit (.bool true)], args := [d1, d2, d3, d4, d5, d6, d7] }
  | _ => none }
def fnRectanglesAreAreasRow : OpenClaim := { program := "ytmgcbodlolnheaa", sum := "f738f131332337dccadc6526ebfc4ee24b1f3a4454950230151b654452168833", func := "pathmasks/laws.FnRectanglesAreAreas", spec := "fnRectanglesAreAreas", inPlace := ["math.archFloor", "math.Float64bits", "math.Float64frombits", "math.archTrunc", "math.archCeil", "math.sqrt"], unfollowed := true, recurses := true, apart := false }
def FnRectanglesAreAreasSaid : Prop := fnRectanglesAreAreasRow.holds Try.pinned (OpenSpec.ofChange fnRectanglesAreAreasSpec)

/-- ITS FALSE NEIGHBOUR: 'it returns false'. Refute it at one input. -/
def fnRectanglesAreAreasWrong : ChangeSpec := { name := "fnRectanglesAreAreas", fn := fun _ => fun
  | [d1, d2, d3, d4, d5, d6, d7] => { results := [.lit (.bool false)], args := [d1, d2, d3, d4, d5, d6, d7] }
  | _ => none }
def FnRectanglesAreAreasWrongFalsely : Prop := fnRectanglesAreAreasRow.holds Try.pinned (OpenSpec.ofChange fnRectanglesAreAreasWrong)

/-- 'laws.FnStraightCurvesAreLines': WHATEVER THE INPUT: true; the input reads as it did. -/
def fnStraightCurvesAreLinesSpec : ChangeSpec := { name := "fnStraightCurvesAreLines", fn := fun _ => fun
  | [d1, d2, d3, d4] => { results := [.lit (.bool true)], args := [d1, d2, d3, d4] }
  | _ => none }
def fnStraightCurvesAreLinesRow : OpenClaim := { program := "ytmgcbodlolnheaa", sum := "f738f131332337dccadc6526ebfc4ee24b1f3a4454950230151b654452168833", func := "pathmasks/laws.FnStraightCurvesAreLines", spec := "fnStraightCurvesAreLines", inPlace := ["math.archFloor", "math.Float64bits", "math.Float64frombits", "math.archTrunc", "math.archCeil", "math.sqrt"], unfollowed := true, recurses := true, apart := false }
def FnStraightCurvesAreLinesSaid : Prop := fnStraightCurvesAreLinesRow.holds Try.pinned (OpenSpec.ofChange fnStraightCurvesAreLinesSpec)

/-- ITS FALSE NEIGHBOUR: 'it returns false'. Refute it at one input. -/
def fnStraightCurvesAreLinesWrong : ChangeSpec := { name := "fnStraightCurvesAreLines", fn := fun _ => fun
  | [d1, d2, d3, d4] => { results := [.lit (.bool false)], args := [d1, d2, d3, d4] }
  | _ => none }
def FnStraightCurvesAreLinesWrongFalsely : Prop := fnStraightCurvesAreLinesRow.holds Try.pinned (OpenSpec.ofChange fnStraightCurvesAreLinesWrong)

/-- 'laws.FnWayDoesNotMatter': WHATEVER THE INPUT: true; the input reads as it did. -/
def fnWayDoesNotMatterSpec : ChangeSpec := { name := "fnWayDoesNotMatter", fn := fun _ => fun
  | [d1, d2, d3] => { results := [.lit (.bool true)], args := [d1, d2, d3] }
  | _ => none }
def fnWayDoesNotMatterRow : OpenClaim := { program := "ytmgcbodlolnheaa", sum := "f738f131332337dccadc6526ebfc4ee24b1f3a4454950230151b654452168833", func := "pathmasks/laws.FnWayDoesNotMatter", spec := "fnWayDoesNotMatter", inPlace := ["math.archFloor", "math.Float64bits", "math.Float64frombits", "math.archTrunc", "math.archCeil", "math.sqrt"], apart := false }
def FnWayDoesNotMatterSaid : Prop := fnWayDoesNotMatterRow.holds Try.pinned (OpenSpec.ofChange fnWayDoesNotMatterSpec)

/-- ITS FALSE NEIGHBOUR: 'it returns false'. Refute it at one input. -/
def fnWayDoesNotMatterWrong : ChangeSpec := { name := "fnWayDoesNotMatter", fn := fun _ => fun
  | [d1, d2, d3] => { results := [.lit (.bool false)], args := [d1, d2, d3] }
  | _ => none }
def FnWayDoesNotMatterWrongFalsely : Prop := fnWayDoesNotMatterRow.holds Try.pinned (OpenSpec.ofChange fnWayDoesNotMatterWrong)

/-- 'laws.FnSizeChooses': WHATEVER THE INPUT: true; the input reads as it did. -/
def fnSizeChoosesSpec : ChangeSpec := { name := "fnSizeChooses", fn := fun _ => fun
  | [d1, d2, d3] => { results := [.lit (.bool true)], args := [d1, d2, d3] }
  | _ => none }
def fnSizeChoosesRow : OpenClaim := { program := "ytmgcbodlolnheaa", sum := "f738f131332337dccadc6526ebfc4ee24b1f3a4454950230151b654452168833", func := "pathmasks/laws.FnSizeChooses", spec := "fnSizeChooses", inPlace := ["math.archFloor", "math.Float64bits", "math.Float64frombits", "math.archTrunc", "math.archCeil", "math.sqrt"], apart := false }
def FnSizeChoosesSaid : Prop := fnSizeChoosesRow.holds Try.pinned (OpenSpec.ofChange fnSizeChoosesSpec)

/-- ITS FALSE NEIGHBOUR: 'it returns false'. Refute it at one input. -/
def fnSizeChoosesWrong : ChangeSpec := { name := "fnSizeChooses", fn := fun _ => fun
  | [d1, d2, d3] => { results := [.lit (.bool false)], args := [d1, d2, d3] }
  | _ => none }
def FnSizeChoosesWrongFalsely : Prop := fnSizeChoosesRow.holds Try.pinned (OpenSpec.ofChange fnSizeChoosesWrong)

/-- 'laws.FnResetIsNew': WHATEVER THE INPUT: true; the input reads as it did. -/
def fnResetIsNewSpec : ChangeSpec := { name := "fnResetIsNew", fn := fun _ => fun
  | [d1, d2, d3, d4, d5, d6] => { results := [.lit (.bool true)], args := [d1, d2, d3, d4, d5, d6] }
  | _ => none }
def fnResetIsNewRow : OpenClaim := { program := "ytmgcbodlolnheaa", sum := "f738f131332337dccadc6526ebfc4ee24b1f3a4454950230151b654452168833", func := "pathmasks/laws.FnResetIsNew", spec := "fnResetIsNew", inPlace := ["math.archFloor", "math.Float64bits", "math.Float64frombits", "math.archTrunc", "math.archCeil", "math.sqrt"], apart := false }
def FnResetIsNewSaid : Prop := fnResetIsNewRow.holds Try.pinned (OpenSpec.ofChange fnResetIsNewSpec)

/-- ITS FALSE NEIGHBOUR: 'it returns false'. Refute it at one input. -/
def fnResetIsNewWrong : ChangeSpec := { name := "fnResetIsNew", fn := fun _ => fun
  | [d1, d2, d3, d4, d5, d6] => { results := [.lit (.bool false)], args := [d1, d2, d3, d4, d5, d6] }
  | _ => none }
def FnResetIsNewWrongFalsely : Prop := fnResetIsNewRow.holds Try.pinned (OpenSpec.ofChange fnResetIsNewWrong)

/- THE SECOND FORM. 'bulk': how many values and letters a reading holds, each counted each time it is reached (what is shared counts as often as it is met; a slice's spare places count too). A statement '..UptoSaid' is the law's where the arguments, and the package variables that the reading takes, are together of bulk at most 1048576: NARROWER than '..Said'. Prove '..Said' where nothing that the law and all that it calls make is longer than what came in: it says more and counts as full. Else prove '..UptoSaid'. A law counts once. -/
mutual
def uptoBulk {H : Type} : DataW H → Nat
  | .lit (.string bytes) => bytes.length + 1
  | .lit _ => 1
  | .nil => 1
  | .ptr d => uptoBulk d + 1
  | .slice elems spare => uptoBulkAll elems + uptoBulkAll spare + 1
  | .agg parts => uptoBulkAll parts + 1
  | .iface _ d => uptoBulk d + 1
  | .map entries => uptoBulkEntries entries + 1
  | .held _ => 1
def uptoBulkAll {H : Type} : List (DataW H) → Nat
  | [] => 0
  | d :: r => uptoBulk d + uptoBulkAll r
def uptoBulkEntries {H : Type} : List (Lit × DataW H) → Nat
  | [] => 0
  | x :: r => uptoBulkEntry x + uptoBulkEntries r
def uptoBulkEntry {H : Type} : Lit × DataW H → Nat
  | (.string bytes, d) => bytes.length + uptoBulk d + 1
  | (_, d) => uptoBulk d + 1
 end
def uptoSmall : (H : Type) → List (DataW H) → Bool := fun _ ds => decide (uptoBulkAll ds ≤ 1048576)
def OpenSpec.upto (s : _root_.Go.ChangeSpec) : _root_.Go.OpenSpec := { _root_.Go.OpenSpec.ofChange s with cond := some uptoSmall }

/-- 'laws.FnSizes', WHERE WHAT IT READS IS OF BULK AT MOST 1048576: true; the input reads as it did. -/
def fnSizesUptoRow : OpenClaim := { program := "ytmgcbodlolnheaa", sum := "f738f131332337dccadc6526ebfc4ee24b1f3a4454950230151b654452168833", func := "pathmasks/laws.FnSizes", spec := "fnSizes", apart := false, narrowed := true }
def FnSizesUptoSaid : Prop := fnSizesUptoRow.holds Try.pinned (OpenSpec.upto fnSizesSpec)

/-- 'laws.FnPenIsLast', WHERE WHAT IT READS IS OF BULK AT MOST 1048576: true; the input reads as it did. -/
def fnPenIsLastUptoRow : OpenClaim := { program := "ytmgcbodlolnheaa", sum := "f738f131332337dccadc6526ebfc4ee24b1f3a4454950230151b654452168833", func := "pathmasks/laws.FnPenIsLast", spec := "fnPenIsLast", inPlace := ["math.archFloor", "math.Float64bits", "math.Float64frombits", "math.archTrunc", "math.archCeil", "math.sqrt"], apart := false, narrowed := true }
def FnPenIsLastUptoSaid : Prop := fnPenIsLastUptoRow.holds Try.pinned (OpenSpec.upto fnPenIsLastSpec)

/-- 'laws.FnMovedIsMoved', WHERE WHAT IT READS IS OF BULK AT MOST 1048576: true; the input reads as it did. -/
def fnMovedIsMovedUptoRow : OpenClaim := { program := "ytmgcbodlolnheaa", sum := "f738f131332337dccadc6526ebfc4ee24b1f3a4454950230151b654452168833", func := "pathmasks/laws.FnMovedIsMoved", spec := "fnMovedIsMoved", inPlace := ["math.archFloor", "math.Float64bits", "math.Float64frombits", "math.archTrunc", "math.archCeil", "math.sqrt"], apart := false, narrowed := true }
def FnMovedIsMovedUptoSaid : Prop := fnMovedIsMovedUptoRow.holds Try.pinned (OpenSpec.upto fnMovedIsMovedSpec)

/-- 'laws.FnStairsAreWinding', WHERE WHAT IT READS IS OF BULK AT MOST 1048576: true; the input reads as it did. -/
def fnStairsAreWindingUptoRow : OpenClaim := { program := "ytmgcbodlolnheaa", sum := "f738f131332337dccadc6526ebfc4ee24b1f3a4454950230151b654452168833", func := "pathmasks/laws.FnStairsAreWinding", spec := "fnStairsAreWinding", inPlace := ["math.archFloor", "math.Float64bits", "math.Float64frombits", "math.archTrunc", "math.archCeil", "math.sqrt"], apart := false, narrowed := true }
def FnStairsAreWindingUptoSaid : Prop := fnStairsAreWindingUptoRow.holds Try.pinned (OpenSpec.upto fnStairsAreWindingSpec)

/-- 'laws.FnCurvesStayInTheirBox', WHERE WHAT IT READS IS OF BULK AT MOST 1048576: true; the input reads as it did. -/
def fnCurvesStayInTheirBoxUptoRow : OpenClaim := { program := "ytmgcbodlolnheaa", sum := "f738f131332337dccadc6526ebfc4ee24b1f3a4454950230151b654452168833", func := "pathmasks/laws.FnCurvesStayInTheirBox", spec := "fnCurvesStayInTheirBox", inPlace := ["math.archFloor", "math.Float64bits", "math.Float64frombits", "math.archTrunc", "math.archCeil", "math.sqrt"], apart := false, narrowed := true }
def FnCurvesStayInTheirBoxUptoSaid : Prop := fnCurvesStayInTheirBoxUptoRow.holds Try.pinned (OpenSpec.upto fnCurvesStayInTheirBoxSpec)

/-- 'laws.FnFixedIsArea', WHERE WHAT IT READS IS OF BULK AT MOST 1048576: true; the input reads as it did. -/
def fnFixedIsAreaUptoRow : OpenClaim := { program := "ytmgcbodlolnheaa", sum := "f738f131332337dccadc6526ebfc4ee24b1f3a4454950230151b654452168833", func := "pathmasks/laws.FnFixedIsArea", spec := "fnFixedIsArea", inPlace := ["math.archFloor", "math.Float64bits", "math.Float64frombits", "math.archTrunc", "math.archCeil", "math.sqrt"], unfollowed := true, recurses := true, apart := false, narrowed := true }
def FnFixedIsAreaUptoSaid : Prop := fnFixedIsAreaUptoRow.holds Try.pinned (OpenSpec.upto fnFixedIsAreaSpec)

/-- 'laws.FnFloatingIsArea', WHERE WHAT IT READS IS OF BULK AT MOST 1048576: true; the input reads as it did. -/
def fnFloatingIsAreaUptoRow : OpenClaim := { program := "ytmgcbodlolnheaa", sum := "f738f131332337dccadc6526ebfc4ee24b1f3a4454950230151b654452168833", func := "pathmasks/laws.FnFloatingIsArea", spec := "fnFloatingIsArea", inPlace := ["math.archFloor", "math.Float64bits", "math.Float64frombits", "math.archTrunc", "math.archCeil", "math.sqrt"], unfollowed := true, recurses := true, apart := false, narrowed := true }
def FnFloatingIsAreaUptoSaid : Prop := fnFloatingIsAreaUptoRow.holds Try.pinned (OpenSpec.upto fnFloatingIsAreaSpec)

/-- 'laws.FnRectanglesAreAreas', WHERE WHAT IT READS IS OF BULK AT MOST 1048576: true; the input reads as it did. -/
def fnRectanglesAreAreasUptoRow : OpenClaim := { program := "ytmgcbodlolnheaa", sum := "f738f131332337dccadc6526ebfc4ee24b1f3a4454950230151b654452168833", func := "pathmasks/laws.FnRectanglesAreAreas", spec := "fnRectanglesAreAreas", inPlace := ["math.archFloor", "math.Float64bits", "math.Float64frombits", "math.archTrunc", "math.archCeil", "math.sqrt"], unfollowed := true, recurses := true, apart := false, narrowed := true }
def FnRectanglesAreAreasUptoSaid : Prop := fnRectanglesAreAreasUptoRow.holds Try.pinned (OpenSpec.upto fnRectanglesAreAreasSpec)

/-- 'laws.FnStraightCurvesAreLines', WHERE WHAT IT READS IS OF BULK AT MOST 1048576: true; the input reads as it did. -/
def fnStraightCurvesAreLinesUptoRow : OpenClaim := { program := "ytmgcbodlolnheaa", sum := "f738f131332337dccadc6526ebfc4ee24b1f3a4454950230151b654452168833", func := "pathmasks/laws.FnStraightCurvesAreLines", spec := "fnStraightCurvesAreLines", inPlace := ["math.archFloor", "math.Float64bits", "math.Float64frombits", "math.archTrunc", "math.archCeil", "math.sqrt"], unfollowed := true, recurses := true, apart := false, narrowed := true }
def FnStraightCurvesAreLinesUptoSaid : Prop := fnStraightCurvesAreLinesUptoRow.holds Try.pinned (OpenSpec.upto fnStraightCurvesAreLinesSpec)

/-- 'laws.FnWayDoesNotMatter', WHERE WHAT IT READS IS OF BULK AT MOST 1048576: true; the input reads as it did. -/
def fnWayDoesNotMatterUptoRow : OpenClaim := { program := "ytmgcbodlolnheaa", sum := "f738f131332337dccadc6526ebfc4ee24b1f3a4454950230151b654452168833", func := "pathmasks/laws.FnWayDoesNotMatter", spec := "fnWayDoesNotMatter", inPlace := ["math.archFloor", "math.Float64bits", "math.Float64frombits", "math.archTrunc", "math.archCeil", "math.sqrt"], apart := false, narrowed := true }
def FnWayDoesNotMatterUptoSaid : Prop := fnWayDoesNotMatterUptoRow.holds Try.pinned (OpenSpec.upto fnWayDoesNotMatterSpec)

/-- 'laws.FnSizeChooses', WHERE WHAT IT READS IS OF BULK AT MOST 1048576: true; the input reads as it did. -/
def fnSizeChoosesUptoRow : OpenClaim := { program := "ytmgcbodlolnheaa", sum := "f738f131332337dccadc6526ebfc4ee24b1f3a4454950230151b654452168833", func := "pathmasks/laws.FnSizeChooses", spec := "fnSizeChooses", inPlace := ["math.archFloor", "math.Float64bits", "math.Float64frombits", "math.archTrunc", "math.archCeil", "math.sqrt"], apart := false, narrowed := true }
def FnSizeChoosesUptoSaid : Prop := fnSizeChoosesUptoRow.holds Try.pinned (OpenSpec.upto fnSizeChoosesSpec)

/-- 'laws.FnResetIsNew', WHERE WHAT IT READS IS OF BULK AT MOST 1048576: true; the input reads as it did. -/
def fnResetIsNewUptoRow : OpenClaim := { program := "ytmgcbodlolnheaa", sum := "f738f131332337dccadc6526ebfc4ee24b1f3a4454950230151b654452168833", func := "pathmasks/laws.FnResetIsNew", spec := "fnResetIsNew", inPlace := ["math.archFloor", "math.Float64bits", "math.Float64frombits", "math.archTrunc", "math.archCeil", "math.sqrt"], apart := false, narrowed := true }
def FnResetIsNewUptoSaid : Prop := fnResetIsNewUptoRow.holds Try.pinned (OpenSpec.upto fnResetIsNewSpec)

end Rows
end Go.Proofs.Ytmgcbodlolnheaa
