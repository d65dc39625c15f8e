/-
  An argument of type [][]int, opened; 'laws.zzFits1': contract.
  'laws.path' once more: what it returns, block by block.
  Words for 'laws.stairs': two rows of ints of one's own, the halves of a list, the calls and the edges of several paths. No walk here.
  'laws.stairs': contract.
  Contracts of 'laws.zzFits1', 'laws.stairs' and 'spec.Winding' for any arguments.
-/
import Derived.Test.YtmgcbodlolnheaaZSpec1
import Derived.Test.YtmgcbodlolnheaaZEqual
import Derived.Test.YtmgcbodlolnheaaZOps
import Derived.Deep.AppendLies
namespace Go.Proofs.Ytmgcbodlolnheaa
open Go.ChangeShapes Go.WideShapes Go.ChangeAt Go.RowKit Go.Deep
set_option linter.unusedVariables false

section
variable {H : Type} {enc : TypeId × Value → H} {w : World} {spare : Nat → Bool} {held : Bool}
end
end Go.Proofs.Ytmgcbodlolnheaa

namespace Go.Proofs.Ytmgcbodlolnheaa
open Go.ChangeShapes Go.WideShapes Go.ChangeAt Go.RowKit
set_option linter.unusedVariables false

end Go.Proofs.Ytmgcbodlolnheaa

namespace Go.Proofs.Ytmgcbodlolnheaa
open Go.ChangeShapes Go.WideShapes Go.ChangeAt Go.RowKit Go.Deep
set_option linter.unusedVariables false

theorem info3 : (Try.prog.info? 3).map (fun i => (i.zero, i.size, i.bytes)) = some (some (.int .i64 0), 1, 8) := by kernel_rfl
section
variable {w wr w1 : World} {D : Nat} {v v' : Value} {xs ys : List Int}
end

/-! ### the halves of a list -/
/-- A row of another element type is not touched where a row grows. -/
theorem own_other {w w' : World} {D D' n n' k k' t t' : Nat} {v v' : Value} {xs xs' : List Value} (h : w.ownsRow D t k v n xs) (h' : w.ownsRow D' t' k' v' n' xs') (ht : t ≠ t') (hg : w.grownBy w' v'.ownBlock) : w'.ownsRow D t k v n xs := by
  refine h.kept hg ?_
  rcases h.2 with ⟨rfl, _⟩ | ⟨g, cap, cur, rfl, _, hb, _⟩
  · exact .inl rfl
  · right
    intro he
    rcases h'.2 with ⟨rfl, _⟩ | ⟨g', cap', cur', rfl, _, hb', _⟩
    · simp [Value.ownBlock] at he
    · simp only [Value.ownBlock, Option.some.injEq] at he
      subst he
      exact ht ((show Blk w g t cur from hb).eq_ (show Blk w g t' cur' from hb')).1
/-- Blocks of another element type are as they were. -/
theorem grown_blk {w w' : World} {D n k t : Nat} {v : Value} {xs : List Value} {g t' : Nat} {cs : Array Value} (h : w.ownsRow D t k v n xs) (hg : w.grownBy w' v.ownBlock) (ht : t' ≠ t) (hb : Blk w g t' cs) : Blk w' g t' cs := by
  refine (hg.block g hb.lt fun he => ?_).trans hb
  rcases h.2 with ⟨rfl, _⟩ | ⟨g', cap, cur, rfl, _, hb', _⟩
  · simp [Value.ownBlock] at he
  · simp only [Value.ownBlock, Option.some.injEq] at he
    subst he
    exact ht (hb.eq_ (show Blk w g t cur from hb')).1
theorem own_sameW {w w' : World} {D n k t : Nat} {v : Value} {xs : List Value} (h : w.ownsRow D t k v n xs) (hs : Same w w') : w'.ownsRow D t k v n xs := by
  refine h.kept (row := none) ⟨hs.os, hs.tape, hs.output, hs.size, fun k hk _ => hs.block k hk fun h => h⟩ ?_
  cases v.ownBlock with
  | none => exact .inl rfl
  | some g => exact .inr (by simp)
theorem grown_same {w0 w w' : World} {D t k n : Nat} {v : Value} {xs : List Value} (h : w.ownsRow D t k v n xs) (hD : w0.heap.size ≤ D) (hs : Same w0 w) (hg : w.grownBy w' v.ownBlock) : Same w0 w' :=
  hs.grown hg fun k hk => .inl (Nat.le_trans hD (h.lt k hk).1)
end Go.Proofs.Ytmgcbodlolnheaa

namespace Go.Proofs.Ytmgcbodlolnheaa
open Go.ChangeShapes Go.WideShapes Go.ChangeAt Go.RowKit Go.Deep
set_option linter.unusedVariables false

end Go.Proofs.Ytmgcbodlolnheaa

namespace Go.Proofs.Ytmgcbodlolnheaa
open Go.ChangeShapes Go.WideShapes Go.ChangeAt Go.RowKit Go.Deep
set_option linter.unusedVariables false

end Go.Proofs.Ytmgcbodlolnheaa
