/-
  'ZZUse'; 'Reset' of a Rasterizer that has been used.
-/
import Derived.Test.YtmgcbodlolnheaaZUse
namespace Go.Proofs.Ytmgcbodlolnheaa
open Go.ChangeShapes Go.WideShapes Go.ChangeAt Go.RowKit
set_option linter.unusedVariables false

/-- A Rasterizer of W by H pixels, its buffer of zeros, the path not begun. -/
def Ready (mode : Bool) (b D W H : Nat) (o : Value) (fx fy px py : Nat) (w w' : World) : Prop :=
  ∃ g rest, D ≤ g ∧ W * H + rest.length ≤ 65536 ∧ Ras w' b g W H o rest fx fy px py (zeroB mode (W * H)) ∧ Kept (fun k => D ≤ k) w w'
def other (mode : Bool) (f u : Value) : Value := if mode then u else f
/-- The buffer's field that is to be used. -/
def SlotM (mode : Bool) (w : World) (D : Nat) (f u : Value) (cs : List Value) : Prop := SlotAt w D (if mode then f else u) (if mode then 72 else 100) cs
theorem use_all (mode : Bool) (b D W H : Nat) (f u : Value) (fl : Bool) (fx fy px py : Nat) (cs : List Value) (h1 : 1 ≤ W * H) (h2 : W * H ≤ 65536) (hcs : cs.length ≤ 65536) (w : World) (hD : D ≤ b) (hDw : D ≤ w.heap.size)
    (hb : Blk w b 87 (rz f u fl W H fx fy px py)) (hs : SlotM mode w D f u cs) :
    Calls Try.prog 56 #[.pointer (some ⟨b, 0, none⟩), .bool mode] w fun e w' => e = .returned (.tuple #[]) ∧ Ready mode b D W H (other mode f u) fx fy px py w w' :=
  use_any mode b D W H f u fl fx fy px py cs h1 h2 hcs w hD hDw hb hs
theorem zzuse_any (mode : Bool) (b D W H : Nat) (f u : Value) (fl : Bool) (fx fy px py : Nat) (cs : List Value) (h1 : 1 ≤ W * H) (h2 : W * H ≤ 65536) (hcs : cs.length ≤ 65536) (w : World) (hD : D ≤ b) (hDw : D ≤ w.heap.size)
    (hb : Blk w b 87 (rz f u fl W H fx fy px py)) (hs : SlotM mode w D f u cs) :
    Calls Try.prog 44 #[.pointer (some ⟨b, 0, none⟩), .bool mode] w fun e w' => e = .returned (.tuple #[]) ∧ Ready mode b D W H (other mode f u) fx fy px py w w' := by
  have HU := hid (use_all mode b D W H f u fl fx fy px py cs h1 h2 hcs w hD hDw hb hs)
  clear hb hs h1 h2 hcs
  go_enter Try.func44, Try.ntmps44
  go_wp2_with fail
  refine HU.out.mono ?_
  rintro e w' ⟨rfl, hx⟩
  have HX := hid hx
  clear hx
  go_wp2_with fail
  go_end0
  exact ⟨rfl, HX.out⟩

section
variable (b D W H : Nat) (f u : Value) (fl : Bool) (W0 H0 : Int) (fx fy px py : Nat) (cs : List Value) (w : World)
end
end Go.Proofs.Ytmgcbodlolnheaa
