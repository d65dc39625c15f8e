/-
  The accumulation buffer of uint32 as a list of numbers; one addition to it.
-/
import Derived.Test.YtmgcbodlolnheaaZSmall
namespace Go.Proofs.Ytmgcbodlolnheaa
open Go.ChangeShapes Go.WideShapes Go.ChangeAt Go.RowKit

/-- The cells of a buffer of numbers of kind k, and what its array holds behind them. -/
def bufCells (l : List Int) (rest : List Value) : Array Value := (l.map (Value.int .u32) ++ rest).toArray
/-- 'buf[k] += uint32(d)'; nothing where there is no k. -/
def bumpAt (l : List Int) (k : Nat) (d : Int) : List Int := l.modify k (fun v => (v + d) % 4294967296)
/-- What the buffer holds at k. -/
def bufAt (l : List Int) (k : Nat) : Int := l.getD k 0
theorem length_bumpAt (l : List Int) (k : Nat) (d : Int) : (bumpAt l k d).length = l.length := by simp [bumpAt]
theorem bumpAt_out (l : List Int) (k : Nat) (d : Int) (h : l.length ≤ k) : bumpAt l k d = l := by
  unfold bumpAt
  rw [List.modify_eq_self h]
theorem bufCells_get {l : List Int} {rest : List Value} {k : Nat} (h : k < l.length) : (bufCells l rest)[k]? = some (.int .u32 (bufAt l k)) := by
  unfold bufCells
  rw [List.getElem?_toArray, List.getElem?_append_left (by simpa using h)]
  simp [bufAt, List.getD, h]
theorem bufCells_set {l : List Int} {rest : List Value} {k : Nat} (h : k < l.length) (d : Int) :
    (bufCells l rest).setIfInBounds k (.int .u32 ((bufAt l k + d) % 4294967296)) = bufCells (bumpAt l k d) rest := by
  unfold bufCells bumpAt
  apply Array.ext'
  simp only [Array.toList_setIfInBounds]
  apply List.ext_getElem?
  intro i
  rw [List.getElem?_set]
  by_cases hi : k = i
  · subst hi
    rw [if_pos rfl, if_pos (by simp; omega), List.getElem?_append_left (by simpa using h)]
    simp [bufAt, List.getD, h]
  · rw [if_neg hi]
    by_cases hl : i < l.length
    · rw [List.getElem?_append_left (by simpa using hl), List.getElem?_append_left (by simpa using hl)]
      simp [hi]
    · rw [List.getElem?_append_right (by simpa using hl), List.getElem?_append_right (by simpa using hl)]
      simp
section
variable {w : World} {g : Nat} {l : List Int} {rest : List Value}
theorem buf_cell (h : Blk w g 100 (bufCells l rest)) {k : Nat} (hk : k < l.length) : w.cell? ⟨g, k, none⟩ = some (.int .u32 (bufAt l k)) := by
  rw [h.cell, bufCells_get hk]
theorem buf_bump (h : Blk w g 100 (bufCells l rest)) {k : Nat} (hk : k < l.length) (d : Int) :
    Blk (w.setCell ⟨g, k, none⟩ (.int .u32 ((bufAt l k + d) % 4294967296))) g 100 (bufCells (bumpAt l k d) rest) := by
  have := h.set_ k (.int .u32 ((bufAt l k + d) % 4294967296))
  rwa [bufCells_set hk] at this
end
end Go.Proofs.Ytmgcbodlolnheaa
