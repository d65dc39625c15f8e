/-
  The accumulation buffer of float32 as a list of words; additions to it.
-/
import Derived.Test.YtmgcbodlolnheaaZFSmall
namespace Go.Proofs.Ytmgcbodlolnheaa
open Go.ChangeShapes Go.WideShapes Go.ChangeAt Go.RowKit

def fbufCells (l : List Nat) (rest : List Value) : Array Value := (l.map (Value.float .f32) ++ rest).toArray
/-- What the buffer holds at k. -/
def fAt (l : List Nat) (k : Nat) : Nat := l.getD k 0
/-- 'buf[k] += v'; nothing where there is no k. -/
def fbump (l : List Nat) (k v : Nat) : List Nat := l.modify k (fun a => fop .add a v)
theorem length_fbump (l : List Nat) (k v : Nat) : (fbump l k v).length = l.length := by simp [fbump]
theorem fbump_out (l : List Nat) (k v : Nat) (h : l.length ≤ k) : fbump l k v = l := by
  unfold fbump
  rw [List.modify_eq_self h]
theorem fbufCells_get {l : List Nat} {rest : List Value} {k : Nat} (h : k < l.length) : (fbufCells l rest)[k]? = some (.float .f32 (fAt l k)) := by
  unfold fbufCells
  rw [List.getElem?_toArray, List.getElem?_append_left (by simpa using h)]
  simp [fAt, List.getD, h]
theorem fbufCells_set {l : List Nat} {rest : List Value} {k : Nat} (h : k < l.length) (v : Nat) :
    (fbufCells l rest).setIfInBounds k (.float .f32 (fop .add (fAt l k) v)) = fbufCells (fbump l k v) rest := by
  unfold fbufCells fbump
  apply Array.ext'
  simp only [Array.toList_setIfInBounds]
  apply List.ext_getElem?
  intro i
  rw [List.getElem?_set]
  by_cases hi : k = i
  · subst hi
    rw [if_pos rfl, if_pos (by simp; omega), List.getElem?_append_left (by simpa using h)]
    simp [fAt, List.getD, h]
  · rw [if_neg hi]
    by_cases hl : i < l.length
    · rw [List.getElem?_append_left (by simpa using hl), List.getElem?_append_left (by simpa using hl)]
      simp [hi]
    · rw [List.getElem?_append_right (by simpa using hl), List.getElem?_append_right (by simpa using hl)]
      simp
section
variable {w : World} {g : Nat} {l : List Nat} {rest : List Value}
theorem fbuf_cell (h : Blk w g 72 (fbufCells l rest)) {k : Nat} (hk : k < l.length) : w.cell? ⟨g, k, none⟩ = some (.float .f32 (fAt l k)) := by
  rw [h.cell, fbufCells_get hk]
theorem fbuf_bump (h : Blk w g 72 (fbufCells l rest)) {k : Nat} (hk : k < l.length) (v : Nat) :
    Blk (w.setCell ⟨g, k, none⟩ (.float .f32 (fop .add (fAt l k) v))) g 72 (fbufCells (fbump l k v) rest) := by
  have := h.set_ k (.float .f32 (fop .add (fAt l k) v))
  rwa [fbufCells_set hk] at this
end
/-- The additions one behind the other. -/
def fadds : List (Nat × Nat) → List Nat → List Nat
  | [], l => l
  | (k, v) :: t, l => fadds t (fbump l k v)
/-- Each of them has an answer. -/
def FaddsOk : List (Nat × Nat) → List Nat → Prop
  | [], _ => True
  | (k, v) :: t, l => (k < l.length → Fok .add (fAt l k) v) ∧ FaddsOk t (fbump l k v)
theorem length_fadds : ∀ (t : List (Nat × Nat)) (l : List Nat), (fadds t l).length = l.length
  | [], _ => rfl
  | (k, v) :: t, l => by rw [fadds, length_fadds t, length_fbump]
theorem fadds_append : ∀ (s t : List (Nat × Nat)) (l : List Nat), fadds (s ++ t) l = fadds t (fadds s l)
  | [], _, _ => rfl
  | (k, v) :: s, t, l => by rw [List.cons_append, fadds, fadds_append s t, fadds]
theorem FaddsOk_append : ∀ (s t : List (Nat × Nat)) (l : List Nat), FaddsOk (s ++ t) l ↔ FaddsOk s l ∧ FaddsOk t (fadds s l)
  | [], _, _ => by simp [FaddsOk, fadds]
  | (k, v) :: s, t, l => by rw [List.cons_append, FaddsOk, FaddsOk, FaddsOk_append s t, fadds, and_assoc]
/-- j equal additions at x0, x0 + 1 and so on. -/
def ffill (base W : Nat) (x0 : Int) (v : Nat) : Nat → List (Nat × Nat)
  | 0 => []
  | j + 1 => ffill base W x0 v j ++ [(base + clampN (x0 + (j : Int)) W, v)]
theorem ffill_ok {base W : Nat} {x0 : Int} {v N : Nat} {l : List Nat} (h : FaddsOk (ffill base W x0 v N) l) : ∀ j, j < N → base + clampN (x0 + (j : Int)) W < l.length → Fok .add (fAt (fadds (ffill base W x0 v j) l) (base + clampN (x0 + (j : Int)) W)) v := by
  induction N with
  | zero => intro j hj; omega
  | succ N ih =>
    rw [ffill, FaddsOk_append] at h
    intro j hj hk
    by_cases e : j = N
    · subst e
      exact h.2.1 (by rw [length_fadds]; exact hk)
    · exact ih h.1 j (by omega) hk
end Go.Proofs.Ytmgcbodlolnheaa
