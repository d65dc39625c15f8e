/-
  What a closed path's calls leave: its edges, one line behind the other. No program is walked here.
-/
import Derived.Test.YtmgcbodlolnheaaZFixSum
namespace Go.Proofs.Ytmgcbodlolnheaa
open Go.RowKit
set_option linter.unusedVariables false

abbrev Pt := Int × Int
/-- A coordinate in 64ths as a float32. -/
def wq (n : Int) : Nat := fop .quo (floatOfInt .f32 n) 1115684864
theorem wq_ok {n : Int} (h1 : -16777216 ≤ n) (h2 : n ≤ 16777216) : Fok .quo (floatOfInt .f32 n) 1115684864 ∧ Q64 (wq n) n := quo64 h1 h2

/-- The edges of a path that is at cur and began at first. -/
def edgesFrom (first : Pt) : Pt → List Pt → List (Pt × Pt)
  | cur, [] => [(cur, first)]
  | cur, q :: t => (cur, q) :: edgesFrom first q t
def edges : List Pt → List (Pt × Pt)
  | [] => []
  | p :: t => edgesFrom p p t
theorem length_edgesFrom (first : Pt) : ∀ (cur : Pt) (t : List Pt), (edgesFrom first cur t).length = t.length + 1
  | _, [] => rfl
  | cur, q :: t => by simp [edgesFrom, length_edgesFrom first q t]
theorem length_edges (p : List Pt) : (edges p).length = p.length := by
  cases p with
  | nil => rfl
  | cons a t => simp [edges, length_edgesFrom]
theorem mem_edgesFrom {first cur : Pt} {t : List Pt} {e : Pt × Pt} (h : e ∈ edgesFrom first cur t) : (e.1 = cur ∨ e.1 ∈ t) ∧ (e.2 = first ∨ e.2 ∈ t) := by
  induction t generalizing cur with
  | nil => simp [edgesFrom] at h; subst h; simp
  | cons q t ih =>
    rw [edgesFrom, List.mem_cons] at h
    rcases h with rfl | h
    · simp
    · have := ih h
      simp only [List.mem_cons]
      constructor
      · rcases this.1 with h | h
        · exact .inr (.inl h)
        · exact .inr (.inr h)
      · rcases this.2 with h | h
        · exact .inl h
        · exact .inr (.inr h)
theorem mem_edges {p : List Pt} {e : Pt × Pt} (h : e ∈ edges p) : e.1 ∈ p ∧ e.2 ∈ p := by
  cases p with
  | nil => simp [edges] at h
  | cons a t =>
    have := mem_edgesFrom h
    simp only [List.mem_cons]
    exact this

/-! ### in the numbers of fixed point -/
end Go.Proofs.Ytmgcbodlolnheaa
