/-
  Floating numbers: an edge gone the other way adds the same, with the other sign; a path gone backward has the same edges, turned. No program is walked here.
  Floating numbers: how far a mask's sums are from exact sums of what the edges add; a path gone backward covers the same, but for little. No program is walked here.
-/
import Derived.Test.YtmgcbodlolnheaaZFloEdge
import Derived.Test.YtmgcbodlolnheaaZAreaLaw
namespace Go.Proofs.Ytmgcbodlolnheaa
open Flt Go.RowKit
set_option linter.unusedVariables false

/-! ### additions with the other sign -/
/-! ### a path gone backward -/
theorem sumE_rev {α : Type} (f : α → Rat) : ∀ (l : List α), sumE f l.reverse = sumE f l
  | [] => rfl
  | a :: l => by
    rw [List.reverse_cons, sumE_append, sumE_rev f l]
    simp only [sumE]
    grind
end Go.Proofs.Ytmgcbodlolnheaa

namespace Go.Proofs.Ytmgcbodlolnheaa
open Flt Go.RowKit
set_option linter.unusedVariables false

/-! ### sums over edges -/
theorem sumE_ab {α : Type} {f g : α → Rat} : ∀ {s : List α}, (∀ e ∈ s, ab (f e) ≤ g e) → ab (sumE f s) ≤ sumE g s
  | [], _ => by simp only [sumE]; decide +kernel
  | e :: s, h => by
    have h1 := sumE_ab (f := f) (g := g) (s := s) fun e he => h e (by simp [he])
    have h2 := h e (by simp)
    have h3 := ab_add_le (f e) (sumE f s)
    rw [sumE, sumE]
    grind
theorem sumE_le {α : Type} {f g : α → Rat} : ∀ {s : List α}, (∀ e ∈ s, f e ≤ g e) → sumE f s ≤ sumE g s
  | [], _ => Rat.le_refl
  | e :: s, h => by
    have h1 := sumE_le (f := f) (g := g) (s := s) fun e he => h e (by simp [he])
    have h2 := h e (by simp)
    rw [sumE, sumE]
    grind
theorem sumE_const {α : Type} (c : Rat) : ∀ (s : List α), sumE (fun _ => c) s = s.length * c
  | [] => by simp only [sumE, List.length_nil]; push_cast; grind
  | e :: s => by rw [sumE, sumE_const c s, List.length_cons]; push_cast; grind
theorem sumN_sumE {α : Type} (f : α → Nat → Rat) (n : Nat) : ∀ (s : List α), sumN (fun k => sumE (fun e => f e k) s) n = sumE (fun e => sumN (f e) n) s
  | [] => by
    simp only [sumE]
    rw [sumN_const]
    grind
  | e :: s => by
    simp only [sumE]
    rw [sumN_add, sumN_sumE f n s]
/-! ### the heights of an edge's rows -/
/-! ### cells -/
/-! ### the sum of a pixel -/
/-! ### a path gone backward -/
end Go.Proofs.Ytmgcbodlolnheaa
