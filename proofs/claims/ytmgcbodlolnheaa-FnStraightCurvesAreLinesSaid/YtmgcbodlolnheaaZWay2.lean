/-
  Floating numbers: an edge gone the other way adds the same, with the other sign; a path gone backward has the same edges, turned. No program is walked here.
  Floating numbers: how far a mask's sums are from exact sums of what the edges add; a path gone backward covers the same, but for little. No program is walked here.
-/
import Derived.Test.YtmgcbodlolnheaaZFloEdge
import Derived.Test.YtmgcbodlolnheaaZAreaLaw
namespace Go.Proofs.Ytmgcbodlolnheaa
open Flt Go.RowKit
set_option linter.unusedVariables false

/-! ### additions with the other sign -/
def OppL : List (Nat × Nat) → List (Nat × Nat) → Prop
  | [], [] => True
  | (k, v) :: t, (k', v') :: t' => k = k' ∧ V v' = -V v ∧ OppL t t'
  | _, _ => False
theorem OppL.append : ∀ {s z s' z' : List (Nat × Nat)}, OppL s z → OppL s' z' → OppL (s ++ s') (z ++ z')
  | [], [], _, _, _, h' => h'
  | [], _ :: _, _, _, h, _ => h.elim
  | _ :: _, [], _, _, h, _ => h.elim
  | (k, v) :: t, (k', n) :: t', _, _, h, h' => ⟨h.1, h.2.1, OppL.append h.2.2 h'⟩
theorem ffill_opp (base W : Nat) (x0 : Int) {v v' : Nat} (h : V v' = -V v) : ∀ N, OppL (ffill base W x0 v N) (ffill base W x0 v' N)
  | 0 => trivial
  | N + 1 => OppL.append (ffill_opp base W x0 h N) ⟨rfl, h, trivial⟩
/-! ### a path gone backward -/
theorem sumE_rev {α : Type} (f : α → Rat) : ∀ (l : List α), sumE f l.reverse = sumE f l
  | [] => rfl
  | a :: l => by
    rw [List.reverse_cons, sumE_append, sumE_rev f l]
    simp only [sumE]
    grind
end Go.Proofs.Ytmgcbodlolnheaa

namespace Go.Proofs.Ytmgcbodlolnheaa
open Flt Go.RowKit
set_option linter.unusedVariables false

theorem rle_eq {a b : Rat} (h : a = b) : a ≤ b := by rw [h]; exact Rat.le_refl
/-! ### sums over edges -/
theorem sumE_ab {α : Type} {f g : α → Rat} : ∀ {s : List α}, (∀ e ∈ s, ab (f e) ≤ g e) → ab (sumE f s) ≤ sumE g s
  | [], _ => by simp only [sumE]; decide +kernel
  | e :: s, h => by
    have h1 := sumE_ab (f := f) (g := g) (s := s) fun e he => h e (by simp [he])
    have h2 := h e (by simp)
    have h3 := ab_add_le (f e) (sumE f s)
    rw [sumE, sumE]
    grind
theorem sumE_le {α : Type} {f g : α → Rat} : ∀ {s : List α}, (∀ e ∈ s, f e ≤ g e) → sumE f s ≤ sumE g s
  | [], _ => Rat.le_refl
  | e :: s, h => by
    have h1 := sumE_le (f := f) (g := g) (s := s) fun e he => h e (by simp [he])
    have h2 := h e (by simp)
    rw [sumE, sumE]
    grind
theorem sumE_const {α : Type} (c : Rat) : ∀ (s : List α), sumE (fun _ => c) s = s.length * c
  | [] => by simp only [sumE, List.length_nil]; push_cast; grind
  | e :: s => by rw [sumE, sumE_const c s, List.length_cons]; push_cast; grind
theorem sumN_sumE {α : Type} (f : α → Nat → Rat) (n : Nat) : ∀ (s : List α), sumN (fun k => sumE (fun e => f e k) s) n = sumE (fun e => sumN (f e) n) s
  | [] => by
    simp only [sumE]
    rw [sumN_const]
    grind
  | e :: s => by
    simp only [sumE]
    rw [sumN_add, sumN_sumE f n s]
/-! ### the heights of an edge's rows -/
theorem ph_sum (t : Int) : ∀ n : Nat, sumN (fun k => ((ph k t : Int) : Rat)) n = ((imin (imax t 0) (64 * n) : Int) : Rat)
  | 0 => by
    have : imin (imax t 0) (64 * ((0 : Nat) : Int)) = 0 := by unfold imin imax; split <;> split <;> omega
    rw [this]
    rfl
  | n + 1 => by
    rw [sumN, ph_sum t n]
    have : imin (imax t 0) (64 * ((n + 1 : Nat) : Int)) = imin (imax t 0) (64 * (n : Int)) + ph n t := by
      have a1 := ph_cases n t
      unfold imin imax
      split <;> split <;> (try split) <;> (try split) <;> omega
    rw [this]
    push_cast
    rfl
/-! ### cells -/
/-! ### the sum of a pixel -/
theorem dph_le (r : Int) (e : Pt × Pt) : ab ((dph r e : Rat) / 64) ≤ 1 := by
  have h := dph_bd r e
  have h1 := castLe h.1
  have h2 := castLe h.2
  push_cast at h1 h2
  exact ab_le (by grind) (by grind)
/-! ### a path gone backward -/
end Go.Proofs.Ytmgcbodlolnheaa
