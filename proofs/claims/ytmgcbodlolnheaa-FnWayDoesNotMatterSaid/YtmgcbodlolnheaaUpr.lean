/-
  Sums of additions over rows and over closed paths, as rational numbers. No program is walked here.
  Vertical edges in 64ths: what they add, exactly, in either kind. No program is walked here.
  Additions of floating numbers that are whole numbers of one place, not too many: everything is exact. No program is walked here.
  Vertical edges in 64ths in floating numbers: what they add, exactly. No program is walked here.
  Closed paths of vertical and horizontal edges: the sums that the masks are made of. No program is walked here.
-/
import Derived.Test.YtmgcbodlolnheaaFloEdges
import Derived.Test.YtmgcbodlolnheaaSpec1
namespace Go.Proofs.Ytmgcbodlolnheaa
open Flt Go.RowKit
set_option linter.unusedVariables false

/-- The sum of the additions at places up to p. -/
def sumR : List (Nat × Rat) → Nat → Rat
  | [], _ => 0
  | (k, v) :: t, p => (if k ≤ p then v else 0) + sumR t p
theorem sumR_append : ∀ (s t : List (Nat × Rat)) (p : Nat), sumR (s ++ t) p = sumR s p + sumR t p
  | [], _, _ => by simp only [List.nil_append, sumR]; grind
  | (k, v) :: s, t, p => by rw [List.cons_append, sumR, sumR_append s t, sumR]; grind
/-- All additions. -/
def totR : List (Nat × Rat) → Rat
  | [] => 0
  | (_, v) :: t => v + totR t
theorem totR_append : ∀ (s t : List (Nat × Rat)), totR (s ++ t) = totR s + totR t
  | [], _ => by simp only [List.nil_append, totR]; grind
  | (k, v) :: s, t => by rw [List.cons_append, totR, totR_append s t, totR]; grind
theorem sumR_all : ∀ {s : List (Nat × Rat)} {p : Nat}, (∀ x ∈ s, x.1 ≤ p) → sumR s p = totR s
  | [], _, _ => rfl
  | (k, v) :: s, p, h => by
    rw [sumR, totR, if_pos (h (k, v) (by simp)), sumR_all (fun x hx => h x (by simp [hx]))]
theorem sumR_none : ∀ {s : List (Nat × Rat)} {p : Nat}, (∀ x ∈ s, p < x.1) → sumR s p = 0
  | [], _, _ => rfl
  | (k, v) :: s, p, h => by
    have h1 := h (k, v) (by simp)
    simp only at h1
    rw [sumR, if_neg (by omega), sumR_none (fun x hx => h x (by simp [hx]))]
    grind
/-- Numbers of fixed point, so read. -/
def castL (s : List (Nat × Int)) : List (Nat × Rat) := s.map fun x => (x.1, (x.2 : Rat))
theorem sumTo_cast : ∀ (s : List (Nat × Int)) (p : Nat), ((sumTo s p : Int) : Rat) = sumR (castL s) p
  | [], _ => rfl
  | (k, v) :: s, p => by
    rw [sumTo]
    show _ = sumR ((k, (v : Rat)) :: castL s) p
    rw [sumR, ← sumTo_cast s p]
    split <;> push_cast <;> rfl
theorem castL_append (s t : List (Nat × Int)) : castL (s ++ t) = castL s ++ castL t := by simp [castL]
/-- Floating numbers, so read. -/
def valL (s : List (Nat × Nat)) : List (Nat × Rat) := s.map fun x => (x.1, V x.2)
theorem valL_append (s t : List (Nat × Nat)) : valL (s ++ t) = valL s ++ valL t := by simp [valL]

/-! ### rows -/
def rowsR (f : Int → Rat) : Int → Nat → Rat
  | _, 0 => 0
  | y, k + 1 => f y + rowsR f (y + 1) k
theorem rowsR_add (f : Int → Rat) : ∀ (i : Nat) (y : Int) (j : Nat), rowsR f y (i + j) = rowsR f y i + rowsR f (y + i) j
  | 0, y, j => by
    have e : y + ((0 : Nat) : Int) = y := by omega
    rw [Nat.zero_add, e, rowsR]
    grind
  | i + 1, y, j => by
    have e : y + ((i + 1 : Nat) : Int) = y + 1 + (i : Int) := by omega
    rw [show i + 1 + j = (i + j) + 1 by omega, rowsR, rowsR_add f i (y + 1) j, rowsR, e]
    grind
theorem rowsR_zero {f : Int → Rat} : ∀ {k : Nat} {y : Int}, (∀ r, y ≤ r → r < y + k → f r = 0) → rowsR f y k = 0
  | 0, _, _ => rfl
  | k + 1, y, h => by
    rw [rowsR, h y (by omega) (by omega), rowsR_zero (fun r h1 h2 => h r (by omega) (by omega))]
    grind
theorem rowsR_congr {f g : Int → Rat} : ∀ {k : Nat} {y : Int}, (∀ r, y ≤ r → r < y + k → f r = g r) → rowsR f y k = rowsR g y k
  | 0, _, _ => rfl
  | k + 1, y, h => by
    rw [rowsR, rowsR, h y (by omega) (by omega), rowsR_congr (fun r h1 h2 => h r (by omega) (by omega))]
/-- More rows, of which nothing comes. -/
theorem rowsR_sup {f : Int → Rat} {a a' : Int} {k k' : Nat} (h1 : a' ≤ a) (h2 : a + k ≤ a' + k') (z1 : ∀ r, a' ≤ r → r < a → f r = 0) (z2 : ∀ r, a + k ≤ r → r < a' + k' → f r = 0) : rowsR f a' k' = rowsR f a k := by
  obtain ⟨i, hi⟩ : ∃ i : Nat, a = a' + i := ⟨(a - a').toNat, by omega⟩
  obtain ⟨j, hj⟩ : ∃ j : Nat, k' = i + (k + j) := ⟨k' - i - k, by omega⟩
  subst hj
  rw [rowsR_add, rowsR_add, ← hi, rowsR_zero (f := f) (k := i) (fun r h3 h4 => z1 r h3 (by omega)), rowsR_zero (f := f) (k := j) (fun r h3 h4 => z2 r h3 (by push_cast; omega))]
  grind
/-- Two stretches of rows that hold all of which something comes. -/
theorem rowsR_same {f : Int → Rat} {a b : Int} {k j : Nat} (z : ∀ r, ¬ (a ≤ r ∧ r < a + k) → f r = 0) (z' : ∀ r, ¬ (b ≤ r ∧ r < b + j) → f r = 0) : rowsR f a k = rowsR f b j := by
  obtain ⟨c, hc⟩ : ∃ c, c = if a ≤ b then a else b := ⟨_, rfl⟩
  obtain ⟨n, hn⟩ : ∃ n : Nat, n = ((if a + k ≤ b + j then b + j else a + k) - c).toNat := ⟨_, rfl⟩
  have e1 : rowsR f c n = rowsR f a k := rowsR_sup (by split at hc <;> omega) (by split at hc <;> split at hn <;> omega) (fun r h1 h2 => z r (by omega)) (fun r h1 h2 => z r (by omega))
  have e2 : rowsR f c n = rowsR f b j := rowsR_sup (by split at hc <;> omega) (by split at hc <;> split at hn <;> omega) (fun r h1 h2 => z' r (by omega)) (fun r h1 h2 => z' r (by omega))
  rw [← e1, e2]
/-- The rows up to Y. -/
theorem rowsR_last (f : Int → Rat) (Y : Nat) : rowsR f 0 (Y + 1) = rowsR f 0 Y + f Y := by
  rw [rowsR_add f Y 0 1, rowsR, rowsR]
  have e : (0 : Int) + (Y : Int) = Y := by omega
  rw [e]
  grind
/-- Sums over edges. -/
def sumE {α : Type} (f : α → Rat) : List α → Rat
  | [] => 0
  | e :: t => f e + sumE f t
theorem sumE_append {α : Type} (f : α → Rat) : ∀ (s t : List α), sumE f (s ++ t) = sumE f s + sumE f t
  | [], _ => by simp only [List.nil_append, sumE]; grind
  | e :: s, t => by rw [List.cons_append, sumE, sumE_append f s t, sumE]; grind
theorem sumE_add {α : Type} (f g : α → Rat) : ∀ (s : List α), sumE (fun e => f e + g e) s = sumE f s + sumE g s
  | [] => by simp only [sumE]; grind
  | e :: s => by rw [sumE, sumE_add f g s, sumE, sumE]; grind
theorem sumE_mul {α : Type} (c : Rat) (f : α → Rat) : ∀ (s : List α), sumE (fun e => c * f e) s = c * sumE f s
  | [] => by simp only [sumE]; grind
  | e :: s => by rw [sumE, sumE_mul c f s, sumE]; grind
theorem sumE_congr {α : Type} {f g : α → Rat} : ∀ {s : List α}, (∀ e ∈ s, f e = g e) → sumE f s = sumE g s
  | [], _ => rfl
  | e :: s, h => by rw [sumE, sumE, h e (by simp), sumE_congr (fun e he => h e (by simp [he]))]
theorem sumE_rows {α : Type} (f : α → Int → Rat) : ∀ (k : Nat) (y : Int) (s : List α), sumE (fun e => rowsR (f e) y k) s = rowsR (fun r => sumE (fun e => f e r) s) y k
  | 0, y, s => by
    simp only [rowsR]
    induction s with
    | nil => rfl
    | cons e s ih => rw [sumE, ih]; grind
  | k + 1, y, s => by
    simp only [rowsR]
    rw [sumE_add (fun e => f e y) (fun e => rowsR (f e) (y + 1) k), sumE_rows f k (y + 1) s]

/-! ### closed paths -/
/-- How far down row r a height is, in 64ths. -/
def ph (r t : Int) : Int := imin (imax (t - 64 * r) 0) 64
/-- How much of row r an edge goes down. -/
def dph (r : Int) (e : Pt × Pt) : Int := ph r e.2.2 - ph r e.1.2
def zsum (f : Pt × Pt → Int) (s : List (Pt × Pt)) : Int := (s.map f).sum
theorem zsum_append (f : Pt × Pt → Int) (s t : List (Pt × Pt)) : zsum f (s ++ t) = zsum f s + zsum f t := by simp [zsum]
theorem dph_from (g : Int → Int) : ∀ (t : List Pt) (first cur : Pt), zsum (fun e => g e.2.2 - g e.1.2) (edgesFrom first cur t) = g first.2 - g cur.2
  | [], first, cur => by simp [edgesFrom, zsum]
  | q :: t, first, cur => by
    have h := dph_from g t first q
    unfold zsum at h ⊢
    rw [edgesFrom, List.map_cons, List.sum_cons, h]
    simp only
    omega
theorem dph_edges (g : Int → Int) (p : List Pt) : zsum (fun e => g e.2.2 - g e.1.2) (edges p) = 0 := by
  cases p with
  | nil => rfl
  | cons a t =>
    rw [edges, dph_from g t a a]
    omega
theorem dph_several (g : Int → Int) : ∀ (ps : List (List Pt)), zsum (fun e => g e.2.2 - g e.1.2) (ps.flatMap edges) = 0
  | [] => rfl
  | p :: t => by rw [List.flatMap_cons, zsum_append, dph_edges g p, dph_several g t]; rfl
theorem zsum_sumE (f : Pt × Pt → Int) : ∀ (s : List (Pt × Pt)), ((zsum f s : Int) : Rat) = sumE (fun e => ((f e : Int) : Rat)) s
  | [] => rfl
  | e :: s => by
    have h := zsum_sumE f s
    unfold zsum at h ⊢
    rw [List.map_cons, List.sum_cons, sumE, ← h]
    push_cast
    rfl
theorem edgesFrom_get (first : Pt) : ∀ (t : List Pt) (cur : Pt) (i : Nat), i < t.length + 1 → (edgesFrom first cur t)[i]? = some ((cur :: t).getD i (0, 0), if i < t.length then t.getD i (0, 0) else first)
  | [], cur, i, h => by
    obtain rfl : i = 0 := by simpa using h
    rfl
  | q :: t, cur, 0, h => by simp [edgesFrom]
  | q :: t, cur, i + 1, h => by
    rw [edgesFrom, List.getElem?_cons_succ, edgesFrom_get first t q i (by simpa using h)]
    simp
/-- The edges of a closed path are those of 'spec.Polygon'. -/
theorem polyTo_edges (pts : List Pt) : polyTo pts pts.length = edges pts := by
  cases pts with
  | nil => rfl
  | cons p t =>
    apply List.ext_getElem?
    intro i
    by_cases hi : i < (p :: t).length
    · rw [edges, edgesFrom_get p t p i (by simpa using hi)]
      unfold polyTo
      rw [List.getElem?_map, List.getElem?_range hi]
      simp only [Option.map_some, Option.some.injEq, Prod.mk.injEq, true_and]
      by_cases hit : i < t.length
      · rw [if_pos hit, Nat.mod_eq_of_lt (by simp; omega)]
        simp
      · have : i = t.length := by simp at hi; omega
        rw [if_neg hit, this]
        simp
    · rw [List.getElem?_eq_none (by simp [polyTo] at hi ⊢; omega), List.getElem?_eq_none (by rw [length_edges]; omega)]
/-- Several closed paths. -/
theorem stepOps_several (W : Nat) (H : Int) : ∀ (ps : List (List Pt)) (s : RS), (∀ p ∈ ps, p ≠ []) → (stepOps W H (ps.flatMap pathOps) s).B = edgesB W H (ps.flatMap edges) s.B
  | [], s, _ => rfl
  | [] :: t, s, h => absurd rfl (h [] (by simp))
  | (a :: p) :: t, s, h => by
    rw [List.flatMap_cons, List.flatMap_cons, stepOps_append, edgesB_append, stepOps_several W H t _ (fun q hq => h q (by simp [hq])), path_run]
theorem stepsOk_several (W : Nat) (H : Int) : ∀ (ps : List (List Pt)) (s : RS), (∀ p ∈ ps, p ≠ []) → (∀ p ∈ ps, Far p 262144) → EdgesOk W H (ps.flatMap edges) s.B → StepsOpOk W H (ps.flatMap pathOps) s
  | [], s, _, _, _ => trivial
  | [] :: t, s, h, _, _ => absurd rfl (h [] (by simp))
  | (a :: p) :: t, s, h, hf, hok => by
    rw [List.flatMap_cons, EdgesOk_append] at hok
    rw [List.flatMap_cons, StepsOpOk_append]
    refine ⟨path_run_ok W H a p s (fun q hq => atOk_of ?_ ?_) hok.1, stepsOk_several W H t _ (fun q hq => h q (by simp [hq])) (fun q hq => hf q (by simp [hq])) ?_⟩
    · have := hf (a :: p) (by simp) q hq; omega
    · have := hf (a :: p) (by simp) q hq; omega
    · rw [path_run]
      exact hok.2
theorem mem_several {ps : List (List Pt)} {e : Pt × Pt} (h : e ∈ ps.flatMap edges) : ∃ p ∈ ps, e.1 ∈ p ∧ e.2 ∈ p := by
  obtain ⟨p, hp, he⟩ := List.mem_flatMap.1 h
  exact ⟨p, hp, mem_edges he⟩
/-- The mask of several closed paths. -/
theorem maskR_several (mode : Bool) (W H : Nat) {ps : List (List Pt)} (hne : ∀ p ∈ ps, p ≠ []) : maskR mode W H (ps.flatMap pathOps) = maskOf (edgesB W H (ps.flatMap edges) (zeroB mode (W * H))) := by
  rw [maskR, stepOps_several W H ps _ hne]
  rfl
theorem maskR_fixS (W H : Nat) {ps : List (List Pt)} (hne : ∀ p ∈ ps, p ≠ []) : maskR false W H (ps.flatMap pathOps) = fixBytes 0 (bumps (edgesL W H (ps.flatMap edges)) (List.replicate (W * H) 0)) := by
  rw [maskR_several false W H hne, show zeroB false (W * H) = .fix (List.replicate (W * H) 0) from rfl, edgesB_fix]
  rfl
theorem maskR_floS (W H : Nat) {ps : List (List Pt)} (hne : ∀ p ∈ ps, p ≠ []) : maskR true W H (ps.flatMap pathOps) = floBytes 0 (fadds (edgesF W H (ps.flatMap edges)) (List.replicate (W * H) 0)) := by
  rw [maskR_several true W H hne, show zeroB true (W * H) = .flo (List.replicate (W * H) 0) from rfl, edgesB_flo]
  rfl
theorem maskROk_several (mode : Bool) (W H : Nat) {ps : List (List Pt)} (hne : ∀ p ∈ ps, p ≠ []) (hf : ∀ p ∈ ps, Far p 262144) : MaskROk mode W H (ps.flatMap pathOps) := by
  have hs : ∀ e ∈ ps.flatMap edges, Small e.1 ∧ Small e.2 := fun e he => by
    obtain ⟨p, hp, h1, h2⟩ := mem_several he
    exact ⟨hf p hp _ h1, hf p hp _ h2⟩
  cases mode
  · refine ⟨stepsOk_several W H ps _ hne hf (EdgesOk_fix W H _ _ fun e he => hs e he), ?_⟩
    rw [stepOps_several W H ps _ hne, show (startS false (W * H)).B = .fix (List.replicate (W * H) 0) from rfl, edgesB_fix]
    trivial
  · obtain ⟨a, b⟩ := edgesF_ok W H (ps.flatMap edges) (List.replicate (W * H) 0) (CellsBd.zero _) hs
    refine ⟨stepsOk_several W H ps _ hne hf a, ?_⟩
    rw [stepOps_several W H ps _ hne, show (startS true (W * H)).B = .flo (List.replicate (W * H) 0) from rfl, edgesB_flo]
    exact floBytes_ok _ 0 b (bd_zero _)
theorem len_several (W H : Nat) (mode : Bool) {ps : List (List Pt)} (hne : ∀ p ∈ ps, p ≠ []) : (maskR mode W H (ps.flatMap pathOps)).length = W * H := by
  rw [maskR_several mode W H hne, length_maskOf, len_edgesB]
  exact len_zeroB _ _
end Go.Proofs.Ytmgcbodlolnheaa

namespace Go.Proofs.Ytmgcbodlolnheaa
open Flt Go.RowKit
set_option linter.unusedVariables false

/-- How far right of a place a pixel's column has its right side, of at most a whole side, in 64ths. -/
def cl64 (X : Nat) (x : Int) : Int := imin (imax (64 * (X + 1) - x) 0) 64
theorem ph_cases (r t : Int) : (t ≤ 64 * r ∧ ph r t = 0) ∨ (64 * r ≤ t ∧ t ≤ 64 * (r + 1) ∧ ph r t = t - 64 * r) ∨ (64 * (r + 1) ≤ t ∧ ph r t = 64) := by
  unfold ph imin imax
  by_cases h1 : 0 < t - 64 * r
  · rw [if_pos h1]
    split <;> omega
  · rw [if_neg h1]
    split <;> omega
theorem dph_out {r : Int} {e : Pt × Pt} (h : (e.1.2 ≤ 64 * r ∧ e.2.2 ≤ 64 * r) ∨ (64 * (r + 1) ≤ e.1.2 ∧ 64 * (r + 1) ≤ e.2.2)) : dph r e = 0 := by
  unfold dph
  have h1 := ph_cases r e.1.2
  have h2 := ph_cases r e.2.2
  omega
theorem dph_bd (r : Int) (e : Pt × Pt) : -64 ≤ dph r e ∧ dph r e ≤ 64 := by
  unfold dph
  have h1 := ph_cases r e.1.2
  have h2 := ph_cases r e.2.2
  omega
theorem cl64_cases (X : Nat) (x : Int) : (64 * ((X : Int) + 1) ≤ x ∧ cl64 X x = 0) ∨ (64 * (X : Int) ≤ x ∧ x ≤ 64 * ((X : Int) + 1) ∧ cl64 X x = 64 * ((X : Int) + 1) - x) ∨ (x ≤ 64 * (X : Int) ∧ cl64 X x = 64) := by
  unfold cl64 imin imax
  by_cases h1 : 0 < 64 * ((X : Int) + 1) - x
  · rw [if_pos h1]
    split <;> omega
  · rw [if_neg h1]
    split <;> omega
theorem cl64_bd (X : Nat) (x : Int) : 0 ≤ cl64 X x ∧ cl64 X x ≤ 64 := by
  have := cl64_cases X x
  omega
theorem mul_bd {a b m n : Int} (h1 : -m ≤ a) (h2 : a ≤ m) (h3 : -n ≤ b) (h4 : b ≤ n) : -(m * n) ≤ a * b ∧ a * b ≤ m * n := by
  have hm : 0 ≤ m := by omega
  have hn : 0 ≤ n := by omega
  have h : (a * b).natAbs ≤ (m * n).natAbs := by
    rw [Int.natAbs_mul, Int.natAbs_mul]
    exact Nat.mul_le_mul (by omega) (by omega)
  have h5 : 0 ≤ m * n := Int.mul_nonneg hm hn
  omega
/-- A place in row r, seen from pixel (X, Y). -/
theorem place_row {W X Y r c : Nat} (hX : X < W) (hc : c ≤ W) : (r < Y → r * W + c ≤ Y * W + X) ∧ (Y < r → Y * W + X < r * W + c) := by
  constructor
  · intro h
    have h1 : (r + 1) * W ≤ Y * W := Nat.mul_le_mul_right W h
    rw [Nat.add_mul, Nat.one_mul] at h1
    omega
  · intro h
    have h1 : (Y + 1) * W ≤ r * W := Nat.mul_le_mul_right W h
    rw [Nat.add_mul, Nat.one_mul] at h1
    omega
theorem clamp_le_iff {k : Int} {W X : Nat} (hX : X < W) : clampN k W ≤ X ↔ k ≤ X := by
  unfold clampN
  split
  · omega
  · split <;> omega

/-! ### fixed point -/
theorem wrap32_small {a : Int} (h1 : -2147483648 ≤ a) (h2 : a ≤ 2147483647) : wrap32 a = a := by unfold wrap32; omega
theorem rowL_up (W base : Nat) (x d : Int) (h1 : -512 ≤ d) (h2 : d ≤ 512) : rowL W base x x d = [(base + clampN (x / 512) W, d * (512 - x % 512)), (base + clampN (x / 512 + 1) W, d * (x % 512))] := by
  unfold rowL
  have e1 : imin x x = x := by unfold imin; split <;> rfl
  have e2 : imax x x = x := by unfold imax; split <;> rfl
  simp only [e1, e2]
  rw [if_pos (by omega)]
  have e3 : (x + x) / 2 - x / 512 * 512 = x % 512 := by omega
  rw [e3]
  have b1 := mul_bd (a := d) (b := 512 - x % 512) (m := 512) (n := 512) (by omega) (by omega) (by omega) (by omega)
  have b2 := mul_bd (a := d) (b := x % 512) (m := 512) (n := 512) (by omega) (by omega) (by omega) (by omega)
  rw [wrap32_small (by omega) (by omega), wrap32_small (by omega) (by omega)]
/-- What row r gives to the sum up to pixel (X, Y): a line at x (in 64ths) that goes d (64ths) down. -/
def upRow (X Y : Nat) (x d : Int) (r : Int) : Int := if r < 0 then 0 else if r < Y then 64 * d else if r = Y then d * cl64 X x else 0
theorem rowL_upSum (W X Y : Nat) (x d : Int) (r : Nat) (hX : X < W) (h1 : -64 ≤ d) (h2 : d ≤ 64) : sumTo (rowL W (r * W) (8 * x) (8 * x) (8 * d)) (Y * W + X) = 64 * upRow X Y x d r := by
  rw [rowL_up W _ _ _ (by omega) (by omega)]
  obtain ⟨p1, p2⟩ := place_row (Y := Y) (r := r) hX (clampN_le (8 * x / 512) W)
  obtain ⟨p3, p4⟩ := place_row (Y := Y) (r := r) hX (clampN_le (8 * x / 512 + 1) W)
  simp only [sumTo]
  have hr0 : ¬ (r : Int) < 0 := by omega
  rcases Nat.lt_trichotomy r Y with h | h | h
  · have hu : upRow X Y x d r = 64 * d := by unfold upRow; rw [if_neg hr0, if_pos (by omega)]
    rw [if_pos (p1 h), if_pos (p3 h), hu]
    have : 8 * d * (512 - 8 * x % 512) + 8 * d * (8 * x % 512) = 8 * d * 512 := by rw [← Int.mul_add]; congr 1; omega
    omega
  · subst h
    have hu : upRow X r x d r = d * cl64 X x := by unfold upRow; rw [if_neg hr0, if_neg (by omega), if_pos rfl]
    rw [hu]
    have hc1 : (r * W + clampN (8 * x / 512) W ≤ r * W + X) ↔ 8 * x / 512 ≤ X := by rw [Nat.add_le_add_iff_left]; exact clamp_le_iff hX
    have hc2 : (r * W + clampN (8 * x / 512 + 1) W ≤ r * W + X) ↔ 8 * x / 512 + 1 ≤ X := by rw [Nat.add_le_add_iff_left]; exact clamp_le_iff hX
    have key : (if r * W + clampN (8 * x / 512) W ≤ r * W + X then 512 - 8 * x % 512 else 0) + (if r * W + clampN (8 * x / 512 + 1) W ≤ r * W + X then 8 * x % 512 else 0) = 8 * cl64 X x := by
      simp only [hc1, hc2]
      have := cl64_cases X x
      split <;> split <;> omega
    have e : ∀ (c : Prop) [Decidable c] (v : Int), (if c then 8 * d * v else 0) = 8 * d * (if c then v else 0) := by
      intro c _ v
      split
      · rfl
      · rw [Int.mul_zero]
    rw [e, e, Int.add_zero, ← Int.mul_add, key]
    grind
  · have hu : upRow X Y x d r = 0 := by unfold upRow; rw [if_neg hr0, if_neg (by omega), if_neg (by omega)]
    rw [if_neg (by have := p2 h; omega), if_neg (by have := p4 h; omega), hu]
    rfl
/-- The rows of a vertical line. -/
theorem adds_up (L : FL) (W : Nat) (p : Nat) (x : Int) : ∀ (k : Nat) (y : Int), (∀ r, y ≤ r → r < y + k → L.dx r = 0) → ((sumTo (L.adds W k y x) p : Int) : Rat) = rowsR (fun r => if r < 0 then 0 else ((sumTo (rowL W (r.toNat * W) x x (L.dy r * L.dir)) p : Int) : Rat)) y k
  | 0, y, _ => rfl
  | k + 1, y, h => by
    rw [FL.adds, sumTo_append, h y (by omega) (by omega), Int.add_zero, rowsR, ← adds_up L W p x k (y + 1) (fun r h1 h2 => h r (by omega) (by omega))]
    push_cast
    congr 1
    split
    · rfl
    · rfl
theorem slope_zero {m1 m2 m4 : Int} (h : Span m1 m2 m1 m4) : F32 (slopeW m1 m2 m1 m4) ∧ V (slopeW m1 m2 m1 m4) = 0 := by
  have h1 := h.slope.1
  have e : ((m1 - m1 : Int) : Rat) / ((m4 - m2 : Int) : Rat) = 0 := by
    rw [Int.sub_self, Rat.div_def]
    exact Rat.zero_mul _
  rw [e] at h1
  have h2 := h1.eq (n := 0) (q := 0) (by rw [p2_zero]; grind) (by decide) (by decide) (by decide)
  exact ⟨h1.fin, h2⟩
theorem dy_row {m2 m4 r dir : Int} {dd : Nat} (h : m2 < m4) (h1 : 8 * m2 / 512 ≤ r) (h2 : r < (8 * m4 + 511) / 512) : (⟨8 * m2, 8 * m4, dir, dd⟩ : FL).dy r = 8 * (ph r m4 - ph r m2) ∧ 0 ≤ ph r m4 - ph r m2 := by
  unfold FL.dy
  simp only
  have a1 := ph_cases r m2
  have a2 := ph_cases r m4
  unfold imin imax
  split <;> split <;> omega
theorem dx_zero {m1 m2 m4 dir r : Int} (h : Span m1 m2 m1 m4) (h1 : 8 * m2 / 512 ≤ r) (h2 : r < (8 * m4 + 511) / 512) : (⟨8 * m2, 8 * m4, dir, slopeW m1 m2 m1 m4⟩ : FL).dx r = 0 := by
  obtain ⟨e, e0⟩ := dy_row (dir := dir) (dd := slopeW m1 m2 m1 m4) h.lt h1 h2
  have a1 := ph_cases r m2
  have a2 := ph_cases r m4
  unfold FL.dx
  rw [e]
  simp only
  obtain ⟨f1, f2⟩ := ofInt_any (n := 8 * (ph r m4 - ph r m2)) (by omega) (by omega)
  obtain ⟨s1, s2⟩ := slope_zero h
  have hx : V (floatOfInt .f32 (8 * (ph r m4 - ph r m2))) * V (slopeW m1 m2 m1 m4) = 0 := by rw [s2]; exact Rat.mul_zero _
  obtain ⟨_, q⟩ := fmul_ok f1 s1 (by rw [hx, show Flt.ab 0 = 0 by decide]; exact Rat.le_of_lt (p2_pos 126))
  rw [hx] at q
  have hv := q.eq (n := 0) (q := 0) (by rw [p2_zero]; grind) (by decide) (by decide) (by decide)
  have ht : truncR (V (fop .mul (floatOfInt .f32 (8 * (ph r m4 - ph r m2))) (slopeW m1 m2 m1 m4))) = 0 := by
    rw [hv]
    exact truncR_int 0
  rw [(fint_ok q.fin (by rw [ht]; decide) (by rw [ht]; decide)).2, ht]
theorem rowsR_mul (c : Rat) (f : Int → Rat) : ∀ (k : Nat) (y : Int), rowsR (fun r => c * f r) y k = c * rowsR f y k
  | 0, y => by simp only [rowsR]; grind
  | k + 1, y => by simp only [rowsR]; rw [rowsR_mul c f k (y + 1)]; grind
/-- The rows up to a pixel of a vertical line, signs and all. -/
theorem up_rows {m2 m4 x dir H : Int} {X Y : Nat} (hlt : m2 < m4) (hdir : dir = 1 ∨ dir = -1) (hY : (Y : Int) < H) (c : Rat) :
    rowsR (fun r => c * ((upRow X Y x (dir * (ph r m4 - ph r m2)) r : Int) : Rat)) (m2 / 64) (imin H ((m4 + 63) / 64) - m2 / 64).toNat =
      c * (rowsR (fun r => 64 * ((dir * (ph r m4 - ph r m2) : Int) : Rat)) 0 Y + ((dir * (ph Y m4 - ph Y m2) * cl64 X x : Int) : Rat)) := by
  have hz : ∀ r, upRow X Y x 0 r = 0 := by
    intro r
    unfold upRow
    split
    · rfl
    · split
      · rfl
      · split
        · exact Int.zero_mul _
        · rfl
  have h0 : c * (((0 : Int)) : Rat) = 0 := by rw [cast_zero]; exact Rat.mul_zero _
  rw [rowsR_mul]
  congr 1
  rw [rowsR_same (b := 0) (j := Y + 1), rowsR_last]
  · congr 1
    · refine rowsR_congr fun r h1 h2 => ?_
      have : upRow X Y x (dir * (ph r m4 - ph r m2)) r = 64 * (dir * (ph r m4 - ph r m2)) := by
        unfold upRow
        rw [if_neg (by omega), if_pos (by omega)]
      rw [this]
      push_cast
      rfl
    · have : upRow X Y x (dir * (ph Y m4 - ph Y m2)) Y = dir * (ph Y m4 - ph Y m2) * cl64 X x := by
        unfold upRow
        rw [if_neg (by omega), if_neg (by omega), if_pos rfl]
      rw [this]
  · intro r hr
    have a1 := ph_cases r m2
    have a2 := ph_cases r m4
    by_cases hin : m2 / 64 ≤ r ∧ r < (m4 + 63) / 64
    · have hH : H ≤ r := by
        unfold imin at hr
        split at hr <;> omega
      have : upRow X Y x (dir * (ph r m4 - ph r m2)) r = 0 := by
        unfold upRow
        split
        · rfl
        · rw [if_neg (by omega), if_neg (by omega)]
      rw [this]
      rfl
    · have : ph r m4 - ph r m2 = 0 := by omega
      rw [this, Int.mul_zero, hz]
      rfl
  · intro r hr
    have : upRow X Y x (dir * (ph r m4 - ph r m2)) r = 0 := by
      unfold upRow
      split
      · rfl
      · rw [if_neg (by omega), if_neg (by omega)]
    rw [this]
    rfl
theorem up_fix {W H X Y : Nat} {x m2 m4 dir : Int} (h : Span x m2 x m4) (hdir : dir = 1 ∨ dir = -1) (hX : X < W) (hY : Y < H) :
    ((sumTo ((⟨8 * m2, 8 * m4, dir, slopeW x m2 x m4⟩ : FL).adds W (rowsOf H m2 m4) (8 * m2 / 512) (8 * x)) (Y * W + X) : Int) : Rat) =
      64 * (rowsR (fun r => 64 * ((dir * (ph r m4 - ph r m2) : Int) : Rat)) 0 Y + ((dir * (ph Y m4 - ph Y m2) * cl64 X x : Int) : Rat)) := by
  have hlt := h.lt
  have e1 : 8 * m2 / 512 = m2 / 64 := by omega
  have e2 : rowsOf H m2 m4 = (imin H ((m4 + 63) / 64) - m2 / 64).toNat := by
    unfold rowsOf
    rw [show (8 * m4 + 511) / 512 = (m4 + 63) / 64 by omega, e1]
  have hend : ∀ r, 8 * m2 / 512 ≤ r → r < 8 * m2 / 512 + (rowsOf H m2 m4 : Nat) → r < (8 * m4 + 511) / 512 := by
    intro r h1 h2
    unfold rowsOf imin at h2
    split at h2 <;> omega
  rw [adds_up _ W _ _ _ _ (fun r h1 h2 => dx_zero h h1 (hend r h1 h2)), ← up_rows (X := X) (x := x) hlt hdir (by omega : (Y : Int) < H), ← e2, ← e1]
  refine rowsR_congr fun r h1 h2 => ?_
  obtain ⟨q1, q2⟩ := dy_row (dir := dir) (dd := slopeW x m2 x m4) hlt h1 (hend r h1 h2)
  by_cases hr : r < 0
  · rw [if_pos hr]
    have : upRow X Y x (dir * (ph r m4 - ph r m2)) r = 0 := by unfold upRow; rw [if_pos hr]
    rw [this, cast_zero]
    grind
  · rw [if_neg hr, q1]
    obtain ⟨n, rfl⟩ : ∃ n : Nat, r = n := ⟨r.toNat, by omega⟩
    have a1 := ph_cases n m2
    have a2 := ph_cases n m4
    rw [show ((n : Int)).toNat = n by omega]
    have e3 : 8 * (ph n m4 - ph n m2) * dir = 8 * (dir * (ph n m4 - ph n m2)) := by grind
    simp only
    rw [e3, rowL_upSum W X Y x _ n hX (by rcases hdir with rfl | rfl <;> omega) (by rcases hdir with rfl | rfl <;> omega)]
    push_cast
    rfl
/-- What a vertical or horizontal edge gives to the sum up to pixel (X, Y), of numbers of fixed point. -/
theorem edge_up_fix {W H X Y : Nat} {a b : Pt} (ha : Small a) (hb : Small b) (hs : a.1 = b.1 ∨ a.2 = b.2) (hX : X < W) (hY : Y < H) :
    ((sumTo (edgeL W H (a, b)) (Y * W + X) : Int) : Rat) = 64 * (rowsR (fun r => 64 * ((dph r (a, b) : Int) : Rat)) 0 Y + ((dph Y (a, b) * cl64 X a.1 : Int) : Rat)) := by
  obtain ⟨a1, a2⟩ := a
  obtain ⟨b1, b2⟩ := b
  rcases Int.lt_trichotomy a2 b2 with h | h | h
  · obtain rfl : a1 = b1 := by rcases hs with h1 | h1 <;> simp at h1 <;> omega
    rw [edgeL_down W H ha hb h]
    have hsp : Span a1 a2 a1 b2 := ⟨ha.1, ha.2, hb.1, hb.2, h⟩
    rw [up_fix hsp (.inl rfl) hX hY]
    simp only [dph, Int.one_mul]
  · rw [edgeL_flat W H ha hb h]
    have hz : ∀ r, dph r ((a1, a2), (b1, b2)) = 0 := by intro r; unfold dph; simp only; rw [h]; omega
    rw [hz, rowsR_zero (fun r _ _ => by rw [hz, cast_zero]; grind)]
    simp only [sumTo, Int.zero_mul, cast_zero]
    grind
  · obtain rfl : a1 = b1 := by rcases hs with h1 | h1 <;> simp at h1 <;> omega
    rw [edgeL_up W H ha hb h]
    have hsp : Span a1 b2 a1 a2 := ⟨hb.1, hb.2, ha.1, ha.2, h⟩
    rw [up_fix hsp (.inr rfl) hX hY]
    have e : ∀ r, (-1 : Int) * (ph r a2 - ph r b2) = dph r ((a1, a2), (a1, b2)) := by intro r; unfold dph; simp only; omega
    simp only [e]
end Go.Proofs.Ytmgcbodlolnheaa

namespace Go.Proofs.Ytmgcbodlolnheaa
open Flt Go.RowKit
set_option linter.unusedVariables false

/-- A float32 that is n times a power of two. -/
def Ex (q : Int) (a : Nat) (n : Int) : Prop := F32 a ∧ V a = n * p2 q
theorem big_ex {q n : Int} (hq : q ≤ 50) (h1 : n ≤ 16777216) (h2 : -16777216 ≤ n) : Flt.ab ((n : Rat) * p2 q) ≤ p2 126 := by
  rw [ab_mul, ab_of_nonneg (Rat.le_of_lt (p2_pos q))]
  have h3 := ab_int_le (n := n) (b := 16777216) (by omega) (by omega)
  have h4 : p2 q ≤ p2 50 := p2_mono hq
  have h5 : ((16777216 : Nat) : Rat) = p2 24 := by
    have : p2 ((24 : Nat) : Int) = ((2 ^ 24 : Nat) : Rat) := p2_nat 24
    rw [show p2 24 = p2 ((24 : Nat) : Int) from rfl, this]
  rw [h5] at h3
  have h6 := Rat.mul_le_mul_of_nonneg_right h3 (Rat.le_of_lt (p2_pos q))
  have h7 := Rat.mul_le_mul_of_nonneg_left h4 (Rat.le_of_lt (p2_pos 24))
  have e50 : p2 24 * p2 50 = p2 74 := (p2_add 24 50).symm
  rw [e50] at h7
  exact Rat.le_trans h6 (Rat.le_trans h7 (p2_mono (by decide)))
section
variable {q q' : Int} {a b : Nat} {m n : Int}
theorem Ex.round {x : Rat} {r : Nat} (h : R32 x r) (hx : x = n * p2 q) (h1 : n ≤ 16777216) (h2 : -16777216 ≤ n) (hq : -149 ≤ q) : Ex q r n := ⟨h.fin, by rw [h.eq hx h1 h2 hq, hx]⟩
theorem Ex.add (ha : Ex q a m) (hb : Ex q b n) (h1 : m + n ≤ 16777216) (h2 : -16777216 ≤ m + n) (hq : -149 ≤ q) (hq' : q ≤ 50) : Ex q (fop .add a b) (m + n) := by
  have hx : V a + V b = ((m + n : Int) : Rat) * p2 q := by rw [ha.2, hb.2]; push_cast; grind
  have := (fadd_ok ha.1 hb.1 (by rw [hx]; exact big_ex hq' h1 h2)).2
  exact Ex.round this hx h1 h2 hq
theorem Ex.sub (ha : Ex q a m) (hb : Ex q b n) (h1 : m - n ≤ 16777216) (h2 : -16777216 ≤ m - n) (hq : -149 ≤ q) (hq' : q ≤ 50) : Ex q (fop .sub a b) (m - n) := by
  have hx : V a - V b = ((m - n : Int) : Rat) * p2 q := by rw [ha.2, hb.2]; push_cast; grind
  have := (fsub_ok ha.1 hb.1 (by rw [hx]; exact big_ex hq' h1 h2)).2
  exact Ex.round this hx h1 h2 hq
theorem Ex.mul {p : Int} (ha : Ex p a m) (hb : Ex q b n) (h1 : m * n ≤ 16777216) (h2 : -16777216 ≤ m * n) (hq : -149 ≤ p + q) (hq' : p + q ≤ 50) : Ex (p + q) (fop .mul a b) (m * n) := by
  have hx : V a * V b = ((m * n : Int) : Rat) * p2 (p + q) := by rw [ha.2, hb.2, p2_add]; push_cast; grind
  have := (fmul_ok ha.1 hb.1 (by rw [hx]; exact big_ex hq' h1 h2)).2
  exact Ex.round this hx h1 h2 hq
theorem Q64.ex (h : Q64 a n) : Ex (-6) a n := ⟨h.1, by rw [h.2, p2_m6]; grind⟩
theorem Ex.q64 (h : Ex (-6) a n) : Q64 a n := ⟨h.1, by rw [h.2, p2_m6]; grind⟩
end
def ExL (q : Int) : List (Nat × Nat) → List (Nat × Int) → Prop
  | [], [] => True
  | (k, v) :: t, (k', n) :: t' => k = k' ∧ Ex q v n ∧ ExL q t t'
  | _, _ => False
theorem ExL.append {q : Int} : ∀ {s : List (Nat × Nat)} {z : List (Nat × Int)} {s' : List (Nat × Nat)} {z' : List (Nat × Int)}, ExL q s z → ExL q s' z' → ExL q (s ++ s') (z ++ z')
  | [], [], _, _, _, h' => h'
  | [], _ :: _, _, _, h, _ => h.elim
  | _ :: _, [], _, _, h, _ => h.elim
  | (k, v) :: t, (k', n) :: t', _, _, h, h' => ⟨h.1, h.2.1, ExL.append h.2.2 h'⟩
def ExV (q : Int) : List Nat → List Int → Prop
  | [], [] => True
  | v :: t, n :: t' => Ex q v n ∧ ExV q t t'
  | _, _ => False
/-- Sizes, added up. -/
def sizeL : List (Nat × Int) → Nat
  | [] => 0
  | (_, n) :: t => n.natAbs + sizeL t
theorem sizeL_append : ∀ (s t : List (Nat × Int)), sizeL (s ++ t) = sizeL s + sizeL t
  | [], _ => by simp [sizeL]
  | (_, n) :: s, t => by rw [List.cons_append, sizeL, sizeL_append s t, sizeL]; omega
def sizeV : List Int → Nat
  | [] => 0
  | n :: t => n.natAbs + sizeV t
def zadd (l : List Int) (k : Nat) (v : Int) : List Int := l.modify k (fun a => a + v)
def zadds : List (Nat × Int) → List Int → List Int
  | [], l => l
  | (k, v) :: t, l => zadds t (zadd l k v)
theorem size_zadd : ∀ (l : List Int) (k : Nat) (v : Int), sizeV (zadd l k v) ≤ sizeV l + v.natAbs
  | [], k, v => by simp [zadd, sizeV]
  | a :: t, 0, v => by simp only [zadd, List.modify_zero_cons, sizeV]; omega
  | a :: t, k + 1, v => by
    have h := size_zadd t k v
    simp only [zadd, List.modify_succ_cons, sizeV] at h ⊢
    omega
theorem size_zadds : ∀ (z : List (Nat × Int)) (l : List Int), sizeV (zadds z l) ≤ sizeV l + sizeL z
  | [], l => by simp [zadds, sizeL]
  | (k, v) :: t, l => by
    have h1 := size_zadds t (zadd l k v)
    have h2 := size_zadd l k v
    rw [zadds, sizeL]
    omega
theorem exV_add {q : Int} {v : Nat} {n : Int} (hv : Ex q v n) (hq : -149 ≤ q) (hq' : q ≤ 50) : ∀ {u : List Nat} {l : List Int} (k : Nat), ExV q u l → sizeV l + n.natAbs ≤ 16777216 → ExV q (fbump u k v) (zadd l k n)
  | [], [], k, _, _ => by simp [fbump, zadd, ExV]
  | [], _ :: _, _, h, _ => h.elim
  | _ :: _, [], _, h, _ => h.elim
  | a :: u, c :: l, 0, h, hb => by
    simp only [sizeV] at hb
    simp only [fbump, zadd, List.modify_zero_cons]
    exact ⟨h.1.add hv (by omega) (by omega) hq hq', h.2⟩
  | a :: u, c :: l, k + 1, h, hb => by
    simp only [sizeV] at hb
    have := exV_add hv hq hq' k h.2 (by omega)
    simp only [fbump, zadd, List.modify_succ_cons] at this ⊢
    exact ⟨h.1, this⟩
theorem exV_adds {q : Int} (hq : -149 ≤ q) (hq' : q ≤ 50) : ∀ {s : List (Nat × Nat)} {z : List (Nat × Int)} {u : List Nat} {l : List Int}, ExL q s z → ExV q u l → sizeV l + sizeL z ≤ 16777216 → ExV q (fadds s u) (zadds z l)
  | [], [], _, _, _, h, _ => h
  | [], _ :: _, _, _, h, _, _ => h.elim
  | _ :: _, [], _, _, h, _, _ => h.elim
  | (k, v) :: t, (k', n) :: t', u, l, h, hu, hb => by
    obtain ⟨rfl, h1, h2⟩ := h
    simp only [sizeL] at hb
    have h3 := size_zadd l k n
    show ExV q (fadds t (fbump u k v)) (zadds t' (zadd l k n))
    exact exV_adds hq hq' h2 (exV_add h1 hq hq' k hu (by omega)) (by omega)
theorem exV_zero (q : Int) : ∀ n : Nat, ExV q (List.replicate n 0) (List.replicate n 0)
  | 0 => trivial
  | n + 1 => by
    rw [List.replicate_succ, List.replicate_succ]
    exact ⟨⟨fzero.1, by rw [fzero.2, cast_zero]; grind⟩, exV_zero q n⟩
theorem size_zero : ∀ n : Nat, sizeV (List.replicate n 0) = 0
  | 0 => rfl
  | n + 1 => by rw [List.replicate_succ, sizeV, size_zero n]; rfl
/-- What the cells up to p hold. -/
def zsumTo (l : List Int) (p : Nat) : Int := (l.take (p + 1)).sum
theorem zsumTo_add (k p : Nat) (v : Int) : ∀ (l : List Int), p < l.length → zsumTo (zadd l k v) p = zsumTo l p + if k ≤ p then v else 0 := by
  induction k generalizing p with
  | zero =>
    intro l hl
    cases l with
    | nil => simp at hl
    | cons a t => simp [zsumTo, zadd]; omega
  | succ k ih =>
    intro l hl
    cases l with
    | nil => simp at hl
    | cons a t =>
      cases p with
      | zero => simp [zsumTo, zadd]
      | succ p =>
        have := ih p t (by simpa using hl)
        simp only [zsumTo, zadd, List.modify_succ_cons, List.take_succ_cons, List.sum_cons, Nat.add_le_add_iff_right] at this ⊢
        omega
theorem length_zadd (l : List Int) (k : Nat) (v : Int) : (zadd l k v).length = l.length := by simp [zadd]
theorem zsumTo_adds : ∀ (z : List (Nat × Int)) (l : List Int) (p : Nat), p < l.length → zsumTo (zadds z l) p = zsumTo l p + sumTo z p
  | [], l, p, _ => by simp [zadds, sumTo]
  | (k, v) :: t, l, p, h => by
    rw [zadds, zsumTo_adds t _ p (by rw [length_zadd]; exact h), zsumTo_add k p v l h, sumTo]
    omega
theorem length_zadds : ∀ (z : List (Nat × Int)) (l : List Int), (zadds z l).length = l.length
  | [], _ => rfl
  | (k, v) :: t, l => by rw [zadds, length_zadds t, length_zadd]
theorem floBytes_ex {q : Int} (hq : -149 ≤ q) (hq' : q ≤ 50) : ∀ {u : List Nat} {l : List Int} {acc : Nat} {A : Int} (p : Nat), ExV q u l → Ex q acc A → A.natAbs + sizeV l ≤ 16777216 → p < u.length → ∃ a, (floBytes acc u)[p]? = some (floByte a) ∧ Ex q a (A + zsumTo l p)
  | [], _, _, _, _, _, _, _, h => by simp at h
  | _ :: _, [], _, _, _, h, _, _, _ => h.elim
  | v :: u, n :: l, acc, A, 0, h, ha, hb, _ => by
    simp only [sizeV] at hb
    exact ⟨fop .add acc v, by simp [floBytes], by simpa [zsumTo] using ha.add h.1 (by omega) (by omega) hq hq'⟩
  | v :: u, n :: l, acc, A, p + 1, h, ha, hb, hp => by
    simp only [sizeV] at hb
    obtain ⟨a, e1, e2⟩ := floBytes_ex hq hq' p h.2 (ha.add h.1 (by omega) (by omega) hq hq') (by omega) (by simpa using hp)
    refine ⟨a, by rw [floBytes, List.getElem?_cons_succ]; exact e1, ?_⟩
    have e : A + zsumTo (n :: l) (p + 1) = A + n + zsumTo l p := by simp [zsumTo]; omega
    rw [e]
    exact e2
/-- A mask in floating numbers, where all is exact. -/
theorem floMask_ex {q : Int} (hq : -149 ≤ q) (hq' : q ≤ 50) {s : List (Nat × Nat)} {z : List (Nat × Int)} (h : ExL q s z) (hb : sizeL z ≤ 16777216) {n p : Nat} (hp : p < n) : ∃ a, (floBytes 0 (fadds s (List.replicate n 0)))[p]? = some (floByte a) ∧ Ex q a (sumTo z p) := by
  have h1 := exV_adds hq hq' h (exV_zero q n) (by rw [size_zero]; omega)
  have h2 := size_zadds z (List.replicate n 0)
  rw [size_zero] at h2
  obtain ⟨a, e1, e2⟩ := floBytes_ex hq hq' p h1 ⟨fzero.1, by rw [fzero.2, cast_zero]; grind⟩ (by simp; omega) (by rw [length_fadds]; simpa using hp)
  refine ⟨a, e1, ?_⟩
  rw [zsumTo_adds z _ p (by simpa using hp)] at e2
  have e : (0 : Int) + (zsumTo (List.replicate n 0) p + sumTo z p) = sumTo z p := by
    unfold zsumTo
    rw [List.take_replicate, List.sum_replicate_int]
    simp
  rw [e] at e2
  exact e2
end Go.Proofs.Ytmgcbodlolnheaa

namespace Go.Proofs.Ytmgcbodlolnheaa
open Flt Go.RowKit
set_option linter.unusedVariables false

/-- The additions of a vertical line at m, in 4096ths; D: how far down each row. -/
def upL (W : Nat) (m : Int) (D : Int → Int) : Nat → Int → List (Nat × Int)
  | 0, _ => []
  | k + 1, y => (if y < 0 then [] else [(y.toNat * W + clampN (m / 64) W, D y * (64 - m % 64)), (y.toNat * W + clampN (m / 64 + 1) W, D y * (m % 64))]) ++ upL W m D k (y + 1)
theorem upL_sum {W X Y : Nat} {m : Int} {D : Int → Int} (hX : X < W) : ∀ (k : Nat) (y : Int), (∀ r, y ≤ r → r < y + k → -64 ≤ D r ∧ D r ≤ 64) → ((sumTo (upL W m D k y) (Y * W + X) : Int) : Rat) = rowsR (fun r => ((upRow X Y m (D r) r : Int) : Rat)) y k
  | 0, y, _ => rfl
  | k + 1, y, h => by
    rw [upL, sumTo_append, rowsR, ← upL_sum hX k (y + 1) (fun r h1 h2 => h r (by omega) (by omega))]
    push_cast
    congr 1
    by_cases hy : y < 0
    · rw [if_pos hy]
      unfold upRow
      rw [if_pos hy]
      rfl
    · rw [if_neg hy]
      obtain ⟨n, rfl⟩ : ∃ n : Nat, y = n := ⟨y.toNat, by omega⟩
      obtain ⟨d1, d2⟩ := h n (by omega) (by omega)
      have h1 := rowL_upSum W X Y m (D n) n hX d1 d2
      rw [rowL_up W _ _ _ (by omega) (by omega)] at h1
      have e1 : 8 * m / 512 = m / 64 := by omega
      have e2 : 8 * m % 512 = 8 * (m % 64) := by omega
      rw [e1, e2] at h1
      have e3 : 8 * D n * (512 - 8 * (m % 64)) = 64 * (D n * (64 - m % 64)) := by grind
      have e4 : 8 * D n * (8 * (m % 64)) = 64 * (D n * (m % 64)) := by grind
      rw [e3, e4] at h1
      simp only [sumTo] at h1 ⊢
      rw [show ((n : Int)).toNat = n by omega]
      have h2 : (if n * W + clampN (m / 64) W ≤ Y * W + X then D n * (64 - m % 64) else 0) + ((if n * W + clampN (m / 64 + 1) W ≤ Y * W + X then D n * (m % 64) else 0) + 0) = upRow X Y m (D n) n := by
        split at h1 <;> split at h1 <;> simp_all <;> omega
      rw [← h2]
theorem upL_size {W : Nat} {m : Int} {D : Int → Int} : ∀ (k : Nat) (y : Int), (∀ r, y ≤ r → r < y + k → -64 ≤ D r ∧ D r ≤ 64) → sizeL (upL W m D k y) ≤ 4096 * ((y + k).toNat - y.toNat)
  | 0, y, _ => by simp [upL, sizeL]
  | k + 1, y, h => by
    have ih := upL_size (W := W) (m := m) k (y + 1) (fun r h1 h2 => h r (by omega) (by omega))
    have e : y + 1 + (k : Int) = y + ((k + 1 : Nat) : Int) := by omega
    rw [e] at ih
    rw [upL, sizeL_append]
    by_cases hy : y < 0
    · rw [if_pos hy, sizeL]
      have : (y + 1).toNat = 0 := by omega
      omega
    · rw [if_neg hy]
      obtain ⟨d1, d2⟩ := h y (by omega) (by omega)
      simp only [sizeL]
      have h1 : (D y * (64 - m % 64)).natAbs + (D y * (m % 64)).natAbs = (D y).natAbs * 64 := by
        rw [Int.natAbs_mul, Int.natAbs_mul, ← Nat.mul_add]
        congr 1
        omega
      have h2 : (D y).natAbs ≤ 64 := by omega
      have : (y + 1).toNat = y.toNat + 1 := by omega
      omega
theorem fl64g {a : Nat} {m : Int} (hq : Q64 a m) (hb : -262144 ≤ m ∧ m ≤ 262144) : (FlOk a ∧ ffl a = m / 64) ∧ (CeOk a ∧ fce a = (m + 63) / 64) := by
  have hbd := hq.bd (m := 262144) (by omega) (by omega)
  push_cast at hbd
  have hx : Xs a := ⟨Bd.of hq.1 (by rw [p2_15]; grind), hq.grid.up (by decide)⟩
  obtain ⟨f1, f2, _, _⟩ := hx.fl
  obtain ⟨c1, c2, _, _⟩ := hx.ce
  refine ⟨⟨f1, ?_⟩, c1, ?_⟩
  · rw [f2, hq.2]
    have h1 : m / 64 ≤ ((m : Rat) / 64).floor := by
      rw [Rat.le_floor_iff]
      have := Rat.intCast_le_intCast.2 (show m / 64 * 64 ≤ m by omega)
      push_cast at this
      grind
    have h2 : ((m : Rat) / 64).floor < m / 64 + 1 := by
      rw [Rat.floor_lt_iff]
      have := Rat.intCast_lt_intCast.2 (show m < (m / 64 + 1) * 64 by omega)
      push_cast at this ⊢
      grind
    omega
  · rw [c2, hq.2]
    unfold ceilR
    have h1 : (-((m + 63) / 64)) ≤ (-((m : Rat) / 64)).floor := by
      rw [Rat.le_floor_iff]
      have := Rat.intCast_le_intCast.2 (show m ≤ (m + 63) / 64 * 64 by omega)
      push_cast at this ⊢
      grind
    have h2 : (-((m : Rat) / 64)).floor < -((m + 63) / 64) + 1 := by
      rw [Rat.floor_lt_iff]
      have := Rat.intCast_lt_intCast.2 (show ((m + 63) / 64 - 1) * 64 < m by omega)
      push_cast at this ⊢
      grind
    omega
theorem flo_or (x xn : Nat) : (flo x xn = x ∨ flo x xn = xn) ∧ (fhi x xn = x ∨ fhi x xn = xn) := by
  unfold flo fhi
  split
  · exact ⟨.inr rfl, .inl rfl⟩
  · exact ⟨.inl rfl, .inr rfl⟩
theorem frow_up (W base : Nat) {x xn d : Nat} {m D : Int} (hx : Q64 x m) (hn : Q64 xn m) (hd : Q64 d D) (hm : -262144 ≤ m ∧ m ≤ 262144) (h1 : -64 ≤ D) (h2 : D ≤ 64) :
    ExL (-12) (frow W base x xn d) [(base + clampN (m / 64) W, D * (64 - m % 64)), (base + clampN (m / 64 + 1) W, D * (m % 64))] := by
  have hlo : Q64 (flo x xn) m := by rcases (flo_or x xn).1 with h | h <;> rw [h] <;> assumption
  have hhi : Q64 (fhi x xn) m := by rcases (flo_or x xn).2 with h | h <;> rw [h] <;> assumption
  obtain ⟨⟨_, f⟩, _⟩ := fl64g hlo hm
  obtain ⟨_, _, c⟩ := fl64g hhi hm
  unfold frow
  rw [f, c, if_pos (by omega)]
  unfold frowN
  rw [f]
  have half : Ex (-1) 1056964608 1 := ⟨fhalf.1.fin, by rw [fhalf.2]; have := p2_neg 1; push_cast at this ⊢; grind⟩
  have b1 := mul_bd (a := D) (b := m % 64) (m := 64) (n := 64) (by omega) (by omega) (by omega) (by omega)
  have b2 := mul_bd (a := D) (b := 64 - m % 64) (m := 64) (n := 64) (by omega) (by omega) (by omega) (by omega)
  have s1 := hx.ex.add hn.ex (by omega) (by omega) (by decide) (by decide)
  have s2 := half.mul s1 (by omega) (by omega) (by decide) (by decide)
  have s3 : Ex (-6) (fop .mul 1056964608 (fop .add x xn)) m := by
    have e : p2 (-6) = 2 * p2 (-1 + -6) := by rw [show (-6 : Int) = (-1 + -6) + 1 by decide]; exact p2_succ _
    refine ⟨s2.1, ?_⟩
    rw [s2.2, e]
    push_cast
    grind
  have s4 := s3.sub (Q64.ofInt (n := m / 64) (by omega) (by omega)).ex (by omega) (by omega) (by decide) (by decide)
  have s5 : Ex (-6) (fop .sub (fop .mul 1056964608 (fop .add x xn)) (floatOfInt .f32 (m / 64))) (m % 64) := by
    have e : m - 64 * (m / 64) = m % 64 := by omega
    rw [e] at s4
    exact s4
  have s6 := hd.ex.mul s5 (by omega) (by omega) (by decide) (by decide)
  have hd12 : Ex (-12) d (D * 64) := ⟨hd.1, by
    have e : p2 (-6) = 64 * p2 (-12) := by have h9 := p2_split (a := -12) (b := -6) (by decide); simpa using h9
    rw [hd.ex.2, e]; push_cast; grind⟩
  have s7 := hd12.sub s6 (by omega) (by omega) (by decide) (by decide)
  have e7 : D * 64 - D * (m % 64) = D * (64 - m % 64) := by rw [Int.mul_sub]
  rw [e7] at s7
  exact ⟨rfl, s7, rfl, s6, trivial⟩
theorem slope_zeroEx {m1 m2 m4 : Int} (h : Span m1 m2 m1 m4) : Ex 0 (slopeW m1 m2 m1 m4) 0 := ⟨(slope_zero h).1, by rw [(slope_zero h).2, cast_zero]; grind⟩
theorem k64_ph {m2 m4 r : Int} (h : m2 < m4) (h1 : m2 / 64 ≤ r) (h2 : r < (m4 + 63) / 64) : k64 m2 m4 r = ph r m4 - ph r m2 := by
  have a1 := ph_cases r m2
  have a2 := ph_cases r m4
  unfold k64 imin imax
  split <;> split <;> omega
/-- The additions of a vertical line. -/
theorem addsF_up {m1 m2 m4 dirI : Int} {dir : Nat} (h : Span m1 m2 m1 m4) (hd1 : dirI = 1 ∨ dirI = -1) (hdir : Ex 0 dir dirI) (W : Nat) : ∀ (k : Nat) (y : Int) (x : Nat), Q64 x m1 → m2 / 64 ≤ y → y + k ≤ (m4 + 63) / 64 →
    ExL (-12) ((⟨wq m2, wq m4, dir, slopeW m1 m2 m1 m4⟩ : GL).adds W k y x) (upL W m1 (fun r => dirI * (ph r m4 - ph r m2)) k y)
  | 0, _, _, _, _, _ => trivial
  | k + 1, y, x, hx, h1, h2 => by
    have hb2 := h.a2
    have hb4 := h.a4
    obtain ⟨p1, p2', p3⟩ := k64_bd h.lt h1 (show y < (m4 + 63) / 64 by omega)
    obtain ⟨s1, s2⟩ := h.dy64 dir (slopeW m1 m2 m1 m4) (y := y) (by omega) (by omega) p2' p3
    rw [k64_ph h.lt h1 (show y < (m4 + 63) / 64 by omega)] at s2 p2' p3
    have t1 := s2.ex.mul (slope_zeroEx h) (by omega) (by omega) (by decide) (by decide)
    have t2 : Ex (-6) (fop .mul ((⟨wq m2, wq m4, dir, slopeW m1 m2 m1 m4⟩ : GL).dy y) (slopeW m1 m2 m1 m4)) 0 := by
      rw [Int.mul_zero] at t1
      exact t1
    have t3 := hx.ex.add t2 (by have := h.a1; omega) (by have := h.a1; omega) (by decide) (by decide)
    rw [Int.add_zero] at t3
    have hn : Q64 ((⟨wq m2, wq m4, dir, slopeW m1 m2 m1 m4⟩ : GL).nx y x) m1 := t3.q64
    have ih := addsF_up h hd1 hdir W k (y + 1) _ hn (by omega) (by omega)
    rw [GL.adds, upL]
    refine ExL.append ?_ ih
    by_cases hy : y < 0
    · rw [if_pos hy, if_pos hy]
      trivial
    · rw [if_neg hy, if_neg hy]
      have t4 := s2.ex.mul hdir (by rcases hd1 with rfl | rfl <;> omega) (by rcases hd1 with rfl | rfl <;> omega) (by decide) (by decide)
      have t5 : Q64 (fop .mul ((⟨wq m2, wq m4, dir, slopeW m1 m2 m1 m4⟩ : GL).dy y) dir) (dirI * (ph y m4 - ph y m2)) := by
        rw [Int.mul_comm] at t4
        exact Ex.q64 t4
      exact frow_up W _ hx hn t5 h.a1 (by rcases hd1 with rfl | rfl <;> omega) (by rcases hd1 with rfl | rfl <;> omega)
theorem up_flo {W H X Y : Nat} {m1 m2 m4 dirI : Int} {dir : Nat} (h : Span m1 m2 m1 m4) (hd1 : dirI = 1 ∨ dirI = -1) (hdir : Ex 0 dir dirI) (hX : X < W) (hY : Y < H) :
    ∃ z, ExL (-12) ((⟨wq m2, wq m4, dir, slopeW m1 m2 m1 m4⟩ : GL).adds W (imin H ((m4 + 63) / 64) - m2 / 64).toNat (m2 / 64) (wq m1)) z ∧
      ((sumTo z (Y * W + X) : Int) : Rat) = rowsR (fun r => 64 * ((dirI * (ph r m4 - ph r m2) : Int) : Rat)) 0 Y + ((dirI * (ph Y m4 - ph Y m2) * cl64 X m1 : Int) : Rat) ∧ sizeL z ≤ 4096 * H ∧ z = upL W m1 (fun r => dirI * (ph r m4 - ph r m2)) (imin H ((m4 + 63) / 64) - m2 / 64).toNat (m2 / 64) := by
  have hlt := h.lt
  have hk : (m2 / 64) + ((imin H ((m4 + 63) / 64) - m2 / 64).toNat : Int) ≤ (m4 + 63) / 64 := by unfold imin; split <;> omega
  have hD : ∀ r, -64 ≤ dirI * (ph r m4 - ph r m2) ∧ dirI * (ph r m4 - ph r m2) ≤ 64 := by
    intro r
    have a1 := ph_cases r m2
    have a2 := ph_cases r m4
    rcases hd1 with rfl | rfl <;> omega
  refine ⟨_, addsF_up h hd1 hdir W _ (m2 / 64) (wq m1) h.q1 (Int.le_refl _) hk, ?_, ?_, rfl⟩
  · rw [upL_sum hX _ _ (fun r _ _ => hD r)]
    have := up_rows (X := X) (x := m1) hlt hd1 (show (Y : Int) < H by omega) 1
    simp only [Rat.one_mul] at this
    exact this
  · refine Nat.le_trans (upL_size _ _ (fun r _ _ => hD r)) ?_
    have : ((m2 / 64) + ((imin H ((m4 + 63) / 64) - m2 / 64).toNat : Int)).toNat - (m2 / 64).toNat ≤ H := by
      unfold imin
      split <;> omega
    omega
/-- What a vertical or horizontal edge adds, of floating numbers. -/
theorem edge_up_flo {W H X Y : Nat} {a b : Pt} (ha : Small a) (hb : Small b) (hs : a.1 = b.1 ∨ a.2 = b.2) (hX : X < W) (hY : Y < H) :
    ∃ z, ExL (-12) (edgeF W H (a, b)) z ∧ ((sumTo z (Y * W + X) : Int) : Rat) = rowsR (fun r => 64 * ((dph r (a, b) : Int) : Rat)) 0 Y + ((dph Y (a, b) * cl64 X a.1 : Int) : Rat) ∧ sizeL z ≤ 4096 * H ∧
      (z = [] ∨ ∃ k y, z = upL W a.1 (fun r => dph r (a, b)) k y) := by
  obtain ⟨a1, a2⟩ := a
  obtain ⟨b1, b2⟩ := b
  rcases Int.lt_trichotomy a2 b2 with h | h | h
  · obtain rfl : a1 = b1 := by rcases hs with h1 | h1 <;> simp at h1 <;> omega
    rw [edgeF_down W H ha hb h]
    have hsp : Span a1 a2 a1 b2 := ⟨ha.1, ha.2, hb.1, hb.2, h⟩
    obtain ⟨z, z1, z2, z3, z4⟩ := up_flo hsp (.inl rfl) (dir := 1065353216) ⟨fone.1.fin, by rw [fone.2, p2_zero]; push_cast; grind⟩ hX hY
    have e : ∀ r, (1 : Int) * (ph r b2 - ph r a2) = dph r ((a1, a2), (a1, b2)) := by intro r; unfold dph; simp only; omega
    simp only [e] at z2 z4
    exact ⟨z, z1, z2, z3, .inr ⟨_, _, z4⟩⟩
  · have hf : edgeF W H ((a1, a2), (b1, b2)) = [] := by
      subst h
      unfold edgeF
      have hA := (wq_ok (n := a1) (by have := ha.1; simp at this; omega) (by have := ha.1; simp at this; omega)).2
      have hB := (wq_ok (n := b1) (by have := hb.1; simp at this; omega) (by have := hb.1; simp at this; omega)).2
      have hC := (wq_ok (n := a2) (by have := ha.2; simp at this; omega) (by have := ha.2; simp at this; omega)).2
      have b1' := hA.bd (m := 262144) (by have := ha.1; simp at this; omega) (by have := ha.1; simp at this; omega)
      have b3' := hB.bd (m := 262144) (by have := hb.1; simp at this; omega) (by have := hb.1; simp at this; omega)
      push_cast at b1' b3'
      exact (floLine_flat W H hA.1 hC.1 hB.1 (by grind) (by grind)).1
    have hz : ∀ r, dph r ((a1, a2), (b1, b2)) = 0 := by intro r; unfold dph; simp only; rw [h]; omega
    refine ⟨[], by rw [hf]; trivial, ?_, by simp [sizeL], .inl rfl⟩
    rw [hz, rowsR_zero (fun r _ _ => by rw [hz, cast_zero]; grind)]
    simp only [sumTo, Int.zero_mul, cast_zero]
    grind
  · obtain rfl : a1 = b1 := by rcases hs with h1 | h1 <;> simp at h1 <;> omega
    rw [edgeF_up W H ha hb h]
    have hsp : Span a1 b2 a1 a2 := ⟨hb.1, hb.2, ha.1, ha.2, h⟩
    obtain ⟨z, z1, z2, z3, z4⟩ := up_flo hsp (.inr rfl) (dir := 3212836864) ⟨fmone.1.fin, by rw [fmone.2, p2_zero]; push_cast; grind⟩ hX hY
    have e : ∀ r, (-1 : Int) * (ph r a2 - ph r b2) = dph r ((a1, a2), (a1, b2)) := by intro r; unfold dph; simp only; omega
    simp only [e] at z2 z4
    exact ⟨z, z1, z2, z3, .inr ⟨_, _, z4⟩⟩
end Go.Proofs.Ytmgcbodlolnheaa

namespace Go.Proofs.Ytmgcbodlolnheaa
open Flt Go.RowKit
set_option linter.unusedVariables false

def Up (e : Pt × Pt) : Prop := Small e.1 ∧ Small e.2 ∧ (e.1.1 = e.2.1 ∨ e.1.2 = e.2.2)
/-- How much of pixel (X, Y) they go round, in 4096ths. -/
def area64 (es : List (Pt × Pt)) (X Y : Nat) : Int := zsum (fun e => dph Y e * cl64 X e.1.1) es
theorem sumTo_edgesL (W : Nat) (H : Int) (p : Nat) : ∀ (es : List (Pt × Pt)), ((sumTo (edgesL W H es) p : Int) : Rat) = sumE (fun e => ((sumTo (edgeL W H e) p : Int) : Rat)) es
  | [] => rfl
  | e :: t => by
    rw [edgesL, sumTo_append, sumE, ← sumTo_edgesL W H p t]
    push_cast
    rfl
theorem rows_closed (ps : List (List Pt)) (Y : Nat) : sumE (fun e => rowsR (fun r => 64 * ((dph r e : Int) : Rat)) 0 Y) (ps.flatMap edges) = 0 := by
  rw [sumE_rows (fun e r => 64 * ((dph r e : Int) : Rat))]
  refine rowsR_zero fun r _ _ => ?_
  rw [sumE_mul, ← zsum_sumE (fun e => dph r e)]
  have : zsum (fun e => dph r e) (ps.flatMap edges) = 0 := dph_several (ph r) ps
  rw [this, cast_zero]
  grind
theorem fix_area {W H X Y : Nat} (hX : X < W) (hY : Y < H) (ps : List (List Pt)) (h : ∀ e ∈ ps.flatMap edges, Up e) : sumTo (edgesL W H (ps.flatMap edges)) (Y * W + X) = 64 * area64 (ps.flatMap edges) X Y := by
  have e1 : ((sumTo (edgesL W H (ps.flatMap edges)) (Y * W + X) : Int) : Rat) = ((64 * area64 (ps.flatMap edges) X Y : Int) : Rat) := by
    rw [sumTo_edgesL, sumE_congr (g := fun e => 64 * (rowsR (fun r => 64 * ((dph r e : Int) : Rat)) 0 Y + ((dph Y e * cl64 X e.1.1 : Int) : Rat))) (fun e he => edge_up_fix (h e he).1 (h e he).2.1 (h e he).2.2 hX hY),
      sumE_mul, sumE_add, rows_closed, ← zsum_sumE (fun e => dph Y e * cl64 X e.1.1)]
    unfold area64
    push_cast
    grind
  exact Rat.intCast_inj.1 e1
theorem flo_edges {W H X Y : Nat} (hX : X < W) (hY : Y < H) : ∀ (es : List (Pt × Pt)), (∀ e ∈ es, Up e) → ∃ z, ExL (-12) (edgesF W H es) z ∧
    ((sumTo z (Y * W + X) : Int) : Rat) = sumE (fun e => rowsR (fun r => 64 * ((dph r e : Int) : Rat)) 0 Y + ((dph Y e * cl64 X e.1.1 : Int) : Rat)) es ∧ sizeL z ≤ 4096 * H * es.length ∧
    ∀ x ∈ z, ∃ e ∈ es, ∃ k y, x ∈ upL W e.1.1 (fun r => dph r e) k y
  | [], _ => ⟨[], trivial, rfl, by simp [sizeL], fun x hx => by simp at hx⟩
  | e :: t, h => by
    obtain ⟨z, z1, z2, z3, z4⟩ := flo_edges hX hY t fun e he => h e (by simp [he])
    obtain ⟨u1, u2, u3⟩ := h e (by simp)
    obtain ⟨z', y1, y2, y3, y4⟩ := edge_up_flo u1 u2 u3 hX hY
    refine ⟨z' ++ z, ?_, ?_, ?_, ?_⟩
    · rw [edgesF]
      exact y1.append z1
    · rw [sumTo_append, sumE, ← z2, ← y2]
      push_cast
      rfl
    · rw [sizeL_append, List.length_cons, Nat.mul_add, Nat.mul_one]
      omega
    · intro x hx
      rw [List.mem_append] at hx
      rcases hx with hx | hx
      · rcases y4 with rfl | ⟨k, y, rfl⟩
        · simp at hx
        · exact ⟨e, by simp, k, y, hx⟩
      · obtain ⟨e', he, r⟩ := z4 x hx
        exact ⟨e', by simp [he], r⟩
theorem flo_area {W H X Y : Nat} (hX : X < W) (hY : Y < H) (ps : List (List Pt)) (h : ∀ e ∈ ps.flatMap edges, Up e) : ∃ z, ExL (-12) (edgesF W H (ps.flatMap edges)) z ∧ sumTo z (Y * W + X) = area64 (ps.flatMap edges) X Y ∧
    sizeL z ≤ 4096 * H * (ps.flatMap edges).length ∧ ∀ x ∈ z, ∃ e ∈ ps.flatMap edges, ∃ k y, x ∈ upL W e.1.1 (fun r => dph r e) k y := by
  obtain ⟨z, z1, z2, z3, z4⟩ := flo_edges hX hY _ h
  refine ⟨z, z1, Rat.intCast_inj.1 ?_, z3, z4⟩
  rw [z2, sumE_add, rows_closed, ← zsum_sumE (fun e => dph Y e * cl64 X e.1.1)]
  unfold area64
  grind
/-! ### coarser places -/
def coarse (z : List (Nat × Int)) : List (Nat × Int) := z.map fun x => (x.1, x.2 / 4096)
theorem ExL.coarse : ∀ {s : List (Nat × Nat)} {z : List (Nat × Int)}, ExL (-12) s z → (∀ x ∈ z, x.2 % 4096 = 0) → ExL 0 s (coarse z)
  | [], [], _, _ => trivial
  | [], _ :: _, h, _ => h.elim
  | _ :: _, [], h, _ => h.elim
  | (k, v) :: t, (k', n) :: t', h, hz => by
    refine ⟨h.1, ⟨h.2.1.1, ?_⟩, ExL.coarse h.2.2 fun x hx => hz x (by simp [hx])⟩
    have h1 := hz (k', n) (by simp)
    simp only at h1
    have e : p2 0 = 4096 * p2 (-12) := by have h9 := p2_split (a := -12) (b := 0) (by decide); simpa using h9
    have e2 : (n : Rat) = 4096 * ((n / 4096 : Int) : Rat) := by
      have : n = 4096 * (n / 4096) := by omega
      have h3 : ((n : Int) : Rat) = ((4096 * (n / 4096) : Int) : Rat) := by rw [← this]
      rw [h3]
      push_cast
      rfl
    rw [h.2.1.2, e]
    grind
theorem coarse_sum (p : Nat) : ∀ {z : List (Nat × Int)}, (∀ x ∈ z, x.2 % 4096 = 0) → 4096 * sumTo (coarse z) p = sumTo z p
  | [], _ => rfl
  | (k, n) :: t, h => by
    have h1 := h (k, n) (by simp)
    have h2 := coarse_sum p (z := t) fun x hx => h x (by simp [hx])
    simp only at h1
    show 4096 * sumTo ((k, n / 4096) :: coarse t) p = _
    rw [sumTo, sumTo]
    split <;> omega
theorem coarse_size : ∀ {z : List (Nat × Int)}, (∀ x ∈ z, x.2 % 4096 = 0) → 4096 * sizeL (coarse z) = sizeL z
  | [], _ => rfl
  | (k, n) :: t, h => by
    have h1 := h (k, n) (by simp)
    have h2 := coarse_size (z := t) fun x hx => h x (by simp [hx])
    simp only at h1
    show 4096 * sizeL ((k, n / 4096) :: coarse t) = _
    rw [sizeL, sizeL]
    omega
theorem upL_whole {W : Nat} {m : Int} {D : Int → Int} (hm : m % 64 = 0) (hD : ∀ r, D r % 64 = 0) : ∀ {k : Nat} {y : Int} {x : Nat × Int}, x ∈ upL W m D k y → x.2 % 4096 = 0
  | 0, _, _, h => by simp [upL] at h
  | k + 1, y, x, h => by
    rw [upL, List.mem_append] at h
    rcases h with h | h
    · split at h
      · simp at h
      · simp only [List.mem_cons, List.not_mem_nil, or_false] at h
        have hd := hD y
        rcases h with rfl | rfl
        · simp only
          rw [hm]
          omega
        · simp only
          rw [hm]
          simp
    · exact upL_whole hm hD h

/-! ### bytes -/
theorem fixByte_of {n : Int} (h : n.natAbs ≤ 2147483647) : fixByte n = if 255 < (n.natAbs : Int) / 1024 then 255 else (n.natAbs : Int) / 1024 := by
  unfold fixByte
  by_cases h0 : n < 0
  · rw [if_pos h0, wrap32_small (by omega) (by omega)]
    have : (n.natAbs : Int) = -n := by omega
    rw [this]
    split
    · rfl
    · exact Int.emod_eq_of_lt (by omega) (by omega)
  · rw [if_neg h0]
    have : (n.natAbs : Int) = n := by omega
    rw [this]
    split
    · rfl
    · exact Int.emod_eq_of_lt (by omega) (by omega)
theorem floByte_none {a : Nat} (ha : F32 a) (h : V a = 0) : floByte a = 0 := by
  obtain ⟨_, r, h1, h2, _⟩ := floByte_ok ha
  have hp := (fpart_ok ha).2
  rw [h] at hp
  have e0 : Flt.ab 0 = 0 := by decide
  rw [e0, if_neg (by decide)] at hp
  rw [hp] at h1
  have hv := h1.eq (n := 0) (q := 0) (by rw [p2_zero, cast_zero]; grind) (by decide) (by decide) (by decide)
  rw [h2, hv]
  have e1 : (16777215 : Rat) / 65536 * 0 = ((0 : Int) : Rat) := by rw [cast_zero]; exact Rat.mul_zero _
  rw [e1]
  exact truncR_int 0
theorem floByte_full {a : Nat} (ha : F32 a) (h : 1 ≤ Flt.ab (V a)) : floByte a = 255 := by
  obtain ⟨_, r, h1, h2, h3, h4⟩ := floByte_ok ha
  have hp : V (fpart a) = 1 := by
    rw [(fpart_ok ha).2]
    split
    · rfl
    · grind
  rw [hp, Rat.mul_one] at h1
  have hv := h1.eq (n := 16777215) (q := -16) (by rw [p2_m16]; push_cast; grind) (by decide) (by decide) (by decide)
  rw [h2, hv]
  obtain ⟨t1, t2, t3⟩ := truncR_pos_bd (x := (16777215 : Rat) / 65536) (by grind)
  have u1 : ((truncR ((16777215 : Rat) / 65536) : Int) : Rat) < ((256 : Int) : Rat) := by push_cast; grind
  have u2 : ((254 : Int) : Rat) < ((truncR ((16777215 : Rat) / 65536) : Int) : Rat) := by push_cast; grind
  have u3 := Rat.intCast_lt_intCast.1 u1
  have u4 := Rat.intCast_lt_intCast.1 u2
  omega
end Go.Proofs.Ytmgcbodlolnheaa
