/- Sums of additions over rows and over closed paths, as rational numbers. Vertical edges in 64ths: what they add, exactly, in either kind. Additions of floating numbers that are whole numbers of one place, not too many: everything is exact. Vertical edges in 64ths in floating numbers: what they add, exactly. Closed paths of vertical and horizontal edges: the sums that the masks are made of. The -/
import Derived.Test.YtmgcbodlolnheaaZ07
import Derived.Test.YtmgcbodlolnheaaRows
namespace Go.Proofs.Ytmgcbodlolnheaa
open Flt Go.RowKit
set_option linter.unusedVariables false
def sumR : List (Nat × Rat) -> Nat -> Rat
 | [], _ => 0
 | (k, v) :: t, p => (if k <= p then v else 0) + sumR t p
theorem sumR_append : ∀ (s t : List (Nat × Rat)) (p : Nat), sumR (s ++ t) p = sumR s p + sumR t p
 | [], _, _ => by simp only [List.nil_append, sumR]; grind
 | (k, v) :: s, t, p => by rw [List.cons_append, sumR, sumR_append s t, sumR]; grind
def totR : List (Nat × Rat) -> Rat
 | [] => 0
 | (_, v) :: t => v + totR t
theorem totR_append : ∀ (s t : List (Nat × Rat)), totR (s ++ t) = totR s + totR t
 | [], _ => by simp only [List.nil_append, totR]; grind
 | (k, v) :: s, t => by rw [List.cons_append, totR, totR_append s t, totR]; grind
theorem sumR_all : ∀ {s : List (Nat × Rat)} {p : Nat}, (∀ x ∈ s, x.1 <= p) -> sumR s p = totR s
 | [], _, _ => rfl
 | (k, v) :: s, p, h => by
  rw [sumR, totR, if_pos (h (k, v) (by simp)), sumR_all (fun x hx => h x (by simp [hx]))]
theorem sumR_none : ∀ {s : List (Nat × Rat)} {p : Nat}, (∀ x ∈ s, p < x.1) -> sumR s p = 0
 | [], _, _ => rfl
 | (k, v) :: s, p, h => by
  have h1 := h (k, v) (by simp)
  simp only at h1
  rw [sumR, if_neg (by omega), sumR_none (fun x hx => h x (by simp [hx]))]
  grind
def valL (s : List (Nat × Nat)) : List (Nat × Rat) := s.map fun x => (x.1, V x.2)
theorem valL_append (s t : List (Nat × Nat)) : valL (s ++ t) = valL s ++ valL t := by simp [valL]
def rowsR (f : Int -> Rat) : Int -> Nat -> Rat
 | _, 0 => 0
 | y, k + 1 => f y + rowsR f (y + 1) k
theorem rowsR_add (f : Int -> Rat) : ∀ (i : Nat) (y : Int) (j : Nat), rowsR f y (i + j) = rowsR f y i + rowsR f (y + i) j
 | 0, y, j => by
  have e : y + ((0 : Nat) : Int) = y := by omega
  rw [Nat.zero_add, e, rowsR]
  grind
 | i + 1, y, j => by
  have e : y + ((i + 1 : Nat) : Int) = y + 1 + (i : Int) := by omega
  rw [show i + 1 + j = (i + j) + 1 by omega, rowsR, rowsR_add f i (y + 1) j, rowsR, e]
  grind
theorem rowsR_zero {f : Int -> Rat} : ∀ {k : Nat} {y : Int}, (∀ r, y <= r -> r < y + k -> f r = 0) -> rowsR f y k = 0
 | 0, _, _ => rfl
 | k + 1, y, h => by
  rw [rowsR, h y (by omega) (by omega), rowsR_zero (fun r h1 h2 => h r (by omega) (by omega))]
  grind
theorem rowsR_congr {f g : Int -> Rat} : ∀ {k : Nat} {y : Int}, (∀ r, y <= r -> r < y + k -> f r = g r) -> rowsR f y k = rowsR g y k
 | 0, _, _ => rfl
 | k + 1, y, h => by
  rw [rowsR, rowsR, h y (by omega) (by omega), rowsR_congr (fun r h1 h2 => h r (by omega) (by omega))]
theorem rowsR_sup {f : Int -> Rat} {a a' : Int} {k k' : Nat} (h1 : a' <= a) (h2 : a + k <= a' + k') (z1 : ∀ r, a' <= r -> r < a -> f r = 0) (z2 : ∀ r, a + k <= r -> r < a' + k' -> f r = 0) : rowsR f a' k' = rowsR f a k := by
 obtain ⟨i, hi⟩ : ∃ i : Nat, a = a' + i := ⟨(a - a').toNat, by omega⟩
 obtain ⟨j, hj⟩ : ∃ j : Nat, k' = i + (k + j) := ⟨k' - i - k, by omega⟩
 subst hj
 rw [rowsR_add, rowsR_add, <- hi, rowsR_zero (f := f) (k := i) (fun r h3 h4 => z1 r h3 (by omega)), rowsR_zero (f := f) (k := j) (fun r h3 h4 => z2 r h3 (by push_cast; omega))]
 grind
theorem rowsR_same {f : Int -> Rat} {a b : Int} {k j : Nat} (z : ∀ r, ¬ (a <= r /\ r < a + k) -> f r = 0) (z' : ∀ r, ¬ (b <= r /\ r < b + j) -> f r = 0) : rowsR f a k = rowsR f b j := by
 obtain ⟨c, hc⟩ : ∃ c, c = if a <= b then a else b := ⟨_, rfl⟩
 obtain ⟨n, hn⟩ : ∃ n : Nat, n = ((if a + k <= b + j then b + j else a + k) - c).toNat := ⟨_, rfl⟩
 have e1 : rowsR f c n = rowsR f a k := rowsR_sup (by split at hc <;> omega) (by split at hc <;> split at hn <;> omega) (fun r h1 h2 => z r (by omega)) (fun r h1 h2 => z r (by omega))
 have e2 : rowsR f c n = rowsR f b j := rowsR_sup (by split at hc <;> omega) (by split at hc <;> split at hn <;> omega) (fun r h1 h2 => z' r (by omega)) (fun r h1 h2 => z' r (by omega))
 rw [<- e1, e2]
theorem rowsR_last (f : Int -> Rat) (Y : Nat) : rowsR f 0 (Y + 1) = rowsR f 0 Y + f Y := by
 rw [rowsR_add f Y 0 1, rowsR, rowsR]
 have e : (0 : Int) + (Y : Int) = Y := by omega
 rw [e]
 grind
def sumE {α : Type} (f : α -> Rat) : List α -> Rat
 | [] => 0
 | e :: t => f e + sumE f t
theorem sumE_append {α : Type} (f : α -> Rat) : ∀ (s t : List α), sumE f (s ++ t) = sumE f s + sumE f t
 | [], _ => by simp only [List.nil_append, sumE]; grind
 | e :: s, t => by rw [List.cons_append, sumE, sumE_append f s t, sumE]; grind
theorem sumE_add {α : Type} (f g : α -> Rat) : ∀ (s : List α), sumE (fun e => f e + g e) s = sumE f s + sumE g s
 | [] => by simp only [sumE]; grind
 | e :: s => by rw [sumE, sumE_add f g s, sumE, sumE]; grind
theorem sumE_mul {α : Type} (c : Rat) (f : α -> Rat) : ∀ (s : List α), sumE (fun e => c * f e) s = c * sumE f s
 | [] => by simp only [sumE]; grind
 | e :: s => by rw [sumE, sumE_mul c f s, sumE]; grind
theorem sumE_congr {α : Type} {f g : α -> Rat} : ∀ {s : List α}, (∀ e ∈ s, f e = g e) -> sumE f s = sumE g s
 | [], _ => rfl
 | e :: s, h => by rw [sumE, sumE, h e (by simp), sumE_congr (fun e he => h e (by simp [he]))]
theorem sumE_rows {α : Type} (f : α -> Int -> Rat) : ∀ (k : Nat) (y : Int) (s : List α), sumE (fun e => rowsR (f e) y k) s = rowsR (fun r => sumE (fun e => f e r) s) y k
 | 0, y, s => by
  simp only [rowsR]
  induction s with
  | nil => rfl
  | cons e s ih => rw [sumE, ih]; grind
 | k + 1, y, s => by
  simp only [rowsR]
  rw [sumE_add (fun e => f e y) (fun e => rowsR (f e) (y + 1) k), sumE_rows f k (y + 1) s]
def ph (r t : Int) : Int := imin (imax (t - 64 * r) 0) 64
def dph (r : Int) (e : Pt × Pt) : Int := ph r e.2.2 - ph r e.1.2
def zsum (f : Pt × Pt -> Int) (s : List (Pt × Pt)) : Int := (s.map f).sum
theorem dph_from (g : Int -> Int) : ∀ (t : List Pt) (first cur : Pt), zsum (fun e => g e.2.2 - g e.1.2) (edgesFrom first cur t) = g first.2 - g cur.2
 | [], first, cur => by simp [edgesFrom, zsum]
 | q :: t, first, cur => by
  have h := dph_from g t first q
  unfold zsum at h ⊢
  rw [edgesFrom, List.map_cons, List.sum_cons, h]
  simp only
  omega
theorem dph_edges (g : Int -> Int) (p : List Pt) : zsum (fun e => g e.2.2 - g e.1.2) (edges p) = 0 := by
 cases p with
 | nil => rfl
 | cons a t =>
  rw [edges, dph_from g t a a]
  omega
theorem zsum_sumE (f : Pt × Pt -> Int) : ∀ (s : List (Pt × Pt)), ((zsum f s : Int) : Rat) = sumE (fun e => ((f e : Int) : Rat)) s
 | [] => rfl
 | e :: s => by
  have h := zsum_sumE f s
  unfold zsum at h ⊢
  rw [List.map_cons, List.sum_cons, sumE, <- h]
  push_cast
  rfl
theorem edgesFrom_get (first : Pt) : ∀ (t : List Pt) (cur : Pt) (i : Nat), i < t.length + 1 -> (edgesFrom first cur t)[i]? = some ((cur :: t).getD i (0, 0), if i < t.length then t.getD i (0, 0) else first)
 | [], cur, i, h => by
  obtain rfl : i = 0 := by simpa using h
  rfl
 | q :: t, cur, 0, h => by simp [edgesFrom]
 | q :: t, cur, i + 1, h => by
  rw [edgesFrom, List.getElem?_cons_succ, edgesFrom_get first t q i (by simpa using h)]
  simp
theorem polyTo_edges (pts : List Pt) : polyTo pts pts.length = edges pts := by
 cases pts with
 | nil => rfl
 | cons p t =>
  apply List.ext_getElem?
  intro i
  by_cases hi : i < (p :: t).length
  ·rw [edges, edgesFrom_get p t p i (by simpa using hi)]
   unfold polyTo
   rw [List.getElem?_map, List.getElem?_range hi]
   simp only [Option.map_some, Option.some.injEq, Prod.mk.injEq, true_and]
   by_cases hit : i < t.length
   ·rw [if_pos hit, Nat.mod_eq_of_lt (by simp; omega)]
    simp
   ·have : i = t.length := by simp at hi; omega
    rw [if_neg hit, this]
    simp
  ·rw [List.getElem?_eq_none (by simp [polyTo] at hi ⊢; omega), List.getElem?_eq_none (by rw [length_edges]; omega)]
theorem stepOps_several (W : Nat) (H : Int) : ∀ (ps : List (List Pt)) (s : RS), (∀ p ∈ ps, p ≠ []) -> (stepOps W H (ps.flatMap pathOps) s).B = edgesB W H (ps.flatMap edges) s.B
 | [], s, _ => rfl
 | [] :: t, s, h => absurd rfl (h [] (by simp))
 | (a :: p) :: t, s, h => by
  rw [List.flatMap_cons, List.flatMap_cons, stepOps_append, edgesB_append, stepOps_several W H t _ (fun q hq => h q (by simp [hq])), path_run]
theorem stepsOk_several (W : Nat) (H : Int) : ∀ (ps : List (List Pt)) (s : RS), (∀ p ∈ ps, p ≠ []) -> (∀ p ∈ ps, Far p 262144) -> EdgesOk W H (ps.flatMap edges) s.B -> StepsOpOk W H (ps.flatMap pathOps) s
 | [], s, _, _, _ => trivial
 | [] :: t, s, h, _, _ => absurd rfl (h [] (by simp))
 | (a :: p) :: t, s, h, hf, hok => by
  rw [List.flatMap_cons, EdgesOk_append] at hok
  rw [List.flatMap_cons, StepsOpOk_append]
  refine ⟨path_run_ok W H a p s (fun q hq => atOk_of ?_ ?_) hok.1, stepsOk_several W H t _ (fun q hq => h q (by simp [hq])) (fun q hq => hf q (by simp [hq])) ?_⟩
  ·have := hf (a :: p) (by simp) q hq; omega
  ·have := hf (a :: p) (by simp) q hq; omega
  ·rw [path_run]
   exact hok.2
theorem mem_several {ps : List (List Pt)} {e : Pt × Pt} (h : e ∈ ps.flatMap edges) : ∃ p ∈ ps, e.1 ∈ p /\ e.2 ∈ p := by
 obtain ⟨p, hp, he⟩ := List.mem_flatMap.1 h
 exact ⟨p, hp, mem_edges he⟩
theorem maskR_several (mode : Bool) (W H : Nat) {ps : List (List Pt)} (hne : ∀ p ∈ ps, p ≠ []) : maskR mode W H (ps.flatMap pathOps) = maskOf (edgesB W H (ps.flatMap edges) (zeroB mode (W * H))) := by
 rw [maskR, stepOps_several W H ps _ hne]
 rfl
theorem maskR_floS (W H : Nat) {ps : List (List Pt)} (hne : ∀ p ∈ ps, p ≠ []) : maskR true W H (ps.flatMap pathOps) = floBytes 0 (fadds (edgesF W H (ps.flatMap edges)) (List.replicate (W * H) 0)) := by
 rw [maskR_several true W H hne, show zeroB true (W * H) = .flo (List.replicate (W * H) 0) from rfl, edgesB_flo]
 rfl
theorem maskROk_several (mode : Bool) (hm : mode = true) (W H : Nat) {ps : List (List Pt)} (hne : ∀ p ∈ ps, p ≠ []) (hf : ∀ p ∈ ps, Far p 262144) : MaskROk mode W H (ps.flatMap pathOps) := by
 have hs : ∀ e ∈ ps.flatMap edges, Small e.1 /\ Small e.2 := fun e he => by
  obtain ⟨p, hp, h1, h2⟩ := mem_several he
  exact ⟨hf p hp _ h1, hf p hp _ h2⟩
 cases mode
 ·simp at hm
 ·obtain ⟨a, b⟩ := edgesF_ok W H (ps.flatMap edges) (List.replicate (W * H) 0) (CellsBd.zero _) hs
  refine ⟨stepsOk_several W H ps _ hne hf a, ?_⟩
  rw [stepOps_several W H ps _ hne, show (startS true (W * H)).B = .flo (List.replicate (W * H) 0) from rfl, edgesB_flo]
  exact floBytes_ok _ 0 b (bd_zero _)
theorem len_several (W H : Nat) (mode : Bool) {ps : List (List Pt)} (hne : ∀ p ∈ ps, p ≠ []) : (maskR mode W H (ps.flatMap pathOps)).length = W * H := by
 rw [maskR_several mode W H hne, length_maskOf, len_edgesB]
 exact len_zeroB _ _
theorem ph_cases (r t : Int) : (t <= 64 * r /\ ph r t = 0) ∨ (64 * r <= t /\ t <= 64 * (r + 1) /\ ph r t = t - 64 * r) ∨ (64 * (r + 1) <= t /\ ph r t = 64) := by
 unfold ph imin imax
 by_cases h1 : 0 < t - 64 * r
 ·rw [if_pos h1]
  split <;> omega
 ·rw [if_neg h1]
  split <;> omega
theorem dph_bd (r : Int) (e : Pt × Pt) : -64 <= dph r e /\ dph r e <= 64 := by
 unfold dph
 have h1 := ph_cases r e.1.2
 have h2 := ph_cases r e.2.2
 omega
theorem clamp_le_iff {k : Int} {W X : Nat} (hX : X < W) : clampN k W <= X ↔ k <= X := by
 unfold clampN
 split
 ·omega
 ·split <;> omega
theorem rowsR_mul (c : Rat) (f : Int -> Rat) : ∀ (k : Nat) (y : Int), rowsR (fun r => c * f r) y k = c * rowsR f y k
 | 0, y => by simp only [rowsR]; grind
 | k + 1, y => by simp only [rowsR]; rw [rowsR_mul c f k (y + 1)]; grind
section
variable {q q' : Int} {a b : Nat} {m n : Int}
end
end Go.Proofs.Ytmgcbodlolnheaa
namespace Go.Proofs.Ytmgcbodlolnheaa
set_option linter.unusedVariables false
def cl (z : Rat) : Rat := if z <= 0 then 0 else if z <= 1 then z else 1
def kk (z : Rat) : Rat := if z <= 0 then 0 else if z <= 1 then z * z / 2 else z - 1 / 2
theorem cl_cases (z : Rat) : (z <= 0 /\ cl z = 0 /\ kk z = 0) ∨ (0 < z /\ z <= 1 /\ cl z = z /\ kk z = z * z / 2) ∨ (1 < z /\ cl z = 1 /\ kk z = z - 1 / 2) := by
 unfold cl kk
 by_cases h : z <= 0
 ·left; simp [h]
 ·by_cases h1 : z <= 1
  ·right; left; simp [h, h1]; grind
  ·right; right; simp [h, h1]; grind
theorem cl_bd (z : Rat) : 0 <= cl z /\ cl z <= 1 := by rcases cl_cases z with h | h | h <;> grind
theorem cl_mono {x y : Rat} (h : x <= y) : cl x <= cl y := by rcases cl_cases x with h | h | h <;> rcases cl_cases y with k | k | k <;> grind
theorem cl_lip {x y : Rat} (h : x <= y) : cl y - cl x <= y - x := by rcases cl_cases x with h | h | h <;> rcases cl_cases y with k | k | k <;> grind
theorem sq_nn (x : Rat) : 0 <= x * x := by
 rcases Rat.le_total (a := 0) (b := x) with h | h
 ·exact Rat.mul_nonneg h h
 ·have := Rat.mul_nonneg (a := -x) (b := -x) (by grind) (by grind)
  grind
theorem kk_tan (x y : Rat) : cl x * (y - x) <= kk y - kk x := by
 have h1 := sq_nn (y - x)
 have h2 := sq_nn (1 - x)
 have h3 := sq_nn y
 have h4 := sq_nn (y - 1)
 rcases cl_cases x with ⟨a, e1, e2⟩ | ⟨a, b, e1, e2⟩ | ⟨a, e1, e2⟩ <;> rcases cl_cases y with ⟨c, e3, e4⟩ | ⟨c, d, e3, e4⟩ | ⟨c, e3, e4⟩ <;> rw [e1, e2, e4]
 ·grind
 ·grind
 ·grind
 ·have := Rat.mul_nonneg (a := x) (b := -y) (by grind) (by grind); have := sq_nn x; grind
 ·grind
 ·have := Rat.mul_nonneg (a := 1 - x) (b := y - 1) (by grind) (by grind); grind
 ·grind
 ·grind
 ·grind
theorem kk_tan2 (x y : Rat) : kk y - kk x <= cl x * (y - x) + (y - x) * (y - x) / 2 := by
 have h1 := sq_nn (y - x)
 have h2 := sq_nn (1 - y)
 have h3 := sq_nn x
 have h4 := sq_nn (x - 1)
 have h5 := sq_nn y
 rcases cl_cases x with ⟨a, e1, e2⟩ | ⟨a, b, e1, e2⟩ | ⟨a, e1, e2⟩ <;> rcases cl_cases y with ⟨c, e3, e4⟩ | ⟨c, d, e3, e4⟩ | ⟨c, e3, e4⟩ <;> rw [e1, e2, e4]
 ·grind
 ·have := Rat.mul_nonneg (a := -x) (b := y) (by grind) (by grind); grind
 ·have := Rat.mul_nonneg (a := -x) (b := y - 1) (by grind) (by grind); grind
 ·grind
 ·grind
 ·grind
 ·have := Rat.mul_nonneg (a := x - 1) (b := -y) (by grind) (by grind); have := sq_nn y; grind
 ·have := Rat.mul_nonneg (a := x - 1) (b := 1 - y) (by grind) (by grind); grind
 ·grind
def mean (a b : Rat) : Rat := if a = b then cl a else (kk b - kk a) / (b - a)
theorem mean_mul (a b : Rat) : mean a b * (b - a) = kk b - kk a := by
 unfold mean
 by_cases h : a = b
 ·subst h; simp; grind
 ·rw [if_neg h]
  have : b - a ≠ 0 := by grind
  exact Rat.div_mul_cancel this
theorem mean_comm (a b : Rat) : mean a b = mean b a := by
 unfold mean
 by_cases h : a = b
 ·subst h; rfl
 ·rw [if_neg h, if_neg (fun e => h e.symm)]
  have : b - a ≠ 0 := by grind
  have : a - b ≠ 0 := by grind
  grind
theorem le_of_mul {x y z : Rat} (hz : 0 < z) (h : x * z <= y * z) : x <= y := Rat.le_of_mul_le_mul_right h hz
theorem lt_or_eq {a b : Rat} (h : a <= b) : a < b ∨ a = b := by
 by_cases e : a = b
 ·exact .inr e
 ·left; grind
theorem mean_between {a b : Rat} (h : a <= b) : cl a <= mean a b /\ mean a b <= cl b := by
 rcases lt_or_eq h with hlt | rfl
 ·have h0 := mean_mul a b
  have h1 := kk_tan a b
  have h2 := kk_tan b a
  have hp : 0 < b - a := by grind
  exact ⟨le_of_mul hp (by grind), le_of_mul hp (by grind)⟩
 ·have e : mean a a = cl a := by simp [mean]
  rw [e]; exact ⟨Rat.le_refl, Rat.le_refl⟩
theorem mean_bd (a b : Rat) : 0 <= mean a b /\ mean a b <= 1 := by
 have h1 := cl_bd a
 have h2 := cl_bd b
 rcases Rat.le_total (a := a) (b := b) with h | h
 ·have := mean_between h; grind
 ·have := mean_between h; rw [mean_comm]; grind
theorem mean_mono_r {a b b' : Rat} (h : b <= b') : mean a b <= mean a b' := by
 have m1 := mean_mul a b
 have m2 := mean_mul a b'
 have m3 := mean_mul b b'
 have c3 := mean_between h
 have := cl_mono h
 rcases Rat.le_total (a := a) (b := b) with k | k
 ·have c1 := mean_between k
  have c2 := mean_between (Rat.le_trans k h)
  by_cases e : b' = a
  ·have : b = a := by grind
   subst this; subst e; exact Rat.le_refl
  ·refine le_of_mul (z := b' - a) (by grind) ?_
   have q := Rat.mul_le_mul_of_nonneg_right (show mean a b <= mean b b' by grind) (show 0 <= b' - b by grind)
   grind
 ·rcases Rat.le_total (a := a) (b := b') with k2 | k2
  ·have c1 := mean_between k
   have c2 := mean_between k2
   rw [mean_comm a b]
   grind
  ·have c1 := mean_between k
   have c2 := mean_between k2
   by_cases e : b = a
   ·have : b' = a := by grind
    subst this; subst e; exact Rat.le_refl
   ·have e1 := mean_comm a b
    have e2 := mean_comm a b'
    refine le_of_mul (z := a - b) (by grind) ?_
    have q := Rat.mul_le_mul_of_nonneg_right (show mean b b' <= mean a b' by grind) (show 0 <= b' - b by grind)
    grind
theorem mean_mono {a b a' b' : Rat} (h : a <= a') (h' : b <= b') : mean a b <= mean a' b' := by
 have h1 := mean_mono_r (a := a) h'
 have h2 := mean_mono_r (a := b') h
 rw [mean_comm b' a, mean_comm b' a'] at h2
 exact Rat.le_trans h1 h2
theorem kk_inc {a b t : Rat} (h : a <= b) (ht : 0 <= t) : kk (b + t) - kk b - (kk (a + t) - kk a) <= t * (b - a) := by
 have tan (x y : Rat) : (x - cl x) * (y - x) <= (y * y / 2 - kk y) - (x * x / 2 - kk x) := by
  have := kk_tan2 x y
  grind
 have mono {x y : Rat} (h : x <= y) : x - cl x <= y - cl y := by have := cl_lip h; grind
 rcases Rat.le_total (a := a + t) (b := b) with k | k
 ·have h1 := tan b (b + t)
  have h2 := tan (a + t) a
  have h3 := Rat.mul_le_mul_of_nonneg_right (mono k) ht
  grind
 ·have h1 := tan (a + t) (b + t)
  have h2 := tan b a
  have h3 := Rat.mul_le_mul_of_nonneg_right (mono k) (show 0 <= b - a by grind)
  grind
theorem mean_shift {a b t : Rat} (ht : 0 <= t) : mean (a + t) (b + t) <= mean a b + t := by
 have key {a b : Rat} (h : a <= b) : mean (a + t) (b + t) <= mean a b + t := by
  rcases lt_or_eq h with hlt | rfl
  ·have m1 := mean_mul a b
   have m2 := mean_mul (a + t) (b + t)
   have k := kk_inc h ht
   exact le_of_mul (z := b - a) (by grind) (by grind)
  ·have e1 : mean a a = cl a := by simp [mean]
   have e2 : mean (a + t) (a + t) = cl (a + t) := by simp [mean]
   have := cl_lip (show a <= a + t by grind)
   grind
 rcases Rat.le_total (a := a) (b := b) with h | h
 ·exact key h
 ·rw [mean_comm, mean_comm a b]; exact key h
theorem mean_lip {a b a' b' t : Rat} (h1 : a' <= a + t) (h2 : b' <= b + t) (ht : 0 <= t) : mean a' b' <= mean a b + t := Rat.le_trans (mean_mono h1 h2) (mean_shift ht)
theorem mean_zero {a b : Rat} (h1 : a <= 0) (h2 : b <= 0) : mean a b = 0 := by
 have := mean_bd a b
 have := mean_mono h1 h2
 have e : mean 0 0 = 0 := by decide +kernel
 grind
theorem mean_one {a b : Rat} (h1 : 1 <= a) (h2 : 1 <= b) : mean a b = 1 := by
 have := mean_bd a b
 have := mean_mono h1 h2
 have e : mean 1 1 = 1 := by decide +kernel
 grind
theorem mean_self (a : Rat) : mean a a = cl a := by simp [mean]
theorem cl_id {a : Rat} (h0 : 0 <= a) (h1 : a <= 1) : cl a = a := by rcases cl_cases a with h | h | h <;> grind
theorem mean_mid {a b : Rat} (ha : 0 <= a) (ha1 : a <= 1) (hb : 0 <= b) (hb1 : b <= 1) : mean a b = (a + b) / 2 := by
 by_cases h : a = b
 ·subst h; rw [mean_self, cl_id ha ha1]; grind
 ·have m := mean_mul a b
  have ka : kk a = a * a / 2 := by rcases cl_cases a with h | h | h <;> grind
  have kb : kk b = b * b / 2 := by rcases cl_cases b with h | h | h <;> grind
  have hne : b - a ≠ 0 := by grind
  have e : mean a b * (b - a) = (a + b) / 2 * (b - a) := by rw [m, ka, kb]; grind
  have := congrArg (fun x => x / (b - a)) e
  simpa [Rat.mul_div_cancel, hne] using this
theorem mean_trap {a b v0 v1 t : Rat} (h0 : v0 <= t) (h0' : -t <= v0) (h1 : v1 <= 1 + t) (h1' : 1 - t <= v1) (k0 : (a <= v0 /\ b <= v0) ∨ (v0 <= a /\ v0 <= b)) (k1 : (a <= v1 /\ b <= v1) ∨ (v1 <= a /\ v1 <= b)) :
  mean a b <= (cl a + cl b) / 2 + t /\ (cl a + cl b) / 2 <= mean a b + t := by
 have ht : 0 <= t := by grind
 have ca := cl_bd a
 have cb := cl_bd b
 have mb := mean_bd a b
 rcases k0 with ⟨x, y⟩ | ⟨x, y⟩
 ·have := mean_lip (a := 0) (b := 0) (a' := a) (b' := b) (t := t) (by grind) (by grind) ht
  rw [mean_zero (a := 0) (b := 0) (by grind) (by grind)] at this
  have e1 : cl a <= t := by rcases cl_cases a with h | h | h <;> grind
  have e2 : cl b <= t := by rcases cl_cases b with h | h | h <;> grind
  constructor <;> grind
 ·rcases k1 with ⟨x1, y1⟩ | ⟨x1, y1⟩
  ·have g : mean (cl a) (cl b) = (cl a + cl b) / 2 := mean_mid ca.1 ca.2 cb.1 cb.2
   have e1 : cl a <= a + t /\ a <= cl a + t := by rcases cl_cases a with h | h | h <;> grind
   have e2 : cl b <= b + t /\ b <= cl b + t := by rcases cl_cases b with h | h | h <;> grind
   have l1 := mean_lip (a := a) (b := b) (a' := cl a) (b' := cl b) (t := t) (by grind) (by grind) ht
   have l2 := mean_lip (a := cl a) (b := cl b) (a' := a) (b' := b) (t := t) (by grind) (by grind) ht
   constructor <;> grind
  ·have := mean_lip (a := a) (b := b) (a' := 1) (b' := 1) (t := t) (by grind) (by grind) ht
   rw [mean_one (a := 1) (b := 1) (by grind) (by grind)] at this
   have e1 : 1 - t <= cl a := by rcases cl_cases a with h | h | h <;> grind
   have e2 : 1 - t <= cl b := by rcases cl_cases b with h | h | h <;> grind
   constructor <;> grind
theorem mean_join {u : Rat -> Rat} {c : Rat} (hu : ∀ x y, u x - u y = c * (y - x)) (p q r : Rat) : (q - p) * mean (u p) (u q) + (r - q) * mean (u q) (u r) = (r - p) * mean (u p) (u r) := by
 by_cases hc : c = 0
 ·have e1 : u q = u p := by have := hu q p; rw [hc] at this; grind
  have e2 : u r = u p := by have := hu r p; rw [hc] at this; grind
  rw [e1, e2]
  grind
 ·have m1 := mean_mul (u p) (u q)
  have m2 := mean_mul (u q) (u r)
  have m3 := mean_mul (u p) (u r)
  have h1 : u q - u p = -c * (q - p) := by have := hu p q; grind
  have h2 : u r - u q = -c * (r - q) := by have := hu q r; grind
  have h3 : u r - u p = -c * (r - p) := by have := hu p r; grind
  rw [h1] at m1
  rw [h2] at m2
  rw [h3] at m3
  have e : ((q - p) * mean (u p) (u q) + (r - q) * mean (u q) (u r)) * c = (r - p) * mean (u p) (u r) * c := by grind
  have := congrArg (fun x => x / c) e
  simpa [Rat.mul_div_cancel, hc] using this
theorem kk_step {a t : Rat} (ht : 0 <= t) : 0 <= kk (a + t) - kk a /\ kk (a + t) - kk a <= t := by
 have h1 := kk_tan a (a + t)
 have h2 := kk_tan (a + t) a
 have c1 := cl_bd a
 have c2 := cl_bd (a + t)
 have m1 := Rat.mul_le_mul_of_nonneg_right c1.1 ht
 have m2 := Rat.mul_le_mul_of_nonneg_right c2.2 ht
 constructor <;> grind
theorem mean_slip {a b t : Rat} (ht : 0 <= t) (h : a <= b) : (mean (a + t) (b + t) - mean a b) * (b - a) <= t /\ 0 <= mean (a + t) (b + t) - mean a b := by
 have m1 := mean_mul a b
 have m2 := mean_mul (a + t) (b + t)
 have k1 := kk_step (a := a) ht
 have k2 := kk_step (a := b) ht
 have e : b + t - (a + t) = b - a := by grind
 rw [e] at m2
 have := mean_mono (show a <= a + t by grind) (show b <= b + t by grind)
 constructor <;> grind
end Go.Proofs.Ytmgcbodlolnheaa
namespace Go.Proofs.Ytmgcbodlolnheaa
open Go.RowKit
set_option linter.unusedVariables false
theorem kk_low {z : Rat} (h : z <= 0) : kk z = 0 := by rcases cl_cases z with c | c | c <;> grind
theorem kk_mid {z : Rat} (h : 0 <= z) (h1 : z <= 1) : kk z = z * z / 2 := by rcases cl_cases z with c | c | c <;> grind
theorem kk_high {z : Rat} (h : 1 <= z) : kk z = z - 1 / 2 := by rcases cl_cases z with c | c | c <;> grind
theorem castLe {a b : Int} (h : a <= b) : (a : Rat) <= (b : Rat) := Rat.intCast_le_intCast.2 h
theorem castLt {a b : Int} (h : a < b) : (a : Rat) < (b : Rat) := Rat.intCast_lt_intCast.2 h
end Go.Proofs.Ytmgcbodlolnheaa
namespace Go.Proofs.Ytmgcbodlolnheaa
open Flt Go.RowKit
set_option linter.unusedVariables false
theorem ab_add_le (x y : Rat) : ab (x + y) <= ab x + ab y := by unfold Flt.ab; split <;> split <;> split <;> grind
theorem ab_sub_le (x y : Rat) : ab (x - y) <= ab x + ab y := by unfold Flt.ab; split <;> split <;> split <;> grind
theorem ab_iff {x y : Rat} : ab x <= y ↔ x <= y /\ -y <= x := ⟨fun h => ab_bounds h, fun h => ab_le h.1 (by grind)⟩
theorem ab_mul_le {x y a b : Rat} (hx : ab x <= a) (hy : ab y <= b) : ab (x * y) <= a * b := by
 rw [ab_mul]
 have h1 := ab_nonneg x
 have h2 := ab_nonneg y
 have h3 := Rat.mul_le_mul_of_nonneg_right hx h2
 have h4 := Rat.mul_le_mul_of_nonneg_left hy (Rat.le_trans h1 hx)
 exact Rat.le_trans h3 h4
def xE (m1 m2 m3 m4 : Int) (y : Rat) : Rat := m1 + slopeR m1 m2 m3 m4 * (y - m2)
def uE (m1 m2 m3 m4 : Int) (X : Nat) (y : Rat) : Rat := X + 1 - xE m1 m2 m3 m4 y / 64
def mE (X Y : Nat) (m1 m2 m3 m4 : Int) : Rat := mean (uE m1 m2 m3 m4 X ((64 * (Y : Int) + ph Y m2 : Int) : Rat)) (uE m1 m2 m3 m4 X ((64 * (Y : Int) + ph Y m4 : Int) : Rat))
def mEdge (X Y : Nat) (e : Pt × Pt) : Rat := if e.1.2 < e.2.2 then mE X Y e.1.1 e.1.2 e.2.1 e.2.2 else mE X Y e.2.1 e.2.2 e.1.1 e.1.2
def areaE (X Y : Nat) (e : Pt × Pt) : Rat := (dph Y e : Int) / 64 * mEdge X Y e
def areaR (es : List (Pt × Pt)) (X Y : Nat) : Rat := sumE (areaE X Y) es
section
variable {m1 m2 m3 m4 : Int}
end
def rowsE (e : Pt × Pt) : Int := (imax (e.1.2 - e.2.2) (e.2.2 - e.1.2) + 63) / 64 + 1
end Go.Proofs.Ytmgcbodlolnheaa
