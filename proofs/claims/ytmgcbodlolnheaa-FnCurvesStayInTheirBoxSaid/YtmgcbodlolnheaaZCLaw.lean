/-
  The sums of a mask that a closed chain of lines is drawn into, against the exact ones. No program is walked here.
  A pixel out of the box of a closed chain of lines: its sum stays under 1/256. No program is walked here.
  Square roots of float64, against numbers in halves; how many parts a curve has. No program is walked here.
  The points of curves within 128 pixels: in the box of their control points, near the curve, at increasing times. No program is walked here.
  The lines of a curve: how far they go in all, how often they turn, how high they are. No program is walked here.
  Quadratic and cubic curves within 128 pixels, control points in 64ths: their lines. No program is walked here.
  The plain law of FnCurvesStayInTheirBox: a mask of a closed path of at most four curves is 0 out of their box. No program is walked here.
-/
import Derived.Test.YtmgcbodlolnheaaZCLines
import Derived.Test.YtmgcbodlolnheaaZStrLaw
namespace Go.Proofs.Ytmgcbodlolnheaa
open Flt Go.RowKit
set_option linter.unusedVariables false

/-! ### lines of a chain -/
abbrev Ln := (Nat × Nat) × (Nat × Nat)
def linesOf : List (Nat × Nat) → Nat → Nat → List Ln
  | [], _, _ => []
  | (qx, qy) :: t, px, py => ((px, py), (qx, qy)) :: linesOf t qx qy
def adF (W : Nat) (H : Int) (e : Ln) : List (Nat × Nat) := floLine W H e.1.1 e.1.2 e.2.1 e.2.2
theorem polyF_lines (W : Nat) (H : Int) : ∀ (pts : List (Nat × Nat)) (px py : Nat), polyF W H pts px py = (linesOf pts px py).flatMap (adF W H)
  | [], _, _ => rfl
  | (qx, qy) :: t, px, py => by rw [polyF, linesOf, List.flatMap_cons, polyF_lines W H t]; rfl
theorem polyOk_lines (H : Int) : ∀ (pts : List (Nat × Nat)) (px py : Nat), (∀ e ∈ linesOf pts px py, FloOk H e.1.1 e.1.2 e.2.1 e.2.2) → PolyOk H pts px py
  | [], _, _, _ => trivial
  | (qx, qy) :: t, px, py, h => ⟨h ((px, py), (qx, qy)) (by simp [linesOf]), polyOk_lines H t qx qy fun e he => h e (by simp [linesOf, he])⟩
/-- How much of row r a line goes down. -/
def dL (r : Int) (e : Ln) : Rat := pr r (V e.2.2) - pr r (V e.1.2)
def gL (Y : Nat) (e : Ln) : Rat := GY Y (V e.2.2) - GY Y (V e.1.2)
def wL (e : Ln) : Rat := ab (V e.2.1 - V e.1.1)
def hL (e : Ln) : Rat := ab (V e.2.2 - V e.1.2)
theorem lines_pre (f : Rat → Rat) : ∀ (pts : List (Nat × Nat)) (px py : Nat) (pre t : List Ln), pre ++ t = linesOf pts px py → ∃ y, sumE (fun e => f (V e.2.2) - f (V e.1.2)) pre = f y - f (V py)
  | [], px, py, pre, t, h => by
    rw [linesOf, List.append_eq_nil_iff] at h
    rw [h.1]
    exact ⟨V py, by simp only [sumE]; grind⟩
  | (qx, qy) :: u, px, py, [], t, h => ⟨V py, by simp only [sumE]; grind⟩
  | (qx, qy) :: u, px, py, e :: pre, t, h => by
    rw [linesOf, List.cons_append] at h
    obtain ⟨h1, h2⟩ := List.cons.inj h
    obtain ⟨y, hy⟩ := lines_pre f u qx qy pre t h2
    exact ⟨y, by rw [sumE, hy, h1]; grind⟩
theorem lines_sum (f : Rat → Rat) : ∀ (pts : List (Nat × Nat)) (px py : Nat), sumE (fun e => f (V e.2.2) - f (V e.1.2)) (linesOf pts px py) = f (V (lastG pts px py).2) - f (V py)
  | [], px, py => by simp only [linesOf, sumE, lastG]; grind
  | (qx, qy) :: u, px, py => by rw [linesOf, sumE, lines_sum f u qx qy, lastG]; grind
theorem gL_rows (Y : Nat) (e : Ln) : ab (gL Y e) ≤ sumN (fun k => ab (dL ((k : Nat) : Int) e)) Y := by
  unfold gL GY dL
  rw [rowsR_nat, rowsR_nat]
  induction Y with
  | zero => simp only [sumN]; decide +kernel
  | succ Y ih =>
    simp only [sumN]
    have e1 : sumN (fun k => pr ((k : Nat) : Int) (V e.2.2)) Y + pr ((Y : Nat) : Int) (V e.2.2) - (sumN (fun k => pr ((k : Nat) : Int) (V e.1.2)) Y + pr ((Y : Nat) : Int) (V e.1.2)) =
      (sumN (fun k => pr ((k : Nat) : Int) (V e.2.2)) Y - sumN (fun k => pr ((k : Nat) : Int) (V e.1.2)) Y) + (pr ((Y : Nat) : Int) (V e.2.2) - pr ((Y : Nat) : Int) (V e.1.2)) := by grind
    rw [e1]
    have := ab_add_le (sumN (fun k => pr ((k : Nat) : Int) (V e.2.2)) Y - sumN (fun k => pr ((k : Nat) : Int) (V e.1.2)) Y) (pr ((Y : Nat) : Int) (V e.2.2) - pr ((Y : Nat) : Int) (V e.1.2))
    grind
theorem dL_bd (r : Int) (e : Ln) : ab (dL r e) ≤ 1 := by
  unfold dL
  have a := pr_bd r (V e.2.2)
  have b := pr_bd r (V e.1.2)
  exact ab_le (by grind) (by grind)
theorem gL_sum {es : List Ln} {S : Rat} (hS : ∀ r, sumE (fun e => ab (dL r e)) es ≤ S) (Y : Nat) : sumE (fun e => ab (gL Y e)) es ≤ Y * S := by
  refine Rat.le_trans (sumE_le fun e _ => gL_rows Y e) ?_
  rw [← sumN_sumE (fun e k => ab (dL ((k : Nat) : Int) e))]
  have := sumN_le (n := Y) (f := fun k => sumE (fun e => ab (dL ((k : Nat) : Int) e)) es) (g := fun _ => S) fun k _ => hS k
  rw [sumN_const] at this
  exact this

/-! ### a line's facts, its places chosen -/
structure LnP (W H : Nat) (κ : Ln → Rat) (P Q : Nat → Ln → Rat) (e : Ln) : Prop where
  bd : ∀ p ∈ adF W H e, Bd p.2 1
  κ0 : 0 ≤ κ e ∧ κ e ≤ 1 / 900000
  len : ((adF W H e).length : Rat) + κ e * 4194304 ≤ 2 * ab (gL H e) + wL e + (5 + 1 / 100)
  neg : ∃ σ : Rat, (σ = 1 ∨ σ = -1) ∧ absR (valL (adF W H e)) - σ * totR (valL (adF W H e)) ≤ 1 / 50
  side : ∀ Y, Y < H → SideC Y e.1.1 e.1.2 e.2.1 e.2.2 (P Y e) ∧ SideC Y e.1.1 e.1.2 e.2.1 e.2.2 (Q Y e)
  cum : ∀ X Y, X < W → Y < H → ab (sumR (valL (adF W H e)) (Y * W + X) - (gL Y e + dL Y e * mean ((X : Rat) + 1 - P Y e) ((X : Rat) + 1 - Q Y e))) ≤ ab (gL Y e) * (8 / 16777216) + ab (dL Y e) * (139 / 16777216) + κ e
theorem LnP.choose {W H : Nat} {es : List Ln} (h : ∀ e ∈ es, ∃ κ, LnC W H e.1.1 e.1.2 e.2.1 e.2.2 κ (adF W H e)) : ∃ κ P Q, ∀ e ∈ es, LnP W H κ P Q e := by
  have h1 : ∀ e : Ln, ∃ κ : Rat, e ∈ es → LnC W H e.1.1 e.1.2 e.2.1 e.2.2 κ (adF W H e) := fun e => by
    by_cases he : e ∈ es
    · obtain ⟨κ, k⟩ := h e he
      exact ⟨κ, fun _ => k⟩
    · exact ⟨0, fun hc => absurd hc he⟩
  obtain ⟨κ, hκ⟩ := Classical.skolem.1 h1
  have h2 : ∀ (Y : Nat) (e : Ln), ∃ pq : Rat × Rat, e ∈ es → Y < H → (SideC Y e.1.1 e.1.2 e.2.1 e.2.2 pq.1 ∧ SideC Y e.1.1 e.1.2 e.2.1 e.2.2 pq.2) ∧
      ∀ X, X < W → ab (sumR (valL (adF W H e)) (Y * W + X) - (gL Y e + dL Y e * mean ((X : Rat) + 1 - pq.1) ((X : Rat) + 1 - pq.2))) ≤ ab (gL Y e) * (8 / 16777216) + ab (dL Y e) * (139 / 16777216) + κ e := fun Y e => by
    by_cases he : e ∈ es ∧ Y < H
    · obtain ⟨p, q, s1, s2, s3⟩ := (hκ e he.1).cum Y he.2
      exact ⟨(p, q), fun _ _ => ⟨⟨s1, s2⟩, s3⟩⟩
    · exact ⟨(0, 0), fun a b => absurd ⟨a, b⟩ he⟩
  obtain ⟨pq, hpq⟩ := Classical.skolem.1 fun Y => Classical.skolem.1 (h2 Y)
  exact ⟨κ, fun Y e => (pq Y e).1, fun Y e => (pq Y e).2, fun e he => ⟨(hκ e he).bd, (hκ e he).κ0, (hκ e he).len, (hκ e he).neg, fun Y hY => (hpq Y e he hY).1, fun X Y hX hY => (hpq Y e he hY).2 X hX⟩⟩

/-! ### parts of a line's additions -/
theorem neg_nonneg {σ : Rat} (hσ : σ = 1 ∨ σ = -1) : ∀ s : List (Nat × Rat), 0 ≤ absR s - σ * totR s
  | [] => by simp only [absR, totR]; grind
  | (i, v) :: s => by
    have ih := neg_nonneg hσ s
    have a1 := le_ab v
    have a2 := neg_le_ab v
    simp only [absR, totR]
    rcases hσ with e | e <;> subst e <;> grind
theorem neg_cell {σ : Rat} (hσ : σ = 1 ∨ σ = -1) (c : Nat) : ∀ s : List (Nat × Rat), -(absR s - σ * totR s) ≤ σ * cellR s c
  | [] => by simp only [absR, totR, cellR]; grind
  | (i, v) :: s => by
    have ih := neg_cell hσ c s
    have a1 := le_ab v
    have a2 := neg_le_ab v
    have a3 := ab_nonneg v
    simp only [absR, totR, cellR]
    split <;> rcases hσ with e | e <;> subst e <;> grind
theorem part_cell {σ η x C : Rat} (hσ : σ = 1 ∨ σ = -1) {u v : List (Nat × Rat)} {c : Nat} (hn : absR (u ++ v) - σ * totR (u ++ v) ≤ η) (h1 : ab x ≤ C) (h2 : ab (x + cellR (u ++ v) c) ≤ C) : ab (x + cellR u c) ≤ C + η := by
  rw [absR_append, totR_append] at hn
  rw [cellR_append] at h2
  have n1 := neg_nonneg hσ u
  have n2 := neg_nonneg hσ v
  have c1 := neg_cell hσ c u
  have c2 := neg_cell hσ c v
  obtain ⟨a1, a2⟩ := ab_iff.1 h1
  obtain ⟨b1, b2⟩ := ab_iff.1 h2
  rcases hσ with e | e <;> subst e <;> exact ab_le (by grind) (by grind)
/-- A part of the additions of many lines ends within one line's. -/
theorem flat_part {α : Type} (f : α → List (Nat × Nat)) : ∀ (es : List α) (u v : List (Nat × Nat)), u ++ v = es.flatMap f → u = [] ∨ ∃ pre e t a b, pre ++ e :: t = es ∧ a ++ b = f e ∧ u = pre.flatMap f ++ a
  | [], u, v, h => by
    rw [List.flatMap_nil, List.append_eq_nil_iff] at h
    exact .inl h.1
  | e :: es, u, v, h => by
    rw [List.flatMap_cons] at h
    rcases List.append_eq_append_iff.1 h with ⟨a', h1, h2⟩ | ⟨c', h1, h2⟩
    · exact .inr ⟨[], e, es, u, a', rfl, h1.symm, by simp⟩
    · rcases flat_part f es c' v h2.symm with hc | ⟨pre, e2, t, a, b, k1, k2, k3⟩
      · refine .inr ⟨[], e, es, f e, [], rfl, by simp, ?_⟩
        rw [h1, hc]; simp
      · exact .inr ⟨e :: pre, e2, t, a, b, by rw [← k1]; rfl, k2, by rw [h1, k3, List.flatMap_cons, List.append_assoc]⟩

/-! ### contents -/
def mL (P Q : Nat → Ln → Rat) (X Y : Nat) (e : Ln) : Rat := mean ((X : Rat) + 1 - P Y e) ((X : Rat) + 1 - Q Y e)
theorem mL_bd (P Q : Nat → Ln → Rat) (X Y : Nat) (e : Ln) : 0 ≤ mL P Q X Y e ∧ mL P Q X Y e ≤ 1 := mean_bd _ _
theorem mL_mono (P Q : Nat → Ln → Rat) {X X' : Nat} (h : X ≤ X') (Y : Nat) (e : Ln) : mL P Q X Y e ≤ mL P Q X' Y e := by
  have : (X : Rat) ≤ X' := by exact_mod_cast h
  exact mean_mono (by grind) (by grind)
def fL (P Q : Nat → Ln → Rat) (X Y : Nat) (e : Ln) : Rat := if X = 0 then mL P Q 0 Y e else mL P Q X Y e - mL P Q (X - 1) Y e
def zL (P Q : Nat → Ln → Rat) (W X Y : Nat) (e : Ln) : Rat := if X = 0 ∧ 0 < Y then 1 - mL P Q (W - 1) (Y - 1) e else 0
theorem fL_bd (P Q : Nat → Ln → Rat) (X Y : Nat) (e : Ln) : 0 ≤ fL P Q X Y e ∧ fL P Q X Y e ≤ 1 := by
  unfold fL
  have a := mL_bd P Q X Y e
  have b := mL_bd P Q (X - 1) Y e
  have c := mL_mono P Q (show X - 1 ≤ X by omega) Y e
  split
  · exact mL_bd P Q 0 Y e
  · constructor <;> grind
theorem zL_bd (P Q : Nat → Ln → Rat) (W X Y : Nat) (e : Ln) : 0 ≤ zL P Q W X Y e ∧ zL P Q W X Y e ≤ 1 := by
  unfold zL
  have a := mL_bd P Q (W - 1) (Y - 1) e
  split <;> constructor <;> grind
theorem gL_next (Y : Nat) (e : Ln) : gL (Y + 1) e = gL Y e + dL Y e := by unfold gL dL GY; rw [rowsR_last, rowsR_last]; grind
section
variable {W H : Nat} {κ : Ln → Rat} {P Q : Nat → Ln → Rat} {es : List Ln} (hE : ∀ e ∈ es, LnP W H κ P Q e) (hH : H ≤ 64) (hW : 0 < W)
include hE hH
theorem err_ln {e : Ln} (he : e ∈ es) {Y : Nat} (hY : Y < H) : ab (gL Y e) * (8 / 16777216) + ab (dL Y e) * (139 / 16777216) + κ e ≤ 1 / 24000 := by
  have h1 := gL_rows Y e
  have h2 := sumN_le (n := Y) (f := fun k => ab (dL ((k : Nat) : Int) e)) (g := fun _ => 1) fun k _ => dL_bd _ e
  rw [sumN_const] at h2
  have h3 : (Y : Rat) ≤ 64 := by exact_mod_cast (show Y ≤ 64 by omega)
  have h4 := dL_bd Y e
  have h5 := (hE e he).κ0.2
  grind
include hW
theorem cell_ln {e : Ln} (he : e ∈ es) {X Y : Nat} (hX : X < W) (hY : Y < H) :
    ab (cellR (valL (adF W H e)) (Y * W + X) - (dL Y e * fL P Q X Y e + dL ((Y : Int) - 1) e * zL P Q W X Y e)) ≤ 1 / 12000 := by
  have hG := hE e he
  have c1 := hG.cum X Y hX hY
  have b1 := err_ln hE hH he hY
  have two : ∀ {a b x y E : Rat}, ab (a - x) ≤ E → ab (b - y) ≤ E → ab (a - b - (x - y)) ≤ 2 * E := fun {a b x y E} h1 h2 => by
    rw [show a - b - (x - y) = (a - x) - (b - y) by grind]
    have := ab_sub_le (a - x) (b - y)
    grind
  rw [cellR_diff]
  by_cases hX0 : X = 0
  · subst hX0
    by_cases hY0 : Y = 0
    · subst hY0
      unfold fL zL
      rw [if_pos (show 0 * W + 0 = 0 by omega), if_pos rfl, if_neg (by omega)]
      have g0 : gL 0 e = 0 := by unfold gL GY; simp only [rowsR]; grind
      rw [g0] at c1 b1
      unfold mL
      have e1 : sumR (valL (adF W H e)) (0 * W + 0) - 0 - (dL ((0 : Nat) : Int) e * mean (((0 : Nat) : Rat) + 1 - P 0 e) (((0 : Nat) : Rat) + 1 - Q 0 e) + dL (((0 : Nat) : Int) - 1) e * 0) = sumR (valL (adF W H e)) (0 * W + 0) - (0 + dL ((0 : Nat) : Int) e * mean (((0 : Nat) : Rat) + 1 - P 0 e) (((0 : Nat) : Rat) + 1 - Q 0 e)) := by grind
      rw [e1]
      grind
    · obtain ⟨y, rfl⟩ : ∃ y, Y = y + 1 := ⟨Y - 1, by omega⟩
      have c2 := hG.cum (W - 1) y (by omega) (by omega)
      have b2 := err_ln hE hH he (Y := y) (by omega)
      have hp : (y + 1) * W + 0 ≠ 0 := by
        have := Nat.mul_pos (show 0 < y + 1 by omega) hW
        omega
      rw [if_neg hp]
      have ep : (y + 1) * W + 0 - 1 = y * W + (W - 1) := by rw [Nat.add_mul]; omega
      rw [ep]
      unfold fL zL
      rw [if_pos rfl, if_pos ⟨rfl, by omega⟩]
      have ei : ((y + 1 : Nat) : Int) - 1 = (y : Int) := by omega
      have ey : y + 1 - 1 = y := by omega
      rw [ei, ey]
      have := two (E := 1 / 24000) (Rat.le_trans c1 b1) (Rat.le_trans c2 b2)
      rw [gL_next] at this
      unfold mL
      have e1 : gL y e + dL (y : Int) e + dL ((y + 1 : Nat) : Int) e * mean (((0 : Nat) : Rat) + 1 - P (y + 1) e) (((0 : Nat) : Rat) + 1 - Q (y + 1) e) - (gL y e + dL (y : Int) e * mean (((W - 1 : Nat) : Rat) + 1 - P y e) (((W - 1 : Nat) : Rat) + 1 - Q y e)) =
        dL ((y + 1 : Nat) : Int) e * mean (((0 : Nat) : Rat) + 1 - P (y + 1) e) (((0 : Nat) : Rat) + 1 - Q (y + 1) e) + dL (y : Int) e * (1 - mean (((W - 1 : Nat) : Rat) + 1 - P y e) (((W - 1 : Nat) : Rat) + 1 - Q y e)) := by grind
      rw [e1] at this
      grind
  · obtain ⟨x, rfl⟩ : ∃ x, X = x + 1 := ⟨X - 1, by omega⟩
    have c2 := hG.cum x Y (by omega) hY
    rw [if_neg (by omega), show Y * W + (x + 1) - 1 = Y * W + x by omega]
    unfold fL zL
    rw [if_neg (by omega), if_neg (by omega), show x + 1 - 1 = x by omega]
    have := two (E := 1 / 24000) (Rat.le_trans c1 b1) (Rat.le_trans c2 b1)
    unfold mL
    have e1 : gL Y e + dL Y e * mean (((x + 1 : Nat) : Rat) + 1 - P Y e) (((x + 1 : Nat) : Rat) + 1 - Q Y e) - (gL Y e + dL Y e * mean ((x : Rat) + 1 - P Y e) ((x : Rat) + 1 - Q Y e)) =
      dL Y e * (mean (((x + 1 : Nat) : Rat) + 1 - P Y e) (((x + 1 : Nat) : Rat) + 1 - Q Y e) - mean ((x : Rat) + 1 - P Y e) ((x : Rat) + 1 - Q Y e)) + dL ((Y : Int) - 1) e * 0 := by grind
    rw [e1] at this
    grind
omit hE hH hW in
theorem cell_flat (f : Ln → List (Nat × Nat)) (p : Nat) : ∀ (es : List Ln), cellR (valL (es.flatMap f)) p = sumE (fun e => cellR (valL (f e)) p) es
  | [] => rfl
  | e :: t => by rw [List.flatMap_cons, valL_append, cellR_append, cell_flat f p t, sumE]
/-- What is in a cell behind some lines: S is what all go down or up in a row. -/
theorem contentC {pre : List Ln} (hpre : ∀ e ∈ pre, e ∈ es) (hn : pre.length ≤ 150) (hwin : ∀ r, ab (sumE (dL r) pre) ≤ 1) {S : Rat} (hS : ∀ r, sumE (fun e => ab (dL r e)) pre ≤ S) {X Y : Nat} (hX : X < W) (hY : Y < H) :
    ab (cellR (valL (pre.flatMap (adF W H))) (Y * W + X)) ≤ S + 1 + 1 / 80 ∧
    (∀ δ : Rat, 0 ≤ δ → (∀ e ∈ pre, zL P Q W X Y e ≤ δ) ∨ (∀ e ∈ pre, fL P Q X Y e ≤ δ) → ab (cellR (valL (pre.flatMap (adF W H))) (Y * W + X)) ≤ (S + 1) / 2 + S * δ + 1 / 80) := by
  rw [cell_flat]
  have n1 := sumE_near2 (s := pre) (f := fun e => cellR (valL (adF W H e)) (Y * W + X)) (g := fun e => dL Y e * fL P Q X Y e + dL ((Y : Int) - 1) e * zL P Q W X Y e) (δ := fun _ => 1 / 12000) fun e he => cell_ln hE hH hW (hpre e he) hX hY
  rw [sumE_const, sumE_add] at n1
  have hnr : (pre.length : Rat) ≤ 150 := by exact_mod_cast hn
  have w1 := window (D := dL Y) (f := fL P Q X Y) (s := pre) (fun e he => fL_bd P Q X Y e) (hwin Y)
  have w2 := window (D := dL ((Y : Int) - 1)) (f := zL P Q W X Y) (s := pre) (fun e he => zL_bd P Q W X Y e) (hwin ((Y : Int) - 1))
  have s1 := hS Y
  have s2 := hS ((Y : Int) - 1)
  have tiny : ∀ (D f : Ln → Rat) (δ : Rat), 0 ≤ δ → (∀ e ∈ pre, 0 ≤ f e ∧ f e ≤ δ) → sumE (fun e => ab (D e)) pre ≤ S → ab (sumE (fun e => D e * f e) pre) ≤ S * δ := by
    intro D f δ h0 hf hD
    refine Rat.le_trans (sumE_ab (g := fun e => δ * ab (D e)) fun e he => ?_) ?_
    · obtain ⟨a, b⟩ := hf e he
      have := ab_mul_le (x := D e) (y := f e) (a := ab (D e)) (b := δ) Rat.le_refl (by rw [ab_of_nonneg a]; exact b)
      grind
    · rw [sumE_mul]
      have := Rat.mul_le_mul_of_nonneg_left hD h0
      grind
  have t1 := tiny (dL Y) (fL P Q X Y)
  have t2 := tiny (dL ((Y : Int) - 1)) (zL P Q W X Y)
  generalize sumE (fun e => cellR (valL (adF W H e)) (Y * W + X)) pre = C at *
  generalize sumE (fun e => dL Y e * fL P Q X Y e) pre = A1 at *
  generalize sumE (fun e => dL ((Y : Int) - 1) e * zL P Q W X Y e) pre = A2 at *
  have e1 : C = (C - (A1 + A2)) + (A1 + A2) := by grind
  have k1 := ab_add_le (C - (A1 + A2)) (A1 + A2)
  have k2 := ab_add_le A1 A2
  rw [← e1] at k1
  refine ⟨by grind, fun δ hδ ho => ?_⟩
  rcases ho with ho | ho
  · have := t2 δ hδ (fun e he => ⟨(zL_bd P Q W X Y e).1, ho e he⟩) s2
    grind
  · have := t1 δ hδ (fun e he => ⟨(fL_bd P Q X Y e).1, ho e he⟩) s1
    grind
omit hE hH hW in
theorem len_flat (f : Ln → List (Nat × Nat)) : ∀ (es : List Ln), ((es.flatMap f).length : Rat) = sumE (fun e => ((f e).length : Rat)) es
  | [] => by simp [sumE]
  | e :: t => by rw [List.flatMap_cons, List.length_append, sumE, ← len_flat f t]; push_cast; rfl
omit hE hH hW in
theorem sum_flat (f : Ln → List (Nat × Nat)) (p : Nat) : ∀ (es : List Ln), sumR (valL (es.flatMap f)) p = sumE (fun e => sumR (valL (f e)) p) es
  | [] => rfl
  | e :: t => by rw [List.flatMap_cons, valL_append, sumR_append, sum_flat f p t, sumE]
/-- What all lines' additions cost: each a half unit; S is what they go down or up in a row, TV their width in all. -/
theorem chain_acc {pts : List (Nat × Nat)} {px py : Nat} (hes : es = linesOf pts px py) (hcl : V (lastG pts px py).2 = V py) (hn : es.length ≤ 150) {S TV : Rat} (hS : ∀ r, sumE (fun e => ab (dL r e)) es ≤ S) (hS1 : S ≤ 131 / 10) (hTV : sumE wL es ≤ TV) (hTV1 : TV ≤ 2300)
    {lv : Int} (hlv : lv = 4 ∨ (lv = 3 ∧ ((∀ e ∈ es, ∀ Y, 0 < Y → Y < H → 1 - mL P Q (W - 1) (Y - 1) e ≤ 1 / 1000) ∨ (∀ e ∈ es, ∀ Y, Y < H → mL P Q 0 Y e ≤ 1 / 1000)))) {X Y : Nat} (hX : X < W) (hY : Y < H) :
    ∃ a, (floBytes 0 (fadds (es.flatMap (adF W H)) (List.replicate (W * H) 0)))[Y * W + X]? = some (floByte a) ∧ F32 a ∧
      ab (V a - sumE (fun e => dL Y e * mL P Q X Y e) es) ≤ p2 (lv - 25) * (2 * (H * S) + TV + es.length * (501 / 100)) + (H * S) * (8 / 16777216) + S * (139 / 16777216) := by
  have hnr : (es.length : Rat) ≤ 150 := by exact_mod_cast hn
  have hHr : (H : Rat) ≤ 64 := by exact_mod_cast hH
  have hH0 : (0 : Rat) ≤ H := by exact_mod_cast Nat.zero_le H
  have hS0 : 0 ≤ S := Rat.le_trans (by
    have := sumE_le (s := es) (f := fun _ => (0 : Rat)) (g := fun e => ab (dL 0 e)) fun e _ => ab_nonneg _
    rw [sumE_const] at this
    grind) (hS 0)
  have hHS : (H : Rat) * S ≤ 64 * (131 / 10) := by
    have m1 := Rat.mul_le_mul_of_nonneg_right hHr hS0
    grind
  have hHS0 := Rat.mul_nonneg hH0 hS0
  have hpre : ∀ pre t, pre ++ t = es → ∀ r, ab (sumE (dL r) pre) ≤ 1 := by
    intro pre t h r
    rw [hes] at h
    obtain ⟨y, hy⟩ := lines_pre (pr r) pts px py pre t h
    have e1 : sumE (dL r) pre = pr r y - pr r (V py) := by rw [← hy]; rfl
    rw [e1]
    have a := pr_bd r y
    have b := pr_bd r (V py)
    exact ab_le (by grind) (by grind)
  have hall : ∀ f : Rat → Rat, sumE (fun e => f (V e.2.2) - f (V e.1.2)) es = 0 := by
    intro f
    rw [hes, lines_sum f, hcl]
    grind
  have hsub : ∀ pre t, pre ++ t = es → ∀ r, sumE (fun e => ab (dL r e)) pre ≤ S := by
    intro pre t h r
    have h1 := hS r
    rw [← h, sumE_append] at h1
    have h2 := sumE_le (s := t) (f := fun _ => (0 : Rat)) (g := fun e => ab (dL r e)) fun e _ => ab_nonneg _
    rw [sumE_const] at h2
    grind
  -- lengths
  obtain ⟨L, hL⟩ : ∃ L, L = es.flatMap (adF W H) := ⟨_, rfl⟩
  have hlenS : (L.length : Rat) + 4194304 * sumE κ es ≤ 2 * (H * S) + TV + es.length * (501 / 100) := by
    rw [hL, len_flat, ← sumE_mul, ← sumE_add]
    refine Rat.le_trans (sumE_le (g := fun e => 2 * ab (gL H e) + (wL e + 501 / 100)) fun e he => by
      have := (hE e he).len
      grind) ?_
    rw [sumE_add, sumE_mul, sumE_add, sumE_const]
    have := gL_sum hS H
    grind
  have hκ0 : 0 ≤ sumE κ es := by
    have := sumE_le (s := es) (f := fun _ => (0 : Rat)) (g := κ) fun e he => (hE e he).κ0.1
    rw [sumE_const] at this
    grind
  have hLr : (L.length : Rat) ≤ 5000 := by grind
  have hL0 : (0 : Rat) ≤ L.length := by exact_mod_cast Nat.zero_le _
  have hpv : p2 (lv - 25) = (if lv = 4 then 8 else 4) / 16777216 := by
    rcases hlv with e | ⟨e, _⟩ <;> subst e
    · rw [p2_lev.2.2]; decide +kernel
    · rw [p2_lev.2.1]; decide +kernel
  have hpb : 4 / 16777216 ≤ p2 (lv - 25) ∧ p2 (lv - 25) ≤ 8 / 16777216 := by rw [hpv]; split <;> constructor <;> decide +kernel
  have hLp := Rat.mul_le_mul_of_nonneg_left hpb.2 hL0
  have hLp2 : (L.length : Rat) * (8 / 16777216) ≤ 1 / 100 := by grind
  obtain ⟨C, hCd⟩ : ∃ C : Rat, C = if lv = 4 then 71 / 5 else 15 / 2 := ⟨_, rfl⟩
  have hC1 : C ≤ 1000 := by rw [hCd]; split <;> decide +kernel
  have hC7 : 15 / 2 ≤ C := by rw [hCd]; split <;> decide +kernel
  have hlev : C + 1 / 100 ≤ p2 lv := by
    rcases hlv with e | ⟨e, _⟩ <;> subst e
    · rw [hCd, if_pos rfl]
      have := p2_val 4
      have e16 : p2 4 = 16 := by simpa using this
      rw [e16]; decide +kernel
    · rw [hCd, if_neg (by decide)]
      have := p2_val 3
      have e8 : p2 3 = 8 := by simpa using this
      rw [e8]; decide +kernel
  -- a cell behind whole lines
  have hcell : ∀ pre t, pre ++ t = es → ∀ k, k < W * H → ab (cellR (valL (pre.flatMap (adF W H))) k) ≤ C - 1 / 50 := by
    intro pre t h k hk
    have hkH : k / W < H := by
      rw [Nat.div_lt_iff_lt_mul hW, Nat.mul_comm]
      exact hk
    have h2 : k / W * W + k % W = k := by rw [Nat.mul_comm]; exact Nat.div_add_mod k W
    have hl : pre.length ≤ 150 := by
      have : es.length = pre.length + t.length := by rw [← h, List.length_append]
      omega
    obtain ⟨k1, k2⟩ := contentC hE hH hW (pre := pre) (fun e he => by rw [← h]; exact List.mem_append_left _ he) hl (hpre pre t h) (hsub pre t h) (X := k % W) (Y := k / W) (Nat.mod_lt _ hW) hkH
    rw [h2] at k1 k2
    rcases hlv with e | ⟨e, ho⟩ <;> subst e
    · rw [hCd, if_pos rfl]
      grind
    · rw [hCd, if_neg (by decide)]
      have := k2 (1 / 1000) (by decide +kernel) (by
        rcases ho with ho | ho
        · left
          intro e he
          unfold zL
          split
          · rename_i hc
            exact ho e (by rw [← h]; exact List.mem_append_left _ he) _ hc.2 hkH
          · decide +kernel
        · by_cases hX0 : k % W = 0
          · right
            intro e he
            unfold fL
            rw [if_pos hX0]
            exact ho e (by rw [← h]; exact List.mem_append_left _ he) _ hkH
          · left
            intro e he
            unfold zL
            rw [if_neg (fun hc => hX0 hc.1)]
            decide +kernel)
      grind
  have hparts : ∀ u v, u ++ v = L → ∀ k, k < W * H → ab (cellR (valL u) k) ≤ C := by
    intro u v huv k hk
    rw [hL] at huv
    rcases flat_part (adF W H) es u v huv with hu | ⟨pre, e, t, a, b, k1, k2, k3⟩
    · rw [hu]
      have : cellR (valL []) k = 0 := rfl
      rw [this]
      have : ab (0 : Rat) = 0 := by decide +kernel
      grind
    · have heg : e ∈ es := by rw [← k1]; simp
      obtain ⟨σ, hσ, hneg⟩ := (hE e heg).neg
      have c1 := hcell pre (e :: t) k1 k hk
      have c2 := hcell (pre ++ [e]) t (by rw [← k1]; simp) k hk
      have ev : valL (adF W H e) = valL a ++ valL b := by rw [← k2, valL_append]
      have e2 : valL ((pre ++ [e]).flatMap (adF W H)) = valL (pre.flatMap (adF W H)) ++ (valL a ++ valL b) := by rw [List.flatMap_append, valL_append, ← ev]; simp
      rw [ev] at hneg
      rw [e2, cellR_append] at c2
      rw [k3, valL_append, cellR_append]
      have := part_cell hσ hneg c1 c2
      grind
  -- the running sums
  have hsum : ∀ X Y : Nat, X < W → Y < H → ab (sumR (valL L) (Y * W + X) - sumE (fun e => dL Y e * mL P Q X Y e) es) ≤ (H * S) * (8 / 16777216) + S * (139 / 16777216) + sumE κ es := by
    intro X Y hX hY
    rw [hL, sum_flat]
    have n1 := sumE_near2 (s := es) (f := fun e => sumR (valL (adF W H e)) (Y * W + X)) (g := fun e => gL Y e + dL Y e * mL P Q X Y e) (δ := fun e => 8 / 16777216 * ab (gL Y e) + (139 / 16777216 * ab (dL Y e) + κ e)) fun e he => by
      have := (hE e he).cum X Y hX hY
      unfold mL
      grind
    rw [sumE_add, sumE_add, sumE_mul, sumE_add, sumE_mul] at n1
    have z : sumE (fun e => gL Y e) es = 0 := hall (GY Y)
    rw [z] at n1
    have g1 := gL_sum hS Y
    have hYr : (Y : Rat) ≤ H := by exact_mod_cast (show Y ≤ H by omega)
    have g2 := Rat.mul_le_mul_of_nonneg_right hYr hS0
    have g3 := hS Y
    have e1 : (0 : Rat) + sumE (fun e => dL Y e * mL P Q X Y e) es = sumE (fun e => dL Y e * mL P Q X Y e) es := by grind
    rw [e1] at n1
    grind
  have hrun : ∀ p, p < W * H → ab (sumR (valL L) p) ≤ C := by
    intro p hp
    have hkH : p / W < H := by
      rw [Nat.div_lt_iff_lt_mul hW, Nat.mul_comm]
      exact hp
    have h2 : p / W * W + p % W = p := by rw [Nat.mul_comm]; exact Nat.div_add_mod p W
    have k1 := hsum (p % W) (p / W) (Nat.mod_lt _ hW) hkH
    rw [h2] at k1
    have w1 := window (D := dL ((p / W : Nat) : Int)) (f := mL P Q (p % W) (p / W)) (s := es) (fun e he => mL_bd P Q _ _ e) (hpre es [] (by simp) _)
    have s1 := hS ((p / W : Nat) : Int)
    have hκ1 : sumE κ es ≤ 1 / 1000 := by
      have := sumE_le (s := es) (f := κ) (g := fun _ => 1 / 900000) fun e he => (hE e he).κ0.2
      rw [sumE_const] at this
      grind
    generalize sumE (fun e => dL ((p / W : Nat) : Int) e * mL P Q (p % W) (p / W) e) es = A at *
    have e1 : sumR (valL L) p = (sumR (valL L) p - A) + A := by grind
    have k2 := ab_add_le (sumR (valL L) p - A) A
    rw [← e1] at k2
    grind
  have hp : Y * W + X < W * H := by
    have h1 : (Y + 1) * W ≤ H * W := Nat.mul_le_mul_right W hY
    rw [Nat.add_mul, Nat.one_mul, Nat.mul_comm H W] at h1
    omega
  obtain ⟨a, a1, a2, a3⟩ := mask_touch (L := L) (N := W * H) (C := C) (e := lv) (by rcases hlv with e | ⟨e, _⟩ <;> omega) (by rcases hlv with e | ⟨e, _⟩ <;> omega) hC1 (fun p hp => by
    rw [hL] at hp
    obtain ⟨e, he, hpe⟩ := List.mem_flatMap.1 hp
    exact ((hE e he).bd p hpe).mono (by decide)) (by grind) (by grind) hparts hrun hp
  refine ⟨a, by rw [← hL]; exact a1, a2, ?_⟩
  have k1 := hsum X Y hX hY
  have e1 : V a - sumE (fun e => dL Y e * mL P Q X Y e) es = (V a - sumR (valL L) (Y * W + X)) + (sumR (valL L) (Y * W + X) - sumE (fun e => dL Y e * mL P Q X Y e) es) := by grind
  rw [e1]
  have k2 := ab_add_le (V a - sumR (valL L) (Y * W + X)) (sumR (valL L) (Y * W + X) - sumE (fun e => dL Y e * mL P Q X Y e) es)
  have k3 := Rat.mul_le_mul_of_nonneg_left hlenS (show 0 ≤ p2 (lv - 25) by grind)
  have k4 := Rat.mul_le_mul_of_nonneg_right hpb.1 hκ0
  generalize p2 (lv - 25) * (2 * (H * S) + TV + es.length * (501 / 100)) = Z at *
  have e3 : p2 (lv - 25) * (L.length + 4194304 * sumE κ es) = L.length * p2 (lv - 25) + 4194304 * (p2 (lv - 25) * sumE κ es) := by grind
  rw [e3] at k3
  grind
end
end Go.Proofs.Ytmgcbodlolnheaa

namespace Go.Proofs.Ytmgcbodlolnheaa
open Flt Go.RowKit
set_option linter.unusedVariables false

theorem window2 {α : Type} {D f : α → Rat} {s : List α} (hf : ∀ e ∈ s, 0 ≤ f e ∧ f e ≤ 1) : ab (sumE (fun e => D e * f e) s) ≤ (sumE (fun e => ab (D e)) s + ab (sumE D s)) / 2 := by
  have h1 : sumE (fun e => D e * f e) s = sumE (fun e => D e * (f e - 1 / 2)) s + 1 / 2 * sumE D s := by
    rw [← sumE_mul, ← sumE_add]
    exact sumE_congr fun e _ => by grind
  have h2 : ab (sumE (fun e => D e * (f e - 1 / 2)) s) ≤ sumE (fun e => 1 / 2 * ab (D e)) s := sumE_ab fun e he => by
    obtain ⟨a, b⟩ := hf e he
    have := ab_mul_le (x := D e) (y := f e - 1 / 2) Rat.le_refl (ab_le (y := 1 / 2) (by grind) (by grind))
    grind
  rw [sumE_mul] at h2
  have h3 := ab_add_le (sumE (fun e => D e * (f e - 1 / 2)) s) (1 / 2 * sumE D s)
  rw [← h1, ab_mul (1 / 2), ab_of_nonneg (x := (1 / 2 : Rat)) (by decide +kernel)] at h3
  grind
/-- How far a low line may go beyond a side, and how far any. -/
def bsC : Rat := 3650 / 16777216
def blC : Rat := 13440 / 16777216
section
variable {W H : Nat} {κ : Ln → Rat} {P Q : Nat → Ln → Rat} {e : Ln} (hE : LnP W H κ P Q e) (hH : H ≤ 64)
include hE hH
theorem loss_n {Y : Nat} (hY : Y < H) (hw : wL e ≤ 191) : ∃ n : Nat, n ≤ 192 ∧ (n : Rat) ≤ hL e + 2 ∧ ∀ X : Nat, X ≤ 64 →
    (V e.1.1 ≤ X → V e.2.1 ≤ X → 1 - mL P Q X Y e ≤ 1146 / 16777216 + n * kC) ∧ ((X : Rat) + 1 ≤ V e.1.1 → (X : Rat) + 1 ≤ V e.2.1 → mL P Q X Y e ≤ 1146 / 16777216 + n * kC) := by
  obtain ⟨⟨n1, a1, a2, a3⟩, ⟨n2, b1, b2, b3⟩⟩ := hE.side Y hY
  have hk : (0 : Rat) ≤ kC := by decide +kernel
  have hw' : ab (V e.2.1 - V e.1.1) ≤ 191 := hw
  have main : ∀ n : Nat, n1 ≤ n → n2 ≤ n → ∀ X : Nat, X ≤ 64 →
    (V e.1.1 ≤ X → V e.2.1 ≤ X → 1 - mL P Q X Y e ≤ 1146 / 16777216 + n * kC) ∧ ((X : Rat) + 1 ≤ V e.1.1 → (X : Rat) + 1 ≤ V e.2.1 → mL P Q X Y e ≤ 1146 / 16777216 + n * kC) := by
    intro n h1 h2 X hX
    have m1 := Rat.mul_le_mul_of_nonneg_right (show (n1 : Rat) ≤ n by exact_mod_cast h1) hk
    have m2 := Rat.mul_le_mul_of_nonneg_right (show (n2 : Rat) ≤ n by exact_mod_cast h2) hk
    have hn0 : (0 : Rat) ≤ n := by exact_mod_cast Nat.zero_le n
    have m3 := Rat.mul_nonneg hn0 hk
    have hXr : (X : Rat) ≤ 64 := by exact_mod_cast hX
    have hX0 : (0 : Rat) ≤ X := by exact_mod_cast Nat.zero_le X
    generalize (n : Rat) * kC = z at *
    generalize (n1 : Rat) * kC = z1 at *
    generalize (n2 : Rat) * kC = z2 at *
    refine ⟨fun u v => ?_, fun u v => ?_⟩
    · have p := (a3 X (by grind) (by grind)).1 u v
      have q := (b3 X (by grind) (by grind)).1 u v
      have := mean_lip (a := (X : Rat) + 1 - P Y e) (b := (X : Rat) + 1 - Q Y e) (a' := 1) (b' := 1) (t := 1146 / 16777216 + z) (by grind) (by grind) (by grind)
      rw [mean_one Rat.le_refl Rat.le_refl] at this
      unfold mL
      grind
    · have p := (a3 (X + 1) (by grind) (by grind)).2 u v
      have q := (b3 (X + 1) (by grind) (by grind)).2 u v
      have := mean_lip (a := 0) (b := 0) (a' := (X : Rat) + 1 - P Y e) (b' := (X : Rat) + 1 - Q Y e) (t := 1146 / 16777216 + z) (by grind) (by grind) (by grind)
      rw [mean_zero Rat.le_refl Rat.le_refl] at this
      unfold mL
      grind
  rcases Nat.le_total n1 n2 with c | c
  · exact ⟨n2, by omega, b2, main n2 c (Nat.le_refl _)⟩
  · exact ⟨n1, by omega, a2, main n1 (Nat.le_refl _) c⟩
/-- What a line loses beyond a side. -/
theorem loss_bd {Y : Nat} (hY : Y < H) (hw : wL e ≤ 191) : ∃ b : Rat, b ≤ blC ∧ (hL e ≤ 371 / 10 → b ≤ bsC) ∧ ∀ X : Nat, X ≤ 64 →
    (V e.1.1 ≤ X → V e.2.1 ≤ X → 1 - mL P Q X Y e ≤ b) ∧ ((X : Rat) + 1 ≤ V e.1.1 → (X : Rat) + 1 ≤ V e.2.1 → mL P Q X Y e ≤ b) := by
  obtain ⟨n, h1, h2, h3⟩ := loss_n hE hH hY hw
  refine ⟨1146 / 16777216 + n * kC, ?_, fun hl => ?_, h3⟩
  · have : (n : Rat) ≤ 192 := by exact_mod_cast h1
    unfold kC blC
    grind
  · have : n ≤ 39 := by
      have : (n : Rat) < ((40 : Nat) : Rat) := by push_cast; grind
      have := Rat.natCast_lt_natCast.1 this
      omega
    have : (n : Rat) ≤ 39 := by exact_mod_cast this
    unfold kC bsC
    grind
end

/-! ### chains of curves -/
theorem sumE_flat {α β : Type} (f : β → Rat) (g : α → List β) : ∀ (s : List α), sumE f (s.flatMap g) = sumE (fun a => sumE f (g a)) s
  | [] => rfl
  | a :: s => by rw [List.flatMap_cons, sumE_append, sumE, sumE_flat f g s]
theorem sumE_filter {α : Type} (f : α → Rat) (p : α → Bool) : ∀ (s : List α), sumE f s = sumE f (s.filter p) + sumE f (s.filter fun a => !p a)
  | [] => by simp only [List.filter_nil, sumE]; grind
  | a :: s => by
    have ih := sumE_filter f p s
    by_cases h : p a = true
    · rw [List.filter_cons_of_pos h, List.filter_cons_of_neg (by simp [h]), sumE, sumE, ih]; grind
    · rw [List.filter_cons_of_neg h, List.filter_cons_of_pos (by simp [h]), sumE, sumE, ih]; grind
/-- The lines of a curve: b tells that it goes one way only. -/
structure Cv (b : Bool) (l : List Ln) : Prop where
  tv : ∀ r, sumE (fun e => ab (dL r e)) l ≤ if b then 1015 / 1000 else 3015 / 1000
  net : ∀ r, ab (sumE (dL r) l) ≤ 1
  low : b = false → ∀ e ∈ l, hL e ≤ 371 / 10
section
variable {cs : List (Bool × List Ln)} (hc : ∀ c ∈ cs, Cv c.1 c.2)
include hc
/-- What all go down or up in a row. -/
theorem cs_tv (r : Int) : sumE (fun e => ab (dL r e)) (cs.flatMap (·.2)) ≤ 1015 / 1000 * ((cs.filter (·.1)).length : Rat) + 3015 / 1000 * ((cs.filter fun c => !c.1).length : Rat) ∧
    sumE (fun e => ab (dL r e)) ((cs.filter (·.1)).flatMap (·.2)) ≤ 1015 / 1000 * ((cs.filter (·.1)).length : Rat) ∧ ab (sumE (dL r) ((cs.filter fun c => !c.1).flatMap (·.2))) ≤ ((cs.filter fun c => !c.1).length : Rat) := by
  rw [sumE_flat, sumE_filter _ (·.1), sumE_flat, sumE_flat]
  have h1 := sumE_le (s := cs.filter (·.1)) (f := fun c => sumE (fun e => ab (dL r e)) c.2) (g := fun _ => 1015 / 1000) fun c h => by
    rw [List.mem_filter] at h
    have := (hc c h.1).tv r
    rw [h.2, if_pos rfl] at this
    exact this
  have h2 := sumE_le (s := cs.filter fun c => !c.1) (f := fun c => sumE (fun e => ab (dL r e)) c.2) (g := fun _ => 3015 / 1000) fun c h => by
    rw [List.mem_filter] at h
    have := (hc c h.1).tv r
    have h3 : c.1 = false := by simpa using h.2
    rw [h3] at this
    exact this
  have h3 := sumE_ab (s := cs.filter fun c => !c.1) (f := fun c => sumE (dL r) c.2) (g := fun _ => 1) fun c h => by
    rw [List.mem_filter] at h
    exact (hc c h.1).net r
  rw [sumE_const] at h1 h2 h3
  exact ⟨by grind, by grind, by grind⟩
/-- One way's lines alone lose. -/
theorem cs_loss {r : Int} (hz : sumE (dL r) (cs.flatMap (·.2)) = 0) {loss : Ln → Rat} (h0 : ∀ e ∈ cs.flatMap (·.2), 0 ≤ loss e) (h1 : ∀ e ∈ cs.flatMap (·.2), ∃ b, loss e ≤ b ∧ b ≤ blC ∧ (hL e ≤ 371 / 10 → b ≤ bsC)) :
    ab (sumE (fun e => dL r e * loss e) (cs.flatMap (·.2))) ≤ bsC * (sumE (fun e => ab (dL r e)) (cs.flatMap (·.2)) / 2) + (blC - bsC) * ((sumE (fun e => ab (dL r e)) ((cs.filter (·.1)).flatMap (·.2)) + ab (sumE (dL r) ((cs.filter (·.1)).flatMap (·.2)))) / 2) := by
  have hb : 0 < bsC := by decide +kernel
  have hd : 0 < blC - bsC := by decide +kernel
  obtain ⟨f1, hf1⟩ : ∃ f1 : Ln → Rat, f1 = fun e => if loss e ≤ bsC then loss e / bsC else 1 := ⟨_, rfl⟩
  obtain ⟨f2, hf2⟩ : ∃ f2 : Ln → Rat, f2 = fun e => if loss e ≤ bsC then 0 else (loss e - bsC) / (blC - bsC) := ⟨_, rfl⟩
  have split : ∀ e, loss e = bsC * f1 e + (blC - bsC) * f2 e := by
    intro e
    rw [hf1, hf2]
    simp only
    split
    · rw [Rat.mul_comm bsC, Rat.div_mul_cancel (by grind)]; grind
    · rw [Rat.mul_comm (blC - bsC), Rat.div_mul_cancel (by grind)]; grind
  have div01 : ∀ x m : Rat, 0 < m → 0 ≤ x → x ≤ m → 0 ≤ x / m ∧ x / m ≤ 1 := by
    intro x m hm hx hxm
    have e : x / m * m = x := Rat.div_mul_cancel (by grind)
    constructor
    · refine Rat.le_of_mul_le_mul_right (c := m) ?_ hm
      rw [e]; grind
    · refine Rat.le_of_mul_le_mul_right (c := m) ?_ hm
      rw [e]; grind
  have b1 : ∀ e ∈ cs.flatMap (·.2), 0 ≤ f1 e ∧ f1 e ≤ 1 := by
    intro e he
    rw [hf1]
    simp only
    split
    · exact div01 _ _ hb (h0 e he) (by assumption)
    · exact ⟨by decide, by decide⟩
  have b2 : ∀ e ∈ cs.flatMap (·.2), 0 ≤ f2 e ∧ f2 e ≤ 1 := by
    intro e he
    obtain ⟨b, k1, k2, _⟩ := h1 e he
    rw [hf2]
    simp only
    split
    · exact ⟨by decide, by decide⟩
    · exact div01 _ _ hd (by grind) (by grind)
  have e1 : sumE (fun e => dL r e * loss e) (cs.flatMap (·.2)) = bsC * sumE (fun e => dL r e * f1 e) (cs.flatMap (·.2)) + (blC - bsC) * sumE (fun e => dL r e * f2 e) (cs.flatMap (·.2)) := by
    rw [← sumE_mul, ← sumE_mul, ← sumE_add]
    exact sumE_congr fun e _ => by rw [split e]; grind
  have e2 : sumE (fun e => dL r e * f2 e) (cs.flatMap (·.2)) = sumE (fun e => dL r e * f2 e) ((cs.filter (·.1)).flatMap (·.2)) := by
    rw [sumE_flat, sumE_flat, sumE_filter _ (·.1)]
    have z : sumE (fun c => sumE (fun e => dL r e * f2 e) c.2) (cs.filter fun c => !c.1) = sumE (fun _ => 0) (cs.filter fun c => !c.1) := sumE_congr fun c h => by
      rw [List.mem_filter] at h
      have h3 : c.1 = false := by simpa using h.2
      have z2 : sumE (fun e => dL r e * f2 e) c.2 = sumE (fun _ => 0) c.2 := sumE_congr fun e he => by
        obtain ⟨b, k1, _, k3⟩ := h1 e (List.mem_flatMap.2 ⟨c, h.1, he⟩)
        have := k3 ((hc c h.1).low h3 e he)
        rw [hf2]
        simp only
        rw [if_pos (by grind)]
        grind
      rw [z2, sumE_const]
      grind
    rw [z, sumE_const]
    grind
  have w1 := window2 (D := dL r) b1
  have w2 := window2 (D := dL r) (f := f2) (s := (cs.filter (·.1)).flatMap (·.2)) fun e he => by
    obtain ⟨c, hcm, hec⟩ := List.mem_flatMap.1 he
    exact b2 e (List.mem_flatMap.2 ⟨c, (List.mem_filter.1 hcm).1, hec⟩)
  rw [hz] at w1
  have a0 : ab (0 : Rat) = 0 := by decide +kernel
  rw [a0, Rat.add_zero] at w1
  rw [e1]
  have k1 := ab_add_le (bsC * sumE (fun e => dL r e * f1 e) (cs.flatMap (·.2))) ((blC - bsC) * sumE (fun e => dL r e * f2 e) (cs.flatMap (·.2)))
  rw [ab_mul bsC, ab_mul (blC - bsC), ab_of_nonneg (x := bsC) (Rat.le_of_lt hb), ab_of_nonneg (x := blC - bsC) (Rat.le_of_lt hd)] at k1
  rw [← e2] at w2
  have m1 := Rat.mul_le_mul_of_nonneg_left w1 (Rat.le_of_lt hb)
  have m2 := Rat.mul_le_mul_of_nonneg_left w2 (Rat.le_of_lt hd)
  grind
end
/-- The count: a long curves, s others, at most five. -/
theorem count_x {a s : Nat} (ha : 1 ≤ a) (has : a + s ≤ 5) {T D N TV Z hs : Rat} (hT : T ≤ 1015 / 1000 * (a : Rat) + 3015 / 1000 * (s : Rat)) (hT0 : 0 ≤ T) (hD : D ≤ 1015 / 1000 * (a : Rat)) (hN : N ≤ (s : Rat)) (hN2 : N ≤ D) (hTV : TV ≤ 1640)
    (hhs : hs ≤ 64 * T) (hZ : Z ≤ 4 / 16777216 * (2 * hs + TV + 145 * (501 / 100)) + hs * (8 / 16777216) + T * (139 / 16777216) + (bsC * (T / 2) + (blC - bsC) * ((D + N) / 2))) : Z ≤ 64000 / 16777216 := by
  unfold bsC blC at hZ
  have hs' : s ≤ 5 - a := by omega
  rcases (by omega : a = 1 ∨ a = 2 ∨ a = 3 ∨ a = 4 ∨ a = 5) with e | e | e | e | e <;> subst e
  · have : (s : Rat) ≤ 4 := by exact_mod_cast hs'
    push_cast at hT hD
    grind
  · have : (s : Rat) ≤ 3 := by exact_mod_cast hs'
    push_cast at hT hD
    grind
  · have : (s : Rat) ≤ 2 := by exact_mod_cast hs'
    push_cast at hT hD
    grind
  · have : (s : Rat) ≤ 1 := by exact_mod_cast hs'
    push_cast at hT hD
    grind
  · have : (s : Rat) ≤ 0 := by exact_mod_cast hs'
    push_cast at hT hD
    grind
section
variable {W H : Nat} {κ : Ln → Rat} {P Q : Nat → Ln → Rat} {cs : List (Bool × List Ln)} {pts : List (Nat × Nat)} {px py : Nat} (hE : ∀ e ∈ linesOf pts px py, LnP W H κ P Q e) (hH : H ≤ 64) (hW : 0 < W) (hW2 : W ≤ 64)
  (hcs : cs.flatMap (·.2) = linesOf pts px py) (hc : ∀ c ∈ cs, Cv c.1 c.2) (ha : 1 ≤ (cs.filter (·.1)).length) (has : (cs.filter (·.1)).length + (cs.filter fun c => !c.1).length ≤ 5)
  (hcl : V (lastG pts px py).2 = V py) (hn : (linesOf pts px py).length ≤ 145)
include hE hH hW hcs hc ha has hcl hn
omit hE hH hW hcl hn in
theorem cs_S (r : Int) : sumE (fun e => ab (dL r e)) (linesOf pts px py) ≤ 131 / 10 := by
  have h := (cs_tv hc r).1
  rw [hcs] at h
  have h1 : ((cs.filter (·.1)).length : Rat) + ((cs.filter fun c => !c.1).length : Rat) ≤ 5 := by exact_mod_cast has
  have h2 : (1 : Rat) ≤ ((cs.filter (·.1)).length : Rat) := by exact_mod_cast ha
  grind
/-- A pixel above or below all of it. -/
theorem box_y (hTV : sumE wL (linesOf pts px py) ≤ 2200) {X Y : Nat} (hX : X < W) (hY : Y < H) (ho : (∀ e ∈ linesOf pts px py, V e.1.2 ≤ Y ∧ V e.2.2 ≤ Y) ∨ (∀ e ∈ linesOf pts px py, (Y : Rat) + 1 ≤ V e.1.2 ∧ (Y : Rat) + 1 ≤ V e.2.2)) :
    ∃ a, (floBytes 0 (fadds ((linesOf pts px py).flatMap (adF W H)) (List.replicate (W * H) 0)))[Y * W + X]? = some (floByte a) ∧ F32 a ∧ ab (V a) ≤ 64000 / 16777216 := by
  obtain ⟨a, a1, a2, a3⟩ := chain_acc hE hH hW rfl hcl (by omega) (S := 131 / 10) (cs_S hcs hc ha has) Rat.le_refl hTV (by decide +kernel) (lv := 4) (.inl rfl) hX hY
  refine ⟨a, a1, a2, ?_⟩
  have z : sumE (fun e => dL Y e * mL P Q X Y e) (linesOf pts px py) = 0 := by
    have e1 : sumE (fun e => dL Y e * mL P Q X Y e) (linesOf pts px py) = sumE (fun _ => 0) (linesOf pts px py) := sumE_congr fun e he => by
      have : dL Y e = 0 := by
        unfold dL
        have b1 := pr_cases (Y : Int) (V e.2.2)
        have b2 := pr_cases (Y : Int) (V e.1.2)
        have eY : (((Y : Nat) : Int) : Rat) = (Y : Rat) := by push_cast; rfl
        rw [eY] at b1 b2
        rcases ho with ho | ho
        · have := ho e he; grind
        · have := ho e he; grind
      rw [this]; grind
    rw [e1, sumE_const]; grind
  rw [z] at a3
  have e0 : V a - 0 = V a := by grind
  rw [e0] at a3
  have hHr : (H : Rat) ≤ 64 := by exact_mod_cast hH
  have hnr : ((linesOf pts px py).length : Rat) ≤ 145 := by exact_mod_cast hn
  have e4 : p2 (4 - 25) = 8 * (1 / 16777216) := p2_lev.2.2
  rw [e4] at a3
  grind
include hW2
/-- A pixel right or left of all of it. -/
theorem box_x (hTV : sumE wL (linesOf pts px py) ≤ 1640) (hw : ∀ e ∈ linesOf pts px py, wL e ≤ 191) {X Y : Nat} (hX : X < W) (hY : Y < H)
    (ho : (∀ e ∈ linesOf pts px py, V e.1.1 ≤ X ∧ V e.2.1 ≤ X) ∨ (∀ e ∈ linesOf pts px py, (X : Rat) + 1 ≤ V e.1.1 ∧ (X : Rat) + 1 ≤ V e.2.1)) :
    ∃ a, (floBytes 0 (fadds ((linesOf pts px py).flatMap (adF W H)) (List.replicate (W * H) 0)))[Y * W + X]? = some (floByte a) ∧ F32 a ∧ ab (V a) ≤ 64000 / 16777216 := by
  have hXr : (X : Rat) + 1 ≤ W := by exact_mod_cast hX
  have hX0 : (0 : Rat) ≤ X := by exact_mod_cast Nat.zero_le X
  have hb1000 : blC ≤ 1 / 1000 := by decide +kernel
  -- what all lines go in a row
  obtain ⟨S, hSd⟩ : ∃ S : Rat, S = 1015 / 1000 * ((cs.filter (·.1)).length : Rat) + 3015 / 1000 * ((cs.filter fun c => !c.1).length : Rat) := ⟨_, rfl⟩
  have hS : ∀ r, sumE (fun e => ab (dL r e)) (linesOf pts px py) ≤ S := fun r => by
    have h := (cs_tv hc r).1
    rw [hcs] at h
    rw [hSd]
    exact h
  have h1 : ((cs.filter (·.1)).length : Rat) + ((cs.filter fun c => !c.1).length : Rat) ≤ 5 := by exact_mod_cast has
  have h2 : (1 : Rat) ≤ ((cs.filter (·.1)).length : Rat) := by exact_mod_cast ha
  have h3 : (0 : Rat) ≤ ((cs.filter fun c => !c.1).length : Rat) := by exact_mod_cast Nat.zero_le _
  obtain ⟨a, a1, a2, a3⟩ := chain_acc hE hH hW rfl hcl (by omega) (S := S) hS (by grind) hTV (by decide +kernel) (lv := 3) (.inr ⟨rfl, by
    rcases ho with ho | ho
    · refine .inl fun e he Z hZ0 hZ => ?_
      obtain ⟨b, b1, _, b3⟩ := loss_bd (hE e he) hH (Y := Z - 1) (by omega) (hw e he)
      have hW1 : (X : Rat) ≤ ((W - 1 : Nat) : Rat) := by exact_mod_cast (show X ≤ W - 1 by omega)
      have := (b3 (W - 1) (by omega)).1 (by have := (ho e he).1; grind) (by have := (ho e he).2; grind)
      grind
    · refine .inr fun e he Z hZ => ?_
      obtain ⟨b, b1, _, b3⟩ := loss_bd (hE e he) hH (Y := Z) hZ (hw e he)
      have := (b3 0 (by omega)).2 (by have := (ho e he).1; push_cast; grind) (by have := (ho e he).2; push_cast; grind)
      grind⟩) hX hY
  refine ⟨a, a1, a2, ?_⟩
  have hz : ∀ r, sumE (dL r) (cs.flatMap (·.2)) = 0 := fun r => by
    have := lines_sum (pr r) pts px py
    rw [hcl] at this
    rw [hcs]
    have e1 : sumE (dL r) (linesOf pts px py) = pr r (V py) - pr r (V py) := by rw [← this]; rfl
    rw [e1]
    grind
  -- the loss
  have hloss : ab (sumE (fun e => dL Y e * mL P Q X Y e) (linesOf pts px py)) ≤ bsC * (S / 2) + (blC - bsC) * ((sumE (fun e => ab (dL Y e)) ((cs.filter (·.1)).flatMap (·.2)) + ab (sumE (dL Y) ((cs.filter (·.1)).flatMap (·.2)))) / 2) := by
    have hbs : 0 ≤ bsC := by decide +kernel
    have m1 := Rat.mul_le_mul_of_nonneg_left (show sumE (fun e => ab (dL Y e)) (cs.flatMap (·.2)) / 2 ≤ S / 2 by
      rw [hcs]
      have := hS Y
      grind) hbs
    rcases ho with ho | ho
    · have k := cs_loss hc (hz Y) (loss := fun e => 1 - mL P Q X Y e) (fun e he => by have := (mL_bd P Q X Y e).2; grind) (fun e he => by
        rw [hcs] at he
        obtain ⟨b, b1, b2, b3⟩ := loss_bd (hE e he) hH (Y := Y) hY (hw e he)
        exact ⟨b, (b3 X (by omega)).1 (ho e he).1 (ho e he).2, b1, b2⟩)
      have e1 : sumE (fun e => dL Y e * (1 - mL P Q X Y e)) (cs.flatMap (·.2)) = -sumE (fun e => dL Y e * mL P Q X Y e) (linesOf pts px py) := by
        have e2 : sumE (fun e => dL Y e * (1 - mL P Q X Y e) + dL Y e * mL P Q X Y e) (cs.flatMap (·.2)) = 0 := by
          rw [← hz Y]
          exact sumE_congr fun e _ => by grind
        rw [sumE_add, hcs] at e2
        rw [hcs]
        grind
      rw [e1, ab_neg] at k
      grind
    · have k := cs_loss hc (hz Y) (loss := fun e => mL P Q X Y e) (fun e he => (mL_bd P Q X Y e).1) (fun e he => by
        rw [hcs] at he
        obtain ⟨b, b1, b2, b3⟩ := loss_bd (hE e he) hH (Y := Y) hY (hw e he)
        exact ⟨b, (b3 X (by omega)).2 (ho e he).1 (ho e he).2, b1, b2⟩)
      rw [hcs] at k
      rw [hcs] at m1
      grind
  have hnr : ((linesOf pts px py).length : Rat) ≤ 145 := by exact_mod_cast hn
  have hHr : (H : Rat) ≤ 64 := by exact_mod_cast hH
  have hS0 : 0 ≤ S := by rw [hSd]; grind
  obtain ⟨_, t2, t3⟩ := cs_tv hc (Y : Int)
  have e3 : p2 (3 - 25) = 4 * (1 / 16777216) := p2_lev.2.1
  rw [e3] at a3
  have hD0 : ab (sumE (dL Y) ((cs.filter (·.1)).flatMap (·.2))) ≤ sumE (fun e => ab (dL Y e)) ((cs.filter (·.1)).flatMap (·.2)) := sumE_ab fun e _ => Rat.le_refl
  have hDN : ab (sumE (dL Y) ((cs.filter (·.1)).flatMap (·.2))) = ab (sumE (dL Y) ((cs.filter fun c => !c.1).flatMap (·.2))) := by
    have := hz Y
    rw [sumE_flat, sumE_filter _ (·.1), ← sumE_flat, ← sumE_flat] at this
    have e5 : sumE (dL Y) ((cs.filter (·.1)).flatMap (·.2)) = -sumE (dL Y) ((cs.filter fun c => !c.1).flatMap (·.2)) := by grind
    rw [e5, ab_neg]
  refine count_x (T := S) (hs := H * S) (TV := 1640) ha has (by rw [hSd]; exact Rat.le_refl) hS0 t2 (by rw [hDN]; exact t3) hD0 Rat.le_refl (Rat.mul_le_mul_of_nonneg_right hHr hS0) ?_
  have k := ab_add_le (V a - sumE (fun e => dL Y e * mL P Q X Y e) (linesOf pts px py)) (sumE (fun e => dL Y e * mL P Q X Y e) (linesOf pts px py))
  have e6 : V a - sumE (fun e => dL Y e * mL P Q X Y e) (linesOf pts px py) + sumE (fun e => dL Y e * mL P Q X Y e) (linesOf pts px py) = V a := by grind
  rw [e6] at k
  grind
end
end Go.Proofs.Ytmgcbodlolnheaa

namespace Go.Proofs.Ytmgcbodlolnheaa
open Flt Go.RowKit
set_option linter.unusedVariables false

theorem rootFrom_hi (n : Nat) : ∀ (todo root : Nat), n < (root + 2 ^ todo) * (root + 2 ^ todo) → n < (Ieee.Datum.rootFrom n todo root + 1) * (Ieee.Datum.rootFrom n todo root + 1)
  | 0, root, h => by rw [Ieee.Datum.rootFrom]; simpa using h
  | todo + 1, root, h => by
    rw [Ieee.Datum.rootFrom]
    have e : 1 <<< todo = 2 ^ todo := by rw [Nat.shiftLeft_eq, Nat.one_mul]
    have hp : 2 ^ (todo + 1) = 2 ^ todo + 2 ^ todo := by rw [Nat.pow_succ]; omega
    simp only [e]
    split
    · rename_i hc
      refine rootFrom_hi n todo _ ?_
      rw [hp] at h
      have e2 : root + (2 ^ todo + 2 ^ todo) = root + 2 ^ todo + 2 ^ todo := by omega
      rwa [e2] at h
    · rename_i hc
      exact rootFrom_hi n todo root (by omega)
/-- The root against a number in halves. -/
theorem sqrt_half {a : Nat} (ha : F64 a) (h0 : 0 ≤ VV a) (hX : VV a ≤ p2 40) {k : Nat} (hk : k ≤ 1000000) :
    (VV a ≤ ((k : Rat) / 2) * ((k : Rat) / 2) → VV (fsqrt a) ≤ (k : Rat) / 2) ∧ (((k : Rat) / 2) * ((k : Rat) / 2) ≤ VV a → (k : Rat) / 2 ≤ VV (fsqrt a)) := by
  obtain ⟨s, m, i, ea⟩ := ha
  have hv : VV a = sgn s * m * p2 i := by show dval (Ieee.double.read a) = _; rw [ea]; rfl
  have hk0 : (0 : Rat) ≤ k := by exact_mod_cast Nat.zero_le k
  have hdec : FloatKind.f64.format.sqrt a = ((Ieee.Datum.number s m i).root (Ieee.double.fractionBits + 2)).map Ieee.double.write := by
    show Ieee.double.sqrt a = _
    unfold Ieee.Format.sqrt
    rw [ea]
  by_cases hm : m = 0
  · subst hm
    have hr : (Ieee.Datum.number s 0 i).root (Ieee.double.fractionBits + 2) = some (.number s 0 i) := by simp [Ieee.Datum.root]
    rw [hr] at hdec
    have hz : dval (.number s 0 i) = 0 := by simp [dval]
    have hb : Flt.ab (dval (.number s 0 i)) ≤ p2 (big Ieee.double) := by
      rw [hz]
      have := p2_pos (big Ieee.double)
      have e : Flt.ab 0 = 0 := by decide
      grind
    have hw := write_rounds' good_double s 0 i hb
    rw [hz] at hw
    have hrep : Rep Ieee.double 0 := ⟨0, 0, by simp, by decide, by decide, by decide⟩
    have hx := hw.exact hrep
    have hf : VV (fsqrt a) = 0 := by
      unfold fsqrt
      rw [hdec]
      show fval Ieee.double _ = _
      simp only [Option.map_some, Option.getD_some]
      exact hx
    rw [hf]
    have hva : VV a = 0 := by rw [hv]; push_cast; grind
    rw [hva]
    refine ⟨fun _ => by grind, fun h => ?_⟩
    rcases Rat.le_total (a := (k : Rat) / 2) (b := 0) with c | c
    · exact c
    · rcases lt_or_eq c with c | c
      · have := Rat.mul_pos c c
        grind
      · rw [← c]; exact Rat.le_refl
  · have hs : s = false := by
      cases s
      · rfl
      · exfalso
        have h1 : (0 : Rat) < m * p2 i := Rat.mul_pos (by have := Nat.pos_of_ne_zero hm; exact_mod_cast this) (p2_pos i)
        rw [hv] at h0
        simp [sgn] at h0
        grind
    subst hs
    obtain ⟨more, hmore⟩ : ∃ more : Nat, more = (2 * (Ieee.double.fractionBits + 2) - m.log2) + ((i - ((2 * (Ieee.double.fractionBits + 2) - m.log2 : Nat) : Int)) % 2).toNat := ⟨_, rfl⟩
    have heven : (i - (more : Int)) % 2 = 0 := by rw [hmore]; omega
    obtain ⟨n, hn⟩ : ∃ n : Nat, n = m <<< more := ⟨_, rfl⟩
    obtain ⟨whole, hwh⟩ : ∃ whole : Nat, whole = Ieee.Datum.rootFrom n (n.log2 / 2 + 1) 0 := ⟨_, rfl⟩
    have hr : (Ieee.Datum.number false m i).root (Ieee.double.fractionBits + 2) = some (.number false (2 * whole + (whole * whole != n).toNat) ((i - more) / 2 - 1)) := by
      simp only [Ieee.Datum.root, if_neg hm]
      rw [← hmore, ← hn, ← hwh]
      rfl
    rw [hr] at hdec
    have hsq : whole * whole ≤ n := by rw [hwh]; exact rootFrom_sq n _ 0 (by omega)
    have hn0 : n ≠ 0 := by
      rw [hn, Nat.shiftLeft_eq]
      have h1 := Nat.two_pow_pos more
      have h2 := Nat.pos_of_ne_zero hm
      have := Nat.mul_pos h2 h1
      omega
    have hsq2 : n < (whole + 1) * (whole + 1) := by
      rw [hwh]
      refine rootFrom_hi n _ 0 ?_
      rw [Nat.zero_add, ← Nat.pow_add]
      refine Nat.lt_of_lt_of_le (Nat.lt_log2_self (n := n)) ?_
      exact Nat.pow_le_pow_right (by decide) (by omega)
    have hx : VV a = n * p2 (i - more) := by
      rw [hv, hn, Nat.shiftLeft_eq]
      have e : p2 i = p2 (i - more) * p2 (more : Int) := by rw [← p2_add]; congr 1; omega
      rw [e, p2_nat]
      simp only [sgn]
      push_cast
      grind
    obtain ⟨c, hc⟩ : ∃ c : Int, i - more = 2 * c := ⟨(i - more) / 2, by omega⟩
    have hlo := log2_lo n (i - more) hn0
    rw [← hx] at hlo
    have hle := le_of_p2 (Rat.le_trans hlo hX)
    -- the number has many bits
    have hbits : 108 ≤ n.log2 := by
      have hfb : Ieee.double.fractionBits = 52 := by decide
      have h2 : 108 ≤ m.log2 + more := by rw [hmore, hfb]; omega
      refine (Nat.le_log2 hn0).2 ?_
      rw [hn, Nat.shiftLeft_eq]
      refine Nat.le_trans (Nat.pow_le_pow_right (by decide) h2) ?_
      rw [Nat.pow_add]
      exact Nat.mul_le_mul_right _ (Nat.log2_self_le hm)
    have hc1 : c ≤ -2 := by omega
    obtain ⟨d, hd⟩ : ∃ d : Nat, -1 - c = d := ⟨(-1 - c).toNat, by omega⟩
    -- the number in halves, in the root's places
    have hkp : (k : Rat) / 2 = ((k * 2 ^ d : Nat) : Rat) * p2 c := by
      have e1 : p2 (-1) = p2 c * p2 (d : Int) := by rw [← p2_add]; congr 1; omega
      have e2 : p2 (-1) = 1 / 2 := by have := p2_neg 1; push_cast at this ⊢; grind
      rw [p2_nat, e2] at e1
      push_cast at e1 ⊢
      grind
    have hpc := p2_pos c
    have hcc : p2 (2 * c) = p2 c * p2 c := by rw [← p2_add]; congr 1; omega
    have hx2 : VV a = (n : Rat) * (p2 c * p2 c) := by rw [hx, hc, hcc]
    have hkk : ((k : Rat) / 2) * ((k : Rat) / 2) = ((k * 2 ^ d * (k * 2 ^ d) : Nat) : Rat) * (p2 c * p2 c) := by rw [hkp]; push_cast; grind
    have hpcc : 0 < p2 c * p2 c := Rat.mul_pos hpc hpc
    -- the root before it is rounded
    obtain ⟨y, hy⟩ : ∃ y, y = dval (.number false (2 * whole + (whole * whole != n).toNat) ((i - more) / 2 - 1)) := ⟨_, rfl⟩
    have hyv : y = (2 * (whole : Rat) + ((whole * whole != n).toNat : Rat)) * (p2 c / 2) := by
      have e1 : (i - more) / 2 - 1 = c + -1 := by omega
      have e2 : p2 (-1) = 1 / 2 := by have := p2_neg 1; push_cast at this ⊢; grind
      rw [hy]
      simp only [dval, sgn]
      rw [e1, p2_add, e2]
      push_cast
      grind
    have hy0 : 0 ≤ y := by
      rw [hyv]
      refine Rat.mul_nonneg ?_ (by grind)
      have a1 : (0 : Rat) ≤ whole := by exact_mod_cast Nat.zero_le _
      have a2 : (0 : Rat) ≤ ((whole * whole != n).toNat : Rat) := by exact_mod_cast Nat.zero_le _
      grind
    have hyb : y ≤ p2 41 := by
      have h1 : ((whole : Rat) * p2 c) * ((whole : Rat) * p2 c) ≤ p2 40 := by
        have e1 : ((whole * whole : Nat) : Rat) ≤ (n : Rat) := by exact_mod_cast hsq
        have e2 := Rat.mul_le_mul_of_nonneg_right e1 (Rat.le_of_lt hpcc)
        rw [hx2] at hX
        push_cast at e2
        grind
      have hw0 : 0 ≤ (whole : Rat) * p2 c := Rat.mul_nonneg (by exact_mod_cast Nat.zero_le _) (Rat.le_of_lt hpc)
      have e40 : p2 40 = 1099511627776 := by have := p2_val 40; simpa using this
      have e41 : p2 41 = 2199023255552 := by have := p2_val 41; simpa using this
      have h2 : (whole : Rat) * p2 c ≤ 1099511627776 := by
        rcases Rat.le_total (a := (whole : Rat) * p2 c) (b := 1099511627776) with z | z
        · exact z
        · have := Rat.mul_le_mul_of_nonneg_right z hw0
          grind
      have hbit : ((whole * whole != n).toNat : Rat) ≤ 1 := by
        have : (whole * whole != n).toNat ≤ 1 := by cases (whole * whole != n) <;> decide
        exact_mod_cast this
      have hpc1 : p2 c ≤ 1 := by
        have := p2_mono (a := c) (b := 0) (by omega)
        rwa [p2_zero] at this
      have m1 := Rat.mul_le_mul_of_nonneg_right hbit (show 0 ≤ p2 c / 2 by grind)
      rw [hyv, e41]
      grind
    have hb : Flt.ab y ≤ p2 (big Ieee.double) := by
      rw [ab_of_nonneg hy0, big_double]
      exact Rat.le_trans hyb (p2_mono (by decide))
    rw [hy] at hb
    have hw := write_rounds' good_double _ _ _ hb
    rw [← hy] at hw
    have hfs : VV (fsqrt a) = fval Ieee.double (Ieee.double.write (.number false (2 * whole + (whole * whole != n).toNat) ((i - more) / 2 - 1))) := by
      unfold fsqrt
      rw [hdec]
      rfl
    have e2 : Ieee.double.binade = 4503599627370496 := by decide
    have e4 : Ieee.double.leastPlace = -1074 := by decide
    have hrep : Rep Ieee.double ((k : Rat) / 2) := ⟨k, -1, by
      have e2 : p2 (-1) = 1 / 2 := by have := p2_neg 1; push_cast at this ⊢; grind
      rw [e2]; push_cast; grind, by rw [e2]; omega, by rw [e2]; omega, by rw [e4]; decide⟩
    rw [hfs]
    refine ⟨fun h => ?_, fun h => ?_⟩
    · refine hw.up _ hrep ?_
      rw [hx2, hkk] at h
      have h1 := nat_le_of_cast_mul hpcc h
      -- whole ≤ K, and less if it is not exact
      have h2 : 2 * whole + (whole * whole != n).toNat ≤ 2 * (k * 2 ^ d) := by
        have h3 : whole ≤ k * 2 ^ d := by
          rcases Nat.lt_or_ge (k * 2 ^ d) whole with hh | hh
          · have := Nat.mul_lt_mul'' hh hh
            omega
          · exact hh
        by_cases hww : whole * whole = n
        · have : (whole * whole != n) = false := by simp [hww]
          rw [this]
          simp
          omega
        · have h4 : whole ≠ k * 2 ^ d := by
            intro hh
            apply hww
            rw [← hh] at h1
            omega
          have hbit : (whole * whole != n).toNat ≤ 1 := by cases (whole * whole != n) <;> decide
          omega
      have h5 : ((2 * whole + (whole * whole != n).toNat : Nat) : Rat) ≤ ((2 * (k * 2 ^ d) : Nat) : Rat) := by exact_mod_cast h2
      have h6 := Rat.mul_le_mul_of_nonneg_right h5 (show 0 ≤ p2 c / 2 by grind)
      rw [hyv, hkp]
      push_cast at h6 ⊢
      grind
    · refine hw.dn _ hrep ?_
      rw [hx2, hkk] at h
      have h1 := nat_le_of_cast_mul hpcc h
      have h3 : k * 2 ^ d ≤ whole := by
        rcases Nat.lt_or_ge whole (k * 2 ^ d) with hh | hh
        · have := Nat.mul_le_mul hh hh
          have e : whole.succ = whole + 1 := rfl
          rw [e] at this
          omega
        · exact hh
      have h5 : ((2 * (k * 2 ^ d) : Nat) : Rat) ≤ ((2 * whole + (whole * whole != n).toNat : Nat) : Rat) := by exact_mod_cast (by omega : 2 * (k * 2 ^ d) ≤ 2 * whole + (whole * whole != n).toNat)
      have h6 := Rat.mul_le_mul_of_nonneg_right h5 (show 0 ≤ p2 c / 2 by grind)
      rw [hyv, hkp]
      push_cast at h6 ⊢
      grind
/-- How many parts a curve within 128 pixels has, and that they are enough. -/
theorem parts_C {d : Nat} (hd : Bd d 19) (h0 : 0 ≤ V d) : PartsOk d ∧ 1 ≤ parts d ∧ parts d ≤ 36 ∧ 3 * V d ≤ (parts d : Rat) * (parts d : Rat) * ((parts d : Rat) * (parts d : Rat)) + 1 / 1000000 := by
  obtain ⟨k1, k2, k3⟩ := parts_ok hd h0
  have h19 : Flt.ab (V d) ≤ p2 126 := Rat.le_trans hd.ab (p2_mono (by decide))
  obtain ⟨w1, w2, w3⟩ := wide_ok hd.fin h19
  obtain ⟨c1, c2'⟩ := c3d
  have e19 : p2 19 = 524288 := by have := p2_val 19; simpa using this
  have hhi := hd.hi
  rw [e19] at hhi
  have hx0 : 0 ≤ VV 4613937818241073152 * VV (wide d) := by rw [c2', w3]; grind
  have e22 : p2 (2 * 11) = 4194304 := by have := p2_val 22; simpa using this
  have hx1 : VV 4613937818241073152 * VV (wide d) ≤ p2 (2 * 11) := by rw [c2', w3, e22]; grind
  obtain ⟨q1, q2⟩ := fmul64_ok c1 w2 (by rw [ab_of_nonneg hx0]; exact Rat.le_trans hx1 (p2_mono (by decide)))
  obtain ⟨b1, b2⟩ := q2.bdd hx0 hx1 (by decide)
  obtain ⟨s1, s2, s3, s4⟩ := sqrt_ok (a := thrice d) q2.fin b1 (k := 11) b2 (by decide) (by decide)
  obtain ⟨t1, t2, t3, t4⟩ := sqrt_ok (a := fsqrt (thrice d)) s2 s3 (k := 6) s4 (by decide) (by decide)
  have hT := q2.near2 (M := 4194304) (by rw [ab_of_nonneg hx0]; rw [e22] at hx1; exact hx1)
  rw [c2', w3] at hT
  have hTd : VV (thrice d) = VV (fop64 .mul 4613937818241073152 (wide d)) := rfl
  rw [← hTd] at hT b1 b2
  obtain ⟨hT1, hT2⟩ := ab_iff.1 hT
  have x40 : ∀ {x : Rat} {k : Int}, x ≤ p2 k → k ≤ 40 → x ≤ p2 40 := fun h hk => Rat.le_trans h (p2_mono hk)
  have r1 := fun k (hk : k ≤ 1000000) => sqrt_half (a := thrice d) q2.fin b1 (x40 b2 (by decide)) (k := k) hk
  have r2 := fun k (hk : k ≤ 1000000) => sqrt_half (a := fsqrt (thrice d)) s2 s3 (x40 s4 (by decide)) (k := k) hk
  obtain ⟨u1, u2, u3⟩ := truncR_pos_bd t3
  have e7 : p2 (6 + 1) = 128 := by have := p2_val 7; simpa using this
  rw [e7] at t4
  have hu : truncR (VV (fsqrt (fsqrt (thrice d)))) ≤ 128 := by
    have h : ((truncR (VV (fsqrt (fsqrt (thrice d)))) : Int) : Rat) ≤ ((128 : Int) : Rat) := by push_cast; grind
    exact Rat.intCast_le_intCast.1 h
  obtain ⟨i1, i2⟩ := int64of_ok t2 (by omega) (by omega)
  have hp : parts d = 1 + truncR (VV (fsqrt (fsqrt (thrice d)))) := by unfold parts; rw [i2]
  refine ⟨k1, k2, ?_, ?_⟩
  · have a1 := (r1 2510 (by decide)).1 (by push_cast; grind)
    have a2 := (r2 71 (by decide)).1 (by push_cast at a1 ⊢; grind)
    push_cast at a2
    have h : ((truncR (VV (fsqrt (fsqrt (thrice d)))) : Int) : Rat) < ((36 : Int) : Rat) := by push_cast; grind
    have := Rat.intCast_lt_intCast.1 h
    omega
  · rcases Rat.le_total (a := 3 * V d) (b := (parts d : Rat) * (parts d : Rat) * ((parts d : Rat) * (parts d : Rat)) + 1 / 1000000) with c | c
    · exact c
    · exfalso
      obtain ⟨n, hn⟩ : ∃ n : Nat, parts d = (n : Int) := ⟨(parts d).toNat, by omega⟩
      have hn129 : n ≤ 129 := by omega
      have hnn : n * n ≤ 129 * 129 := Nat.mul_le_mul hn129 hn129
      rw [hn] at c
      have e1 : ((2 * (n * n) : Nat) : Rat) / 2 = (n : Rat) * n := by push_cast; grind
      have e2 : ((2 * n : Nat) : Rat) / 2 = (n : Rat) := by push_cast; grind
      have a1 := (r1 (2 * (n * n)) (by omega)).2 (by rw [e1]; rw [Rat.intCast_natCast] at c; grind)
      rw [e1] at a1
      have a2 := (r2 (2 * n) (by omega)).2 (by rw [e2]; exact a1)
      rw [e2] at a2
      have h : ((n : Int) : Rat) < ((truncR (VV (fsqrt (fsqrt (thrice d)))) + 1 : Int) : Rat) := by push_cast; grind
      have := Rat.intCast_lt_intCast.1 h
      omega
end Go.Proofs.Ytmgcbodlolnheaa

namespace Go.Proofs.Ytmgcbodlolnheaa
open Flt Go.RowKit
set_option linter.unusedVariables false

/-! ### between two points -/
theorem lerpB_rat {D d t m0 m u : Rat} (hu : u = 1 / 16777216) (hD : 1 / 1298074214633706907132624082305024 ≤ D) (t0 : 0 ≤ t) (t1 : t ≤ 63 / 64) (hd0 : 0 ≤ d) (hd : d ≤ D + (D * u + 1 / 100000000000000000000000000000000000000000000)) (hm0 : m0 = t * d)
    (hm : m ≤ m0 + (m0 * u + 1 / 100000000000000000000000000000000000000000000)) : m ≤ D := by
  have k1 := Rat.mul_le_mul_of_nonneg_right t1 hd0
  subst hu hm0
  generalize t * d = z at *
  grind
theorem lerpB {t p q : Nat} (ht : F32 t) (fp : F32 p) (fq : F32 q) (t0 : 0 ≤ V t) (t1 : V t ≤ 63 / 64) (bp : ab (V p) ≤ 1000) (bq : ab (V q) ≤ 1000) (gp : Grid (-110) (V p)) (gq : Grid (-110) (V q)) :
    (V p ≤ V q → V p ≤ V (flerp t p q) ∧ V (flerp t p q) ≤ V q) ∧ (V q ≤ V p → V q ≤ V (flerp t p q) ∧ V (flerp t p q) ≤ V p) := by
  obtain ⟨a1, a2⟩ := ab_iff.1 bp
  obtain ⟨a3, a4⟩ := ab_iff.1 bq
  by_cases hpq : V p = V q
  · have := lerp_same ht fp fq hpq (by grind)
    exact ⟨fun _ => by grind, fun _ => by grind⟩
  obtain ⟨_, r1⟩ := fsub_ok fq fp (big126 (ab_le (by grind) (by grind)))
  have n1 := r1.nearG.2
  have hdb : ab (V (fop .sub q p)) ≤ 3000 := by
    have := r1.near5.1
    have := ab_sub_le (V q) (V p)
    grind
  obtain ⟨_, r2⟩ := fmul_ok ht r1.fin (big126 (by
    have : ab (V t * V (fop .sub q p)) ≤ 1 * 3000 := ab_mul_le (by rw [ab_of_nonneg t0]; grind) hdb
    grind))
  have n2 := r2.nearG.2
  have hmb : ab (V (fop .mul t (fop .sub q p))) ≤ 4000 := by
    have := r2.near5.1
    have : ab (V t * V (fop .sub q p)) ≤ 1 * 3000 := ab_mul_le (by rw [ab_of_nonneg t0]; grind) hdb
    grind
  obtain ⟨_, r3⟩ := fadd_ok fp r2.fin (big126 (by
    have := ab_add_le (V p) (V (fop .mul t (fop .sub q p)))
    grind))
  have hdef : flerp t p q = fop .add p (fop .mul t (fop .sub q p)) := rfl
  rw [hdef]
  have h110 := p2_m110
  obtain ⟨d1, d2⟩ := ab_iff.1 n1
  obtain ⟨m1, m2⟩ := ab_iff.1 n2
  refine ⟨fun h => ?_, fun h => ?_⟩
  · have hD : p2 (-110) ≤ V q - V p := (gq.sub gp).pos (by grind)
    rw [h110] at hD
    have s1 := r1.nonneg (by grind)
    have s2 := r2.nonneg (Rat.mul_nonneg t0 s1)
    rw [ab_of_nonneg (x := V q - V p) (by grind)] at d1
    rw [ab_of_nonneg (Rat.mul_nonneg t0 s1)] at m1
    have := lerpB_rat (u := 1 / 16777216) rfl hD t0 t1 s1 (by grind) rfl (show V (fop .mul t (fop .sub q p)) ≤ _ by grind)
    exact ⟨r3.geF fp (by grind), r3.leF fq (by grind)⟩
  · have hD : p2 (-110) ≤ V p - V q := (gp.sub gq).pos (by grind)
    rw [h110] at hD
    have s1 := r1.nonpos (by grind)
    have s3 := Rat.mul_nonneg t0 (show 0 ≤ -V (fop .sub q p) by grind)
    have s2 := r2.nonpos (by grind)
    rw [ab_of_nonpos (x := V q - V p) (by grind)] at d1 d2
    rw [ab_of_nonpos (x := V t * V (fop .sub q p)) (by grind)] at m1 m2
    have := lerpB_rat (D := V p - V q) (d := -V (fop .sub q p)) (t := V t) (m0 := V t * -V (fop .sub q p)) (m := -V (fop .mul t (fop .sub q p))) (u := 1 / 16777216) rfl hD t0 t1 (by grind) (by grind) rfl (by grind)
    exact ⟨r3.geF fq (by grind), r3.leF fp (by grind)⟩
/-- In any box that both are in. -/
theorem lerpB_in {t p q : Nat} (ht : F32 t) (fp : F32 p) (fq : F32 q) (t0 : 0 ≤ V t) (t1 : V t ≤ 63 / 64) (bp : ab (V p) ≤ 1000) (bq : ab (V q) ≤ 1000) (gp : Grid (-110) (V p)) (gq : Grid (-110) (V q)) {lo hi : Rat} (h1 : lo ≤ V p) (h2 : lo ≤ V q) (h3 : V p ≤ hi) (h4 : V q ≤ hi) :
    lo ≤ V (flerp t p q) ∧ V (flerp t p q) ≤ hi := by
  obtain ⟨k1, k2⟩ := lerpB ht fp fq t0 t1 bp bq gp gq
  rcases Rat.le_total (a := V p) (b := V q) with c | c
  · have := k1 c; grind
  · have := k2 c; grind
theorem lerp_gridT {t p q : Nat} {g gt : Int} (h : FlerpOk t p q) (ht : F32 t) (fp : F32 p) (fq : F32 q) (t0 : 0 ≤ V t) (t1 : V t ≤ 1) (bp : ab (V p) ≤ 100000) (bq : ab (V q) ≤ 100000) (hT : Grid gt (V t)) (gp : Grid g (V p)) (gq : Grid g (V q)) (hg : -149 ≤ g + gt) (hgt : gt ≤ 0) :
    Grid (g + gt) (V (flerp t p q)) := by
  obtain ⟨a1, a2⟩ := ab_iff.1 bp
  obtain ⟨a3, a4⟩ := ab_iff.1 bq
  obtain ⟨_, r1⟩ := fsub_ok fq fp (big126 (ab_le (by grind) (by grind)))
  have g1 : Grid g (V (fop .sub q p)) := (gq.sub gp).round r1 (by omega)
  have n1 := r1.near5.1
  have hq1 : ab (V q - V p) ≤ 200000 := ab_le (by grind) (by grind)
  have hpr : ab (V t * V (fop .sub q p)) ≤ 1000000 := by
    rw [ab_mul, ab_of_nonneg t0]
    have := Rat.mul_le_mul_of_nonneg_right t1 (ab_nonneg (V (fop .sub q p)))
    grind
  obtain ⟨_, r2⟩ := fmul_ok ht r1.fin (big126 (by grind))
  have e : gt + g = g + gt := by omega
  have g2 : Grid (g + gt) (V (fop .mul t (fop .sub q p))) := Grid.round (by have := Grid.mul hT g1; rwa [e] at this) r2 (by omega)
  have n2 := r2.near5.1
  obtain ⟨_, r3⟩ := fadd_ok fp r2.fin (big126 (by
    have := ab_add_le (V p) (V (fop .mul t (fop .sub q p)))
    grind))
  unfold flerp
  exact ((gp.up (by omega)).add g2).round r3 (by omega)

/-! ### a point of a curve -/
/-- A coordinate at time t: near f, in a box, on a grid. -/
structure Smp (f : Rat → Rat) (lo hi t : Rat) (a : Nat) : Prop where
  fin : F32 a
  near : ab (V a - f t) ≤ 1 / 8000
  grid : Grid (-93) (V a)
  ge : lo ≤ V a
  le : V a ≤ hi
theorem Rnd8 : Rnd 256 (1 / 131072) := by
  have := Rnd.pow (e := 8) (by decide) (by decide)
  have e1 : p2 8 = 256 := by have := p2_val 8; simpa using this
  have e2 : p2 (8 - 25) = 1 / 131072 := by have := p2_neg 17; rw [show (8 - 25 : Int) = -((17 : Nat) : Int) by decide]; push_cast at this ⊢; grind
  rw [e1, e2] at this
  exact this
theorem Rnd9 : Rnd 512 (1 / 65536) := by
  have := Rnd.pow (e := 9) (by decide) (by decide)
  rw [p2_9] at this
  have e2 : p2 (9 - 25) = 1 / 65536 := p2_m16q
  rw [e2] at this
  exact this
/-- A step of a curve's point: near, on a grid, in the box. -/
structure Stp (P lo hi : Rat) (k : Nat) (E : Rat) (a : Nat) : Prop where
  fin : F32 a
  near : ab (V a - P) ≤ E
  grid : Grid (-6 - 29 * (k : Int)) (V a)
  ge : lo ≤ V a
  le : V a ≤ hi
  plo : lo ≤ P
  phi : P ≤ hi
theorem Stp.next {t p q k : Nat} {P Q lo hi E : Rat} (hp : Stp P lo hi k E p) (hq : Stp Q lo hi k E q) (ht : F32 t) (t0 : 0 ≤ V t) (t1 : V t ≤ 63 / 64) (gt : Grid (-29) (V t)) (hk : k ≤ 2) (hlo : -128 ≤ lo) (hhi : hi ≤ 128) (hE : E ≤ 1 / 1000) :
    FlerpOk t p q ∧ Stp (P + V t * (Q - P)) lo hi (k + 1) (E + 1 / 131072 + 2 * (1 / 65536)) (flerp t p q) := by
  have hE0 : 0 ≤ E := Rat.le_trans (ab_nonneg _) hp.near
  have l1 := hp.ge; have l2 := hp.le; have l3 := hq.ge; have l4 := hq.le; have l5 := hp.plo; have l6 := hp.phi; have l7 := hq.plo; have l8 := hq.phi
  obtain ⟨k1, k2, k3⟩ := lerpE (P := P) (δ := Q - P) (E := E) Rnd8 Rnd9 ht hp.fin hq.fin t0 (by grind) hp.near (by rw [show P + (Q - P) = Q by grind]; exact hq.near) (ab_le (by grind) (by grind)) (by rw [show P + (Q - P) = Q by grind]; exact ab_le (by grind) (by grind))
    (by have : ab (Q - P) ≤ 256 := ab_le (by grind) (by grind)
        grind) (by grind) (by decide +kernel) (by decide +kernel) (by decide +kernel) hE0
  have bp : ab (V p) ≤ 1000 := ab_le (by grind) (by grind)
  have bq : ab (V q) ≤ 1000 := ab_le (by grind) (by grind)
  obtain ⟨b1, b2⟩ := lerpB_in ht hp.fin hq.fin t0 t1 bp bq (hp.grid.up (by omega)) (hq.grid.up (by omega)) l1 l3 l2 l4
  have g := lerp_gridT k1 ht hp.fin hq.fin t0 (by grind) (by grind) (by grind) gt hp.grid hq.grid (by omega) (by decide)
  refine ⟨k1, k2, k3, g.up (by push_cast; omega), b1, b2, ?_, ?_⟩
  · have m1 := Rat.mul_nonneg t0 (show 0 ≤ Q - lo by grind)
    have m2 := Rat.mul_nonneg (show 0 ≤ 1 - V t by grind) (show 0 ≤ P - lo by grind)
    grind
  · have m1 := Rat.mul_nonneg t0 (show 0 ≤ hi - Q by grind)
    have m2 := Rat.mul_nonneg (show 0 ≤ 1 - V t by grind) (show 0 ≤ hi - P by grind)
    grind
theorem Stp.wq {n : Int} (h : -8192 ≤ n ∧ n ≤ 8192) {lo hi : Rat} (h1 : lo ≤ (n : Rat) / 64) (h2 : (n : Rat) / 64 ≤ hi) : Stp ((n : Rat) / 64) lo hi 0 0 (wq n) := by
  obtain ⟨f, v, g⟩ := wqV (n := n) (by omega)
  refine ⟨f, ?_, g, by rw [v]; exact h1, by rw [v]; exact h2, h1, h2⟩
  rw [v]
  have : (n : Rat) / 64 - (n : Rat) / 64 = 0 := by grind
  rw [this]
  decide +kernel
def In128 (n : Int) : Prop := -8192 ≤ n ∧ n ≤ 8192
def qz (a b c t : Rat) : Rat := bz a ((a + 2 * b) / 3) ((2 * b + c) / 3) c t
section
variable {t : Nat} (ht : F32 t) (t0 : 0 ≤ V t) (t1 : V t ≤ 63 / 64) (gt : Grid (-29) (V t)) {lo hi : Rat} (hlo : -128 ≤ lo) (hhi : hi ≤ 128) {a b c d : Int} (ha : In128 a) (hb : In128 b) (hc : In128 c) (hd : In128 d)
  (a1 : lo ≤ (a : Rat) / 64) (a2 : (a : Rat) / 64 ≤ hi) (b1 : lo ≤ (b : Rat) / 64) (b2 : (b : Rat) / 64 ≤ hi) (c1 : lo ≤ (c : Rat) / 64) (c2 : (c : Rat) / 64 ≤ hi) (d1 : lo ≤ (d : Rat) / 64) (d2 : (d : Rat) / 64 ≤ hi)
include ht t0 t1 gt hlo hhi ha hb hc a1 a2 b1 b2 c1 c2
theorem quad_smp : QuadAtOk (wq a) (wq b) (wq c) t ∧ Smp (qz ((a : Rat) / 64) ((b : Rat) / 64) ((c : Rat) / 64)) lo hi (V t) (quadAt (wq a) (wq b) (wq c) t) := by
  have sa := Stp.wq ha a1 a2
  have sb := Stp.wq hb b1 b2
  have sc := Stp.wq hc c1 c2
  obtain ⟨x1, x2⟩ := sa.next sb ht t0 t1 gt (by decide) hlo hhi (by decide +kernel)
  obtain ⟨y1, y2⟩ := sb.next sc ht t0 t1 gt (by decide) hlo hhi (by decide +kernel)
  obtain ⟨z1, z2⟩ := x2.next y2 ht t0 t1 gt (by decide) hlo hhi (by decide +kernel)
  refine ⟨⟨x1, y1, z1⟩, z2.fin, ?_, z2.grid.up (by decide), z2.ge, z2.le⟩
  have e : qz ((a : Rat) / 64) ((b : Rat) / 64) ((c : Rat) / 64) (V t) = (a : Rat) / 64 + V t * ((b : Rat) / 64 - (a : Rat) / 64) + V t * ((b : Rat) / 64 + V t * ((c : Rat) / 64 - (b : Rat) / 64) - ((a : Rat) / 64 + V t * ((b : Rat) / 64 - (a : Rat) / 64))) := by
    unfold qz bz; grind
  rw [e]
  refine Rat.le_trans z2.near (by decide +kernel)
include hd d1 d2
theorem cube_smp : CubeAtOk (wq a) (wq b) (wq c) (wq d) t ∧ Smp (bz ((a : Rat) / 64) ((b : Rat) / 64) ((c : Rat) / 64) ((d : Rat) / 64)) lo hi (V t) (cubeAt (wq a) (wq b) (wq c) (wq d) t) := by
  have sa := Stp.wq ha a1 a2
  have sb := Stp.wq hb b1 b2
  have sc := Stp.wq hc c1 c2
  have sd := Stp.wq hd d1 d2
  obtain ⟨x1, x2⟩ := sa.next sb ht t0 t1 gt (by decide) hlo hhi (by decide +kernel)
  obtain ⟨y1, y2⟩ := sb.next sc ht t0 t1 gt (by decide) hlo hhi (by decide +kernel)
  obtain ⟨w1, w2⟩ := sc.next sd ht t0 t1 gt (by decide) hlo hhi (by decide +kernel)
  obtain ⟨z1, z2⟩ := x2.next y2 ht t0 t1 gt (by decide) hlo hhi (by decide +kernel)
  obtain ⟨u1, u2⟩ := y2.next w2 ht t0 t1 gt (by decide) hlo hhi (by decide +kernel)
  obtain ⟨v1, v2⟩ := z2.next u2 ht t0 t1 gt (by decide) hlo hhi (by decide +kernel)
  refine ⟨⟨x1, y1, w1, z1, u1, v1⟩, v2.fin, ?_, v2.grid.up (by decide), v2.ge, v2.le⟩
  have n := v2.near
  generalize V t = T at *
  generalize (a : Rat) / 64 = A at *
  generalize (b : Rat) / 64 = B at *
  generalize (c : Rat) / 64 = C at *
  generalize (d : Rat) / 64 = D at *
  have e : bz A B C D T = A + T * (B - A) + T * (B + T * (C - B) - (A + T * (B - A))) + T * (B + T * (C - B) + T * (C + T * (D - C) - (B + T * (C - B))) - (A + T * (B - A) + T * (B + T * (C - B) - (A + T * (B - A))))) := by
    unfold bz; grind
  rw [e]
  exact Rat.le_trans n (by decide +kernel)
end
end Go.Proofs.Ytmgcbodlolnheaa

namespace Go.Proofs.Ytmgcbodlolnheaa
open Flt Go.RowKit
set_option linter.unusedVariables false

/-! ### times -/
theorem grid29 {a : Nat} (ha : F32 a) (h : 1 / 64 ≤ V a) : Grid (-29) (V a) := by
  obtain ⟨n, q, e1', e2, e3, e4⟩ := val_rep ha
  have e1 : V a = n * p2 q := e1'
  rw [binade_single] at e2 e3
  have hp := p2_pos q
  have h30 : p2 (-30) = 1 / 1073741824 := by have := p2_neg 30; push_cast at this ⊢; grind
  have h29 : p2 (-29) = 1 / 536870912 := by have := p2_neg 29; push_cast at this ⊢; grind
  rcases Int.lt_or_le q (-29) with hc | hc
  · have hn := castLe (show n ≤ 16777216 by omega)
    have m1 := Rat.mul_le_mul_of_nonneg_right hn (Rat.le_of_lt hp)
    push_cast at m1
    rcases Int.lt_or_le q (-30) with hd | hd
    · exfalso
      have h2 := p2_mono (a := q) (b := -31) (by omega)
      have h31 : p2 (-31) = 1 / 2147483648 := by have := p2_neg 31; push_cast at this ⊢; grind
      rw [h31] at h2
      rw [e1] at h
      generalize (n : Rat) * p2 q = y at *
      generalize p2 q = z at *
      grind
    · have hq : q = -30 := by omega
      rw [hq, h30] at e1
      have hv : V a = 1 / 64 := by grind
      exact ⟨8388608, by rw [hv, h29]; push_cast; grind⟩
  · exact Grid.up ⟨n, e1⟩ hc
theorem inv_36 {N : Int} (h0 : 0 ≤ N) (hN : N ≤ 35) : ∃ iv : Rat, iv * (1 + (N : Rat)) = 1 ∧ 1 / 36 ≤ iv ∧ iv ≤ 1 ∧ F32 (fop .quo 1065353216 (floatOfInt .f32 (1 + N))) ∧ ab (V (fop .quo 1065353216 (floatOfInt .f32 (1 + N))) - iv) ≤ 1 / 10000000 ∧
    Grid (-29) (V (fop .quo 1065353216 (floatOfInt .f32 (1 + N)))) := by
  obtain ⟨o1, o2⟩ := ofInt_small (n := 1 + N) (by omega) (by omega)
  have hp1 : (1 : Rat) ≤ ((1 + N : Int) : Rat) := castLe (show 1 ≤ 1 + N by omega)
  have hp33 := castLe (show 1 + N ≤ 36 by omega)
  have a1 : Flt.ab 1 = 1 := by decide
  obtain ⟨v1, v2⟩ := fquo_ok fone.1.fin o1 (by rw [o2]; grind) (by
    rw [fone.2, o2, ab_of_nonneg (x := ((1 + N : Int) : Rat)) (by grind), a1]
    have h4 : (1000000000000000000000000000000 : Rat) ≤ p2 125 := big125 Rat.le_refl
    have := Rat.mul_le_mul_of_nonneg_left hp1 (show (0 : Rat) ≤ p2 125 by grind)
    grind)
  rw [fone.2, o2] at v2
  have n2 := v2.near5.2
  obtain ⟨iv, hiv⟩ : ∃ iv, iv = (1 : Rat) / ((1 + N : Int) : Rat) := ⟨_, rfl⟩
  have hinv : iv * ((1 + N : Int) : Rat) = 1 := by rw [hiv, Rat.div_mul_cancel]; grind
  have hiv0 : 0 ≤ iv := by rw [hiv, Rat.div_def]; exact Rat.mul_nonneg (by decide) (Rat.le_of_lt (Rat.inv_pos.2 (by grind)))
  rw [← hiv, ab_of_nonneg hiv0] at n2
  have m1 := Rat.mul_le_mul_of_nonneg_left hp1 hiv0
  have m2 := Rat.mul_le_mul_of_nonneg_left hp33 hiv0
  push_cast at m2 hinv
  have hl : 1 / 36 ≤ iv := by grind
  have hu : iv ≤ 1 := by grind
  have hnear : ab (V (fop .quo 1065353216 (floatOfInt .f32 (1 + N))) - iv) ≤ 1 / 10000000 := by grind
  obtain ⟨c1, c2⟩ := ab_iff.1 hnear
  exact ⟨iv, hinv, hl, hu, v2.fin, hnear, grid29 v2.fin (by grind)⟩
/-- Points along a curve at increasing times, at most δ between them. -/
def Along (P : Rat → Nat → Nat → Prop) (δ : Rat) : Rat → List (Nat × Nat) → Prop
  | _, [] => True
  | t, (qx, qy) :: l => ∃ t', t < t' ∧ t' ≤ 1 ∧ t' - t ≤ δ ∧ P t' qx qy ∧ Along P δ t' l
theorem steps_C {ok : Nat → Prop} {pt : Nat → Nat × Nat} {P : Rat → Nat → Nat → Prop} {N : Int} {dx dy : Nat} {iv : Rat} (hN0 : 0 ≤ N) (hN : N ≤ 35) (hiv : iv * (1 + (N : Rat)) = 1)
    (hpt : ∀ t, F32 t → 0 ≤ V t → V t ≤ 63 / 64 → Grid (-29) (V t) → ok t ∧ P (V t) (pt t).1 (pt t).2) (hend : P 1 dx dy) : ∀ (m j t : Nat), F32 t → 0 ≤ V t → Grid (-29) (V t) → ab (V t - j * iv) ≤ j * (1 / 5000000) → j + m = N.toNat →
      StepsOk ok (fop .quo 1065353216 (floatOfInt .f32 (1 + N))) m t ∧ Along P (iv * (1001 / 1000)) (V t) (steps pt (fop .quo 1065353216 (floatOfInt .f32 (1 + N))) m t ++ [(dx, dy)])
  | 0, j, t, ht, h0, hg, h1, hj => by
    obtain ⟨iv', i1, i2, i3, i4, i5, i6⟩ := inv_36 hN0 hN
    have hN0r := castLe hN0
    rw [cast_zero] at hN0r
    have hNr := castLe hN
    push_cast at hNr
    have hive : iv' = iv := by
      have : (iv' - iv) * (1 + (N : Rat)) = 0 := by grind
      rcases Rat.mul_eq_zero.1 this with c | c <;> grind
    rw [hive] at i1 i2 i3
    have hjN : (j : Rat) = (N : Rat) := by
      have : ((j : Nat) : Int) = N := by omega
      rw [← this]; push_cast; rfl
    rw [hjN] at h1
    obtain ⟨c1, c2⟩ := ab_iff.1 h1
    refine ⟨trivial, 1, ?_, Rat.le_refl, ?_, hend, trivial⟩
    · have : (N : Rat) * iv = 1 - iv := by grind
      grind
    · have : (N : Rat) * iv = 1 - iv := by grind
      grind
  | m + 1, j, t, ht, h0, hg, h1, hj => by
    obtain ⟨iv', i1, i2, i3, i4, i5, i6⟩ := inv_36 hN0 hN
    have hN0r := castLe hN0
    rw [cast_zero] at hN0r
    have hNr := castLe hN
    push_cast at hNr
    have hive : iv' = iv := by
      have : (iv' - iv) * (1 + (N : Rat)) = 0 := by grind
      rcases Rat.mul_eq_zero.1 this with c | c <;> grind
    rw [hive] at i1 i2 i3 i5
    have hj1 : (j : Rat) + 1 ≤ (N : Rat) := by
      have := castLe (show ((j + 1 : Nat) : Int) ≤ N by omega)
      push_cast at this
      exact this
    have hj0 : (0 : Rat) ≤ j := by exact_mod_cast Nat.zero_le j
    obtain ⟨c1, c2⟩ := ab_iff.1 i5
    obtain ⟨b1, b2⟩ := ab_iff.1 h1
    have hji := Rat.mul_le_mul_of_nonneg_right hj1 (show 0 ≤ iv by grind)
    generalize hsw : fop .quo 1065353216 (floatOfInt .f32 (1 + N)) = s at *
    have hNiv : (N : Rat) * iv = 1 - iv := by grind
    have hsum0 : 0 ≤ V t + V s := by grind
    have hsum1 : V t + V s ≤ 1 := by grind
    obtain ⟨q1, q2⟩ := fadd_ok ht i4 (big126 (by rw [ab_of_nonneg hsum0]; grind))
    have n2 := q2.near5.2
    rw [ab_of_nonneg hsum0] at n2
    obtain ⟨d1, d2⟩ := ab_iff.1 n2
    have h0' := q2.nonneg hsum0
    have hg' := (hg.add i6).round q2 (by decide)
    have hnext : ab (V (fop .add t s) - ((j + 1 : Nat) : Rat) * iv) ≤ ((j + 1 : Nat) : Rat) * (1 / 5000000) := by
      push_cast
      have e : ((j : Rat) + 1) * iv = j * iv + iv := by grind
      rw [e]
      exact ab_le (by grind) (by grind)
    obtain ⟨f1, f2⟩ := ab_iff.1 hnext
    push_cast at f1 f2
    have h1' : V (fop .add t s) ≤ 63 / 64 := by grind
    obtain ⟨k1, k2⟩ := hpt (fop .add t s) q2.fin h0' h1' hg'
    obtain ⟨r1, r2⟩ := steps_C hN0 hN hiv hpt hend m (j + 1) (fop .add t s) q2.fin h0' hg' hnext (by omega)
    rw [hsw] at r1 r2
    refine ⟨⟨q1, k1, r1⟩, ?_⟩
    rw [steps, List.cons_append]
    refine ⟨V (fop .add t s), by grind, by grind, by grind, k2, r2⟩

/-! ### how far and how often -/
theorem vr_mono {s t : Rat} (h0 : 0 ≤ s) (h1 : s ≤ t) (h2 : t ≤ 1) : vr s ≤ vr t := by
  have := bz_vr (c0 := 0) (c1 := 0) (c2 := 0) (c3 := 0) (m := 0) (h := 1) (by decide +kernel) (by decide +kernel) (by decide +kernel) (by decide +kernel) h0 h1 h2
  have := ab_nonneg (bz 0 0 0 0 t - bz 0 0 0 0 s)
  grind
/-- The exact times of points, and what goes along them. -/
theorem along_tv {P : Rat → Nat → Nat → Prop} {δ ε : Rat} {G : Rat → Rat} {v : Nat × Nat → Rat} (hP : ∀ t x y, P t x y → ab (v (x, y) - G t) ≤ ε) : ∀ (l : List (Nat × Nat)) (t : Rat) (px py : Nat), 0 ≤ t → t ≤ 1 → P t px py → Along P δ t l →
    ∃ ts : List Rat, Inc t ts ∧ (∀ u ∈ ts, u ≤ 1) ∧ sumE (fun e => ab (v e.2 - v e.1)) (linesOf l px py) ≤ tvL G t ts + 2 * ε * l.length
  | [], t, px, py, _, _, _, _ => ⟨[], trivial, fun u hu => by simp at hu, by simp only [linesOf, sumE, tvL, List.length_nil]; push_cast; grind⟩
  | (qx, qy) :: l, t, px, py, t0, t1, hp, h => by
    obtain ⟨t', h1, h2, h3, h4, h5⟩ := h
    obtain ⟨ts, k1, k2, k3⟩ := along_tv hP l t' qx qy (by grind) h2 h4 h5
    refine ⟨t' :: ts, ⟨h1, k1⟩, fun u hu => ?_, ?_⟩
    · rcases List.mem_cons.1 hu with rfl | hu
      · exact h2
      · exact k2 u hu
    · rw [linesOf, sumE, tvL, List.length_cons]
      have a1 := hP _ _ _ hp
      have a2 := hP _ _ _ h4
      have e : v (qx, qy) - v (px, py) = (v (qx, qy) - G t') + (G t' - G t) - (v (px, py) - G t) := by grind
      have b1 := ab_sub_le ((v (qx, qy) - G t') + (G t' - G t)) (v (px, py) - G t)
      have b2 := ab_add_le (v (qx, qy) - G t') (G t' - G t)
      rw [← e] at b1
      push_cast
      show ab (v (qx, qy) - v (px, py)) + _ ≤ _
      grind
theorem along_all {P : Rat → Nat → Nat → Prop} {δ : Rat} {R : Ln → Prop} (hR : ∀ t t' px py qx qy, 0 ≤ t → t ≤ t' → t' ≤ 1 → t' - t ≤ δ → P t px py → P t' qx qy → R ((px, py), (qx, qy))) : ∀ (l : List (Nat × Nat)) (t : Rat) (px py : Nat), 0 ≤ t → P t px py → Along P δ t l → ∀ e ∈ linesOf l px py, R e
  | [], _, _, _, _, _, _ => fun e he => by simp [linesOf] at he
  | (qx, qy) :: l, t, px, py, t0, hp, h => fun e he => by
    obtain ⟨t', h1, h2, h3, h4, h5⟩ := h
    rw [linesOf] at he
    rcases List.mem_cons.1 he with rfl | he
    · exact hR t t' px py qx qy t0 (Rat.le_of_lt h1) h2 h3 hp h4
    · exact along_all hR l t' qx qy (by grind) h4 h5 e he
theorem along_pts {P : Rat → Nat → Nat → Prop} {δ : Rat} : ∀ (l : List (Nat × Nat)) (t : Rat), Along P δ t l → ∀ q ∈ l, ∃ t', P t' q.1 q.2
  | [], _, _ => fun q hq => by simp at hq
  | (qx, qy) :: l, t, h => fun q hq => by
    obtain ⟨t', h1, h2, h3, h4, h5⟩ := h
    rcases List.mem_cons.1 hq with rfl | hq
    · exact ⟨t', h4⟩
    · exact along_pts l t' h5 q hq
/-- How far a curve's coordinate goes along increasing times. -/
theorem tv_wide {c0 c1 c2 c3 m h : Rat} (k0 : ab (c0 - m) ≤ h) (k1 : ab (c1 - m) ≤ h) (k2 : ab (c2 - m) ≤ h) (k3 : ab (c3 - m) ≤ h) : ∀ (ts : List Rat) (t : Rat), 0 ≤ t → t ≤ 1 → Inc t ts → (∀ u ∈ ts, u ≤ 1) → tvL (bz c0 c1 c2 c3) t ts ≤ h * (34 / 9 - vr t)
  | [], t, t0, t1, _, _ => by
    have := vr_mono t0 t1 Rat.le_refl
    rw [vr_01.2] at this
    have hh : 0 ≤ h := Rat.le_trans (ab_nonneg _) k0
    have := Rat.mul_nonneg hh (show 0 ≤ 34 / 9 - vr t by grind)
    simp only [tvL]
    exact this
  | u :: ts, t, t0, t1, hi, hu => by
    have hu1 := hu u (by simp)
    have ih := tv_wide k0 k1 k2 k3 ts u (by have := hi.1; grind) hu1 hi.2 fun w hw => hu w (by simp [hw])
    have := bz_vr k0 k1 k2 k3 t0 (Rat.le_of_lt hi.1) hu1
    rw [tvL]
    grind
/-- What goes one way goes at most once through a row. -/
theorem tv_one {f g : Rat → Rat} (hg : Cut g) {sg : Rat} (hs : sg = 1 ∨ sg = -1) (hf : ∀ s t, 0 ≤ s → s ≤ t → t ≤ 1 → 0 ≤ sg * (f t - f s)) : ∀ (ts : List Rat) (t : Rat), 0 ≤ t → Inc t ts → (∀ u ∈ ts, u ≤ 1) → tvL (fun t => g (f t)) t ts ≤ if sg = 1 then 1 - g (f t) else g (f t)
  | [], t, _, _, _ => by
    have := hg.low (f t)
    have := hg.high (f t)
    simp only [tvL]
    split <;> grind
  | u :: ts, t, t0, hi, hu => by
    have hu1 := hu u (by simp)
    have ih := tv_one hg hs hf ts u (by have := hi.1; grind) hi.2 fun w hw => hu w (by simp [hw])
    have hm := hf t u t0 (Rat.le_of_lt hi.1) hu1
    rw [tvL]
    rcases hs with e | e <;> subst e
    · rw [if_pos rfl] at ih ⊢
      have := hg.mono (show f t ≤ f u by grind)
      rw [ab_of_nonneg (by grind)]
      grind
    · rw [if_neg (by decide +kernel)] at ih ⊢
      have := hg.mono (show f u ≤ f t by grind)
      rw [ab_of_nonpos (by grind)]
      grind

/-! ### a curve's steps -/
/-- A cubic curve's step. -/
theorem bz_step (c0 c1 c2 c3 s t : Rat) : bz c0 c1 c2 c3 t - bz c0 c1 c2 c3 s = (t - s) * ((c1 - c0) * ((1 - s) * (1 - s) + (1 - s) * (1 - t) + (1 - t) * (1 - t)) + (c2 - c1) * (3 * (s + t) - 2 * (s * s + s * t + t * t)) + (c3 - c2) * (s * s + s * t + t * t)) := by
  unfold bz; grind
theorem wts {s t : Rat} (h0 : 0 ≤ s) (h1 : s ≤ t) (h2 : t ≤ 1) : 0 ≤ (1 - s) * (1 - s) + (1 - s) * (1 - t) + (1 - t) * (1 - t) ∧ 0 ≤ 3 * (s + t) - 2 * (s * s + s * t + t * t) ∧ 0 ≤ s * s + s * t + t * t ∧
    0 ≤ (1 - s) * (1 - s) + (1 - s) * (1 - t) + (1 - t) * (1 - t) + (s * s + s * t + t * t) - (3 * (s + t) - 2 * (s * s + s * t + t * t)) := by
  have a1 := mul_nn (show 0 ≤ 1 - s by grind) (show 0 ≤ 1 - s by grind)
  have a2 := mul_nn (show 0 ≤ 1 - s by grind) (show 0 ≤ 1 - t by grind)
  have a3 := mul_nn (show 0 ≤ 1 - t by grind) (show 0 ≤ 1 - t by grind)
  have b1 := mul_nn h0 h0
  have b2 := mul_nn h0 (show 0 ≤ t by grind)
  have b3 := mul_nn (show 0 ≤ t by grind) (show 0 ≤ t by grind)
  have c1 := mul_nn h0 (show 0 ≤ 1 - s by grind)
  have c2 := mul_nn h0 (show 0 ≤ 1 - t by grind)
  have c3 := mul_nn (show 0 ≤ t by grind) (show 0 ≤ 1 - t by grind)
  have c4 := mul_nn (show 0 ≤ t by grind) (show 0 ≤ 1 - s by grind)
  have d1 := sq_nn (s + t - 1)
  have d2 := sq_nn (s - t)
  refine ⟨by grind, by grind, by grind, by grind⟩
/-- It is at most three times the greatest difference. -/
theorem bz_high {c0 c1 c2 c3 s t m : Rat} (h0 : 0 ≤ s) (h1 : s ≤ t) (h2 : t ≤ 1) (k1 : ab (c1 - c0) ≤ m) (k2 : ab (c2 - c1) ≤ m) (k3 : ab (c3 - c2) ≤ m) : ab (bz c0 c1 c2 c3 t - bz c0 c1 c2 c3 s) ≤ (t - s) * (3 * m) := by
  obtain ⟨w1, w2, w3, _⟩ := wts h0 h1 h2
  rw [bz_step, ab_mul, ab_of_nonneg (x := t - s) (by grind)]
  refine Rat.mul_le_mul_of_nonneg_left ?_ (by grind)
  have n1 := ab_add_le ((c1 - c0) * ((1 - s) * (1 - s) + (1 - s) * (1 - t) + (1 - t) * (1 - t)) + (c2 - c1) * (3 * (s + t) - 2 * (s * s + s * t + t * t))) ((c3 - c2) * (s * s + s * t + t * t))
  have n2 := ab_add_le ((c1 - c0) * ((1 - s) * (1 - s) + (1 - s) * (1 - t) + (1 - t) * (1 - t))) ((c2 - c1) * (3 * (s + t) - 2 * (s * s + s * t + t * t)))
  have p1 := ab_mul_le k1 (show ab ((1 - s) * (1 - s) + (1 - s) * (1 - t) + (1 - t) * (1 - t)) ≤ _ by rw [ab_of_nonneg w1]; exact Rat.le_refl)
  have p2' := ab_mul_le k2 (show ab (3 * (s + t) - 2 * (s * s + s * t + t * t)) ≤ _ by rw [ab_of_nonneg w2]; exact Rat.le_refl)
  have p3 := ab_mul_le k3 (show ab (s * s + s * t + t * t) ≤ _ by rw [ab_of_nonneg w3]; exact Rat.le_refl)
  refine Rat.le_trans n1 ?_
  grind
/-- Differences of which the middle one is the least turn no curve. -/
theorem bz_up {c0 c1 c2 c3 s t : Rat} (h0 : 0 ≤ s) (h1 : s ≤ t) (h2 : t ≤ 1) (k1 : ab (c2 - c1) ≤ c1 - c0) (k2 : ab (c2 - c1) ≤ c3 - c2) : 0 ≤ bz c0 c1 c2 c3 t - bz c0 c1 c2 c3 s := by
  obtain ⟨w1, w2, w3, w4⟩ := wts h0 h1 h2
  rw [bz_step]
  refine mul_nn (by grind) ?_
  have hb := ab_nonneg (c2 - c1)
  obtain ⟨a1, a2⟩ := ab_iff.1 (show ab (c2 - c1) ≤ ab (c2 - c1) from Rat.le_refl)
  generalize ab (c2 - c1) = b at *
  have p1 := Rat.mul_le_mul_of_nonneg_right k1 w1
  have p2' := Rat.mul_le_mul_of_nonneg_right a2 w2
  have p3 := Rat.mul_le_mul_of_nonneg_right k2 w3
  have p4 := mul_nn hb w4
  grind
theorem qz_step (a b c s t : Rat) : qz a b c t - qz a b c s = (t - s) * ((b - a) * (2 - s - t) + (c - b) * (s + t)) := by unfold qz bz; grind

/-! ### low steps, or one way -/
theorem sq17 {M N : Rat} (hM : 0 ≤ M) (hN : 1 ≤ N) (h : 3 * (M * M) ≤ N * N * (1 + 1 / 100000) + 1 / 100000) : 17 / 10 * M ≤ N := by
  rcases Rat.le_total (a := 17 / 10 * M) (b := N) with c | c
  · exact c
  · have m1 := Rat.mul_le_mul_of_nonneg_left c (show 0 ≤ N by grind)
    have m2 := Rat.mul_le_mul_of_nonneg_right c (show 0 ≤ 17 / 10 * M by grind)
    have m3 := Rat.mul_le_mul_of_nonneg_left hN (show 0 ≤ N by grind)
    rcases lt_or_eq c with d | d
    · have : N * N ≤ 17 / 10 * M * (17 / 10 * M) := by grind
      grind
    · grind
theorem nn20 {n : Nat} (h : n ≤ 20) : (n : Rat) * n ≤ 20 * n := by
  have h1 : (n : Rat) ≤ 20 := by exact_mod_cast h
  have h0 : (0 : Rat) ≤ n := by exact_mod_cast Nat.zero_le n
  exact Rat.mul_le_mul_of_nonneg_right h1 h0
theorem bend_C {n : Nat} {a b c : Rat} (ra : ab a ≤ 256) (rb : ab b ≤ 256) (rc : ab c ≤ 256) (h1 : 17 / 10 * ab (b + c - a) ≤ n * n) (h2 : 17 / 10 * ab (c - a - b) ≤ n * n) :
    (ab a ≤ 37 / 3 * n ∧ ab b ≤ 37 / 3 * n ∧ ab c ≤ 37 / 3 * n) ∨ ∃ sg : Rat, (sg = 1 ∨ sg = -1) ∧ ab b ≤ sg * a ∧ ab b ≤ sg * c := by
  have h0 : (0 : Rat) ≤ n := by exact_mod_cast Nat.zero_le n
  rcases Nat.lt_or_ge n 21 with hn | hn
  · have hq := nn20 (n := n) (by omega)
    obtain ⟨p1, p2⟩ := ab_iff.1 (show ab (b + c - a) ≤ 10 / 17 * (20 * n) by grind)
    obtain ⟨p3, p4⟩ := ab_iff.1 (show ab (c - a - b) ≤ 10 / 17 * (20 * n) by grind)
    have hb : ab b ≤ 37 / 3 * n := ab_le (by grind) (by grind)
    by_cases k1 : a ≤ 37 / 3 * n
    · by_cases k2 : -a ≤ 37 / 3 * n
      · by_cases k3 : c ≤ 37 / 3 * n
        · by_cases k4 : -c ≤ 37 / 3 * n
          · exact .inl ⟨ab_le k1 (by grind), hb, ab_le k3 (by grind)⟩
          · exact .inr ⟨-1, .inr rfl, ab_le (by grind) (by grind), ab_le (by grind) (by grind)⟩
        · exact .inr ⟨1, .inl rfl, ab_le (by grind) (by grind), ab_le (by grind) (by grind)⟩
      · exact .inr ⟨-1, .inr rfl, ab_le (by grind) (by grind), ab_le (by grind) (by grind)⟩
    · exact .inr ⟨1, .inl rfl, ab_le (by grind) (by grind), ab_le (by grind) (by grind)⟩
  · have : (21 : Rat) ≤ n := by exact_mod_cast hn
    exact .inl ⟨by grind, by grind, by grind⟩
/-- Its steps are low, or it goes one way. -/
def Bend (f : Rat → Rat) (n : Nat) : Prop :=
  (∀ s t, 0 ≤ s → s ≤ t → t ≤ 1 → ab (f t - f s) ≤ (t - s) * (37 * n)) ∨ ∃ sg : Rat, (sg = 1 ∨ sg = -1) ∧ ∀ s t, 0 ≤ s → s ≤ t → t ≤ 1 → 0 ≤ sg * (f t - f s)
theorem bend_cube {n : Nat} (hn : 1 ≤ n) {c0 c1 c2 c3 : Rat} (r1 : ab (c1 - c0) ≤ 256) (r2 : ab (c2 - c1) ≤ 256) (r3 : ab (c3 - c2) ≤ 256)
    (h1 : 3 * ((c0 - 2 * c1 + c3) * (c0 - 2 * c1 + c3)) ≤ (n : Rat) * n * ((n : Rat) * n) * (1 + 1 / 100000) + 1 / 100000) (h2 : 3 * ((c0 - 2 * c2 + c3) * (c0 - 2 * c2 + c3)) ≤ (n : Rat) * n * ((n : Rat) * n) * (1 + 1 / 100000) + 1 / 100000) : Bend (bz c0 c1 c2 c3) n := by
  have hn1 : (1 : Rat) ≤ n := by exact_mod_cast hn
  have hN : (1 : Rat) ≤ (n : Rat) * n := by
    have := Rat.mul_le_mul_of_nonneg_left hn1 (show (0 : Rat) ≤ n by grind)
    grind
  have sq : ∀ x : Rat, ab x * ab x = x * x := fun x => by
    rcases Rat.le_total (a := 0) (b := x) with c | c
    · rw [ab_of_nonneg c]
    · rw [ab_of_nonpos c]; grind
  have k1 := sq17 (ab_nonneg (c0 - 2 * c1 + c3)) hN (by rw [sq]; exact h1)
  have k2 := sq17 (ab_nonneg (c0 - 2 * c2 + c3)) hN (by rw [sq]; exact h2)
  rcases bend_C (n := n) r1 r2 r3 (by rw [show (c2 - c1) + (c3 - c2) - (c1 - c0) = c0 - 2 * c1 + c3 by grind]; exact k1) (by rw [show (c3 - c2) - (c1 - c0) - (c2 - c1) = c0 - 2 * c2 + c3 by grind]; exact k2) with ⟨m1, m2, m3⟩ | ⟨sg, hs, m1, m2⟩
  · refine .inl fun s t h0 hst h1 => ?_
    have := bz_high h0 hst h1 m1 m2 m3
    rw [show 3 * (37 / 3 * (n : Rat)) = 37 * n by grind] at this
    exact this
  · refine .inr ⟨sg, hs, fun s t h0 hst h1 => ?_⟩
    rcases hs with e | e <;> subst e
    · have := bz_up (c0 := c0) (c1 := c1) (c2 := c2) (c3 := c3) h0 hst h1 (by grind) (by grind)
      grind
    · have := bz_up (c0 := -c0) (c1 := -c1) (c2 := -c2) (c3 := -c3) h0 hst h1 (by rw [show -c2 - -c1 = -(c2 - c1) by grind, ab_neg]; grind) (by rw [show -c2 - -c1 = -(c2 - c1) by grind, ab_neg]; grind)
      have e2 : ∀ t, bz (-c0) (-c1) (-c2) (-c3) t = -bz c0 c1 c2 c3 t := fun t => by unfold bz; grind
      rw [e2, e2] at this
      grind
theorem bend_quad {n : Nat} (hn : 1 ≤ n) {c0 c1 c2 : Rat} (r1 : ab (c1 - c0) ≤ 256) (r2 : ab (c2 - c1) ≤ 256) (h1 : 3 * ((c0 - 2 * c1 + c2) * (c0 - 2 * c1 + c2)) ≤ (n : Rat) * n * ((n : Rat) * n) * (1 + 1 / 100000) + 1 / 100000) : Bend (qz c0 c1 c2) n := by
  have hn1 : (1 : Rat) ≤ n := by exact_mod_cast hn
  have hN : (1 : Rat) ≤ (n : Rat) * n := by
    have := Rat.mul_le_mul_of_nonneg_left hn1 (show (0 : Rat) ≤ n by grind)
    grind
  have sq : ∀ x : Rat, ab x * ab x = x * x := fun x => by
    rcases Rat.le_total (a := 0) (b := x) with c | c
    · rw [ab_of_nonneg c]
    · rw [ab_of_nonpos c]; grind
  have k1 := sq17 (ab_nonneg (c0 - 2 * c1 + c2)) hN (by rw [sq]; exact h1)
  have key : (ab (c1 - c0) ≤ 37 / 2 * n ∧ ab (c2 - c1) ≤ 37 / 2 * n) ∨ ∃ sg : Rat, (sg = 1 ∨ sg = -1) ∧ 0 ≤ sg * (c1 - c0) ∧ 0 ≤ sg * (c2 - c1) := by
    rcases Nat.lt_or_ge n 21 with hn2 | hn2
    · have hq := nn20 (n := n) (by omega)
      obtain ⟨p1, p2⟩ := ab_iff.1 (show ab (c0 - 2 * c1 + c2) ≤ 10 / 17 * (20 * n) by grind)
      by_cases q1 : c1 - c0 ≤ 37 / 2 * n
      · by_cases q2 : -(c1 - c0) ≤ 37 / 2 * n
        · by_cases q3 : c2 - c1 ≤ 37 / 2 * n
          · by_cases q4 : -(c2 - c1) ≤ 37 / 2 * n
            · exact .inl ⟨ab_le q1 (by grind), ab_le q3 (by grind)⟩
            · exact .inr ⟨-1, .inr rfl, by grind, by grind⟩
          · exact .inr ⟨1, .inl rfl, by grind, by grind⟩
        · exact .inr ⟨-1, .inr rfl, by grind, by grind⟩
      · exact .inr ⟨1, .inl rfl, by grind, by grind⟩
    · have : (21 : Rat) ≤ n := by exact_mod_cast hn2
      exact .inl ⟨by grind, by grind⟩
  rcases key with ⟨m1, m2⟩ | ⟨sg, hs, m1, m2⟩
  · refine .inl fun s t h0 hst h1 => ?_
    rw [qz_step, ab_mul, ab_of_nonneg (x := t - s) (by grind)]
    refine Rat.mul_le_mul_of_nonneg_left ?_ (by grind)
    have n1 := ab_add_le ((c1 - c0) * (2 - s - t)) ((c2 - c1) * (s + t))
    have p1 := ab_mul_le m1 (show ab (2 - s - t) ≤ 2 - s - t by rw [ab_of_nonneg (by grind)]; exact Rat.le_refl)
    have p2' := ab_mul_le m2 (show ab (s + t) ≤ s + t by rw [ab_of_nonneg (by grind)]; exact Rat.le_refl)
    refine Rat.le_trans n1 ?_
    grind
  · refine .inr ⟨sg, hs, fun s t h0 hst h1 => ?_⟩
    rw [qz_step]
    have p1 := mul_nn m1 (show 0 ≤ 2 - s - t by grind)
    have p2' := mul_nn m2 (show 0 ≤ s + t by grind)
    have := mul_nn (show 0 ≤ t - s by grind) (show 0 ≤ sg * (c1 - c0) * (2 - s - t) + sg * (c2 - c1) * (s + t) by grind)
    grind

/-! ### a curve's lines -/
theorem pr_cut (r : Int) : Cut (pr r) := ⟨fun h => pr_mono r h, fun a => (pr_bd r a).1, fun a => (pr_bd r a).2⟩
theorem pr_lip (r : Int) (a b : Rat) : ab (pr r a - pr r b) ≤ ab (a - b) := by
  unfold pr
  rcases Rat.le_total (a := a) (b := b) with c | c
  · have h1 := cl_mono (show a - r ≤ b - r by grind)
    have h2 := cl_lip (show a - r ≤ b - r by grind)
    rw [ab_of_nonpos (by grind), ab_of_nonpos (by grind)]
    grind
  · have h1 := cl_mono (show b - r ≤ a - r by grind)
    have h2 := cl_lip (show b - r ≤ a - r by grind)
    rw [ab_of_nonneg (by grind), ab_of_nonneg (by grind)]
    grind
/-- What a curve's lines are: from px, py to dx, dy, in a box of width R. -/
structure CurveC (x0 x1 y0 y1 : Rat) (px py dx dy : Nat) (l : List (Nat × Nat)) : Prop where
  pts : ∀ q ∈ l, (F32 q.1 ∧ Grid (-93) (V q.1) ∧ x0 ≤ V q.1 ∧ V q.1 ≤ x1) ∧ (F32 q.2 ∧ Grid (-93) (V q.2) ∧ y0 ≤ V q.2 ∧ V q.2 ≤ y1)
  len : l.length ≤ 36
  cv : ∃ b, Cv b (linesOf l px py)
  wid : sumE wL (linesOf l px py) ≤ (x1 - x0) * (17 / 9) + 1 / 100
  last : lastG l px py = (dx, dy)
theorem curve_C {x0 x1 y0 y1 a0 a1 a2 a3 A K : Rat} {fy : Rat → Rat} {n : Nat} {iv : Rat} {px py dx dy : Nat} {l : List (Nat × Nat)} (hn : 1 ≤ n) (hiv : iv * n = 1) (hlen : l.length ≤ 36) (hlast : lastG l px py = (dx, dy))
    (k0 : x0 ≤ a0 ∧ a0 ≤ x1) (k1 : x0 ≤ a1 ∧ a1 ≤ x1) (k2 : x0 ≤ a2 ∧ a2 ≤ x1) (k3 : x0 ≤ a3 ∧ a3 ≤ x1) (hcub : Cub A K fy) (hb : Bend fy n)
    (hp : Smp (bz a0 a1 a2 a3) x0 x1 0 px ∧ Smp fy y0 y1 0 py) (h : Along (fun t qx qy => Smp (bz a0 a1 a2 a3) x0 x1 t qx ∧ Smp fy y0 y1 t qy) (iv * (1001 / 1000)) 0 l) : CurveC x0 x1 y0 y1 px py dx dy l := by
  have hlr : (l.length : Rat) ≤ 36 := by exact_mod_cast hlen
  have tvr : ∀ r : Int, ∃ ts : List Rat, Inc 0 ts ∧ (∀ u ∈ ts, u ≤ 1) ∧ sumE (fun e => ab (dL r e)) (linesOf l px py) ≤ tvL (fun t => pr r (fy t)) 0 ts + 9 / 1000 := by
    intro r
    obtain ⟨ts, q1, q2, q3⟩ := along_tv (ε := 1 / 8000) (G := fun t => pr r (fy t)) (v := fun q => pr r (V q.2)) (fun t x y hq => Rat.le_trans (pr_lip r _ _) hq.2.near) l 0 px py Rat.le_refl (by decide) hp h
    exact ⟨ts, q1, q2, by
      have e : sumE (fun e => ab (dL r e)) (linesOf l px py) = sumE (fun e => ab (pr r (V e.2.2) - pr r (V e.1.2))) (linesOf l px py) := rfl
      rw [e]
      grind⟩
  have hnet : ∀ r : Int, ab (sumE (dL r) (linesOf l px py)) ≤ 1 := by
    intro r
    have e : sumE (dL r) (linesOf l px py) = pr r (V (lastG l px py).2) - pr r (V py) := lines_sum (pr r) l px py
    rw [e]
    have a := pr_bd r (V (lastG l px py).2)
    have b := pr_bd r (V py)
    exact ab_le (by grind) (by grind)
  refine ⟨fun q hq => ?_, hlen, ?_, ?_, hlast⟩
  · obtain ⟨t', h1, h2⟩ := along_pts l 0 h q hq
    exact ⟨⟨h1.fin, h1.grid, h1.ge, h1.le⟩, ⟨h2.fin, h2.grid, h2.ge, h2.le⟩⟩
  · rcases hb with hb | ⟨sg, hs, hb⟩
    · refine ⟨false, fun r => ?_, hnet, fun _ => ?_⟩
      · obtain ⟨ts, q1, q2, q3⟩ := tvr r
        have := tv_three hcub (pr_cut r) ts 0 q1
        rw [if_neg (by decide)]
        grind
      · refine along_all (R := fun e => hL e ≤ 371 / 10) (fun t t' px py qx qy t0 t1 t2 t3 hp hq => ?_) l 0 px py Rat.le_refl hp h
        have k := hb t t' t0 t1 t2
        have m1 : (t' - t) * (37 * (n : Rat)) ≤ iv * (1001 / 1000) * (37 * n) := Rat.mul_le_mul_of_nonneg_right t3 (by
          have : (0 : Rat) ≤ n := by exact_mod_cast Nat.zero_le n
          grind)
        have m2 : iv * (1001 / 1000) * (37 * (n : Rat)) = 37 * (1001 / 1000) * (iv * n) := by grind
        rw [m2, hiv] at m1
        have s1 := hq.2.near
        have s2 := hp.2.near
        have e : V qy - V py = (V qy - fy t') + (fy t' - fy t) - (V py - fy t) := by grind
        have b1 := ab_sub_le ((V qy - fy t') + (fy t' - fy t)) (V py - fy t)
        have b2 := ab_add_le (V qy - fy t') (fy t' - fy t)
        rw [← e] at b1
        show ab (V qy - V py) ≤ 371 / 10
        grind
    · refine ⟨true, fun r => ?_, hnet, fun hc => by cases hc⟩
      obtain ⟨ts, q1, q2, q3⟩ := tvr r
      have := tv_one (pr_cut r) hs hb ts 0 Rat.le_refl q1 q2
      have p := pr_bd r (fy 0)
      rw [if_pos rfl]
      split at this <;> grind
  · obtain ⟨ts, q1, q2, q3⟩ := along_tv (ε := 1 / 8000) (G := bz a0 a1 a2 a3) (v := fun q => V q.1) (fun t x y hq => hq.1.near) l 0 px py Rat.le_refl (by decide) hp h
    have k := tv_wide (c0 := a0) (c1 := a1) (c2 := a2) (c3 := a3) (m := (x0 + x1) / 2) (h := (x1 - x0) / 2) (ab_le (by grind) (by grind)) (ab_le (by grind) (by grind)) (ab_le (by grind) (by grind)) (ab_le (by grind) (by grind)) ts 0 Rat.le_refl (by decide) q1 q2
    rw [vr_01.1] at k
    have e : sumE wL (linesOf l px py) = sumE (fun e => ab (V e.2.1 - V e.1.1)) (linesOf l px py) := rfl
    rw [e]
    grind
end Go.Proofs.Ytmgcbodlolnheaa

namespace Go.Proofs.Ytmgcbodlolnheaa
open Flt Go.RowKit
set_option linter.unusedVariables false

theorem V333 : V 1051361018 ≤ 333 / 1000 + 1 / 10000000 := by
  obtain ⟨h1, h2⟩ := read_V (a := 1051361018) (s := false) (m := 11173626) (e := -25) (by decide)
  rw [h2]
  have := p2_neg 25
  simp only [sgn]
  push_cast at this ⊢
  grind
/-- How far a curve is from a line. -/
theorem devSq_C {x0 x1 x2 y0 y1 y2 : Int} (h0 : In128 x0) (h1 : In128 x1) (h2 : In128 x2) (h3 : In128 y0) (h4 : In128 y1) (h5 : In128 y2) :
    FdevSqOk (wq x0) (wq y0) (wq x1) (wq y1) (wq x2) (wq y2) ∧ Bd (fdevSq (wq x0) (wq y0) (wq x1) (wq y1) (wq x2) (wq y2)) 19 ∧ 0 ≤ V (fdevSq (wq x0) (wq y0) (wq x1) (wq y1) (wq x2) (wq y2)) ∧
    ((x0 : Rat) / 64 - 2 * ((x1 : Rat) / 64) + (x2 : Rat) / 64) * ((x0 : Rat) / 64 - 2 * ((x1 : Rat) / 64) + (x2 : Rat) / 64) ≤ V (fdevSq (wq x0) (wq y0) (wq x1) (wq y1) (wq x2) (wq y2)) * (1 + 1 / 1000000) + 1 / 1000000 ∧
    ((y0 : Rat) / 64 - 2 * ((y1 : Rat) / 64) + (y2 : Rat) / 64) * ((y0 : Rat) / 64 - 2 * ((y1 : Rat) / 64) + (y2 : Rat) / 64) ≤ V (fdevSq (wq x0) (wq y0) (wq x1) (wq y1) (wq x2) (wq y2)) * (1 + 1 / 1000000) + 1 / 1000000 := by
  unfold In128 at *
  obtain ⟨a1, a2, a3⟩ := dev_st (x := x0) (y := x1) (z := x2) (by omega) (by omega) (by omega)
  obtain ⟨b1, b2, b3⟩ := dev_st (x := y0) (y := y1) (z := y2) (by omega) (by omega) (by omega)
  have bnd : ∀ n : Int, -32768 ≤ n ∧ n ≤ 32768 → ab ((n : Rat) / 64) ≤ 512 := by
    intro n h
    have c1 := castLe h.1
    have c2 := castLe h.2
    push_cast at c1 c2
    exact ab_le (by grind) (by grind)
  obtain ⟨s1, s2⟩ := sq_le (bnd (x0 - 2 * x1 + x2) (by omega))
  obtain ⟨s3, s4⟩ := sq_le (bnd (y0 - 2 * y1 + y2) (by omega))
  have u1 := a3.nonneg s1
  have u2 := a3.leInt (n := 262144) (by push_cast; grind) (by decide) (by decide)
  have u3 := b3.nonneg s3
  have u4 := b3.leInt (n := 262144) (by push_cast; grind) (by decide) (by decide)
  push_cast at u2 u4
  obtain ⟨q, r⟩ := fadd_ok a2 b2 (big126 (ab_le (by grind) (by grind)))
  have e19 : p2 19 = 524288 := by have := p2_val 19; simpa using this
  have hdef : fdevSq (wq x0) (wq y0) (wq x1) (wq y1) (wq x2) (wq y2) = fop .add (fop .mul (fdev (wq x0) (wq x1) (wq x2)) (fdev (wq x0) (wq x1) (wq x2))) (fop .mul (fdev (wq y0) (wq y1) (wq y2)) (fdev (wq y0) (wq y1) (wq y2))) := rfl
  rw [hdef]
  have n1 := a3.near5.2
  have n2 := b3.near5.2
  have n3 := r.near5.2
  rw [ab_of_nonneg s1] at n1
  rw [ab_of_nonneg s3] at n2
  rw [ab_of_nonneg (x := V (fop .mul (fdev (wq x0) (wq x1) (wq x2)) (fdev (wq x0) (wq x1) (wq x2))) + V (fop .mul (fdev (wq y0) (wq y1) (wq y2)) (fdev (wq y0) (wq y1) (wq y2)))) (by grind)] at n3
  obtain ⟨m1, m2⟩ := ab_iff.1 n1
  obtain ⟨m3, m4⟩ := ab_iff.1 n2
  obtain ⟨m5, m6⟩ := ab_iff.1 n3
  have ex : (x0 : Rat) / 64 - 2 * ((x1 : Rat) / 64) + (x2 : Rat) / 64 = ((x0 - 2 * x1 + x2 : Int) : Rat) / 64 := by push_cast; grind
  have ey : (y0 : Rat) / 64 - 2 * ((y1 : Rat) / 64) + (y2 : Rat) / 64 = ((y0 - 2 * y1 + y2 : Int) : Rat) / 64 := by push_cast; grind
  rw [ex, ey]
  exact ⟨⟨a1, b1, q⟩, r.bd (by rw [e19]; exact ab_le (by grind) (by grind)) (by decide), r.nonneg (by grind), by grind, by grind⟩
/-- The parts of a curve, and why they are enough. -/
theorem parts_dev {D : Nat} (hD : Bd D 19) (h0 : 0 ≤ V D) : ∃ n : Nat, 1 ≤ n ∧ n ≤ 36 ∧ (∀ x : Rat, x ≤ V D * (1 + 1 / 1000000) + 1 / 1000000 → 3 * x ≤ (n : Rat) * n * ((n : Rat) * n) * (1 + 1 / 100000) + 1 / 100000) ∧
    (fge D 1051361018 = true → PartsOk D ∧ parts D = (n : Int)) ∧ (fge D 1051361018 ≠ true → n = 1) := by
  by_cases hf : fge D 1051361018 = true
  · obtain ⟨p1, p2', p3, p4⟩ := parts_C hD h0
    obtain ⟨n, hn⟩ : ∃ n : Nat, parts D = (n : Int) := ⟨(parts D).toNat, by omega⟩
    rw [hn, Rat.intCast_natCast] at p4
    have hn1 : (1 : Rat) ≤ n := by exact_mod_cast (show 1 ≤ n by omega)
    have hN : (1 : Rat) ≤ (n : Rat) * n := by
      have := Rat.mul_le_mul_of_nonneg_left hn1 (show (0 : Rat) ≤ n by grind)
      grind
    have hNN : (1 : Rat) ≤ (n : Rat) * n * ((n : Rat) * n) := by
      have := Rat.mul_le_mul_of_nonneg_left hN (show (0 : Rat) ≤ (n : Rat) * n by grind)
      grind
    exact ⟨n, by omega, by omega, fun x hx => by grind, fun _ => ⟨p1, hn⟩, fun hc => absurd hf hc⟩
  · have hlt : V D < V 1051361018 := by
      have : ¬ V 1051361018 ≤ V D := fun hc => hf ((fge_iff hD.fin cThird.1).2 hc)
      grind
    have := V333
    exact ⟨1, by decide, by decide, fun x hx => by push_cast; grind, fun hc => absurd hc hf, fun _ => rfl⟩
/-- A coordinate's box. -/
def InB (lo hi : Rat) (n : Int) : Prop := In128 n ∧ lo ≤ (n : Rat) / 64 ∧ (n : Rat) / 64 ≤ hi
theorem InB.diff {lo hi : Rat} {a b : Int} (ha : InB lo hi a) (hb : InB lo hi b) : ab ((b : Rat) / 64 - (a : Rat) / 64) ≤ 256 := by
  obtain ⟨⟨a1, a2⟩, _⟩ := ha
  obtain ⟨⟨b1, b2⟩, _⟩ := hb
  have c1 := castLe a1
  have c2 := castLe a2
  have c3 := castLe b1
  have c4 := castLe b2
  push_cast at c1 c2 c3 c4
  exact ab_le (by grind) (by grind)
theorem Smp.start {f : Rat → Rat} {lo hi t : Rat} {a : Int} (ha : InB lo hi a) (hf : f t = (a : Rat) / 64) : Smp f lo hi t (wq a) := by
  obtain ⟨⟨a1, a2⟩, a3, a4⟩ := ha
  obtain ⟨f1, v, g⟩ := wqV (n := a) (by omega)
  refine ⟨f1, ?_, g.up (by decide), by rw [v]; exact a3, by rw [v]; exact a4⟩
  rw [v, hf]
  have : (a : Rat) / 64 - (a : Rat) / 64 = 0 := by grind
  rw [this]
  decide +kernel
section
variable {x0 x1 y0 y1 : Rat} (hx0 : -128 ≤ x0) (hx1 : x1 ≤ 128) (hy0 : -128 ≤ y0) (hy1 : y1 ≤ 128) {ax ay bx py cx cy dx dy : Int} (h1 : InB x0 x1 ax) (h2 : InB y0 y1 ay) (h3 : InB x0 x1 bx) (h4 : InB y0 y1 py) (h5 : InB x0 x1 cx) (h6 : InB y0 y1 cy)
include hx0 hx1 hy0 hy1 h1 h2 h3 h4 h5 h6
theorem quad_C : QuadOk (wq ax) (wq ay) (wq bx) (wq py) (wq cx) (wq cy) ∧ CurveC x0 x1 y0 y1 (wq ax) (wq ay) (wq cx) (wq cy) (quadPts (wq ax) (wq ay) (wq bx) (wq py) (wq cx) (wq cy)) := by
  obtain ⟨d1, d2, d3, d4, d5⟩ := devSq_C h1.1 h3.1 h5.1 h2.1 h4.1 h6.1
  obtain ⟨n, n1, n2, n3, n4, n5⟩ := parts_dev d2 d3
  have hb := bend_quad n1 (c0 := (ay : Rat) / 64) (c1 := (py : Rat) / 64) (c2 := (cy : Rat) / 64) (h2.diff h4) (h4.diff h6) (n3 _ d5)
  have q0 : ∀ a b c : Rat, qz a b c 0 = a := fun a b c => by unfold qz bz; grind
  have q1 : ∀ a b c : Rat, qz a b c 1 = c := fun a b c => by unfold qz bz; grind
  have hst : Smp (qz ((ax : Rat) / 64) ((bx : Rat) / 64) ((cx : Rat) / 64)) x0 x1 0 (wq ax) ∧ Smp (qz ((ay : Rat) / 64) ((py : Rat) / 64) ((cy : Rat) / 64)) y0 y1 0 (wq ay) := ⟨Smp.start h1 (q0 _ _ _), Smp.start h2 (q0 _ _ _)⟩
  have hen : Smp (qz ((ax : Rat) / 64) ((bx : Rat) / 64) ((cx : Rat) / 64)) x0 x1 1 (wq cx) ∧ Smp (qz ((ay : Rat) / 64) ((py : Rat) / 64) ((cy : Rat) / 64)) y0 y1 1 (wq cy) := ⟨Smp.start h5 (q1 _ _ _), Smp.start h6 (q1 _ _ _)⟩
  obtain ⟨_, a3, a4⟩ := h1
  obtain ⟨_, b3, b4⟩ := h3
  obtain ⟨_, c3, c4⟩ := h5
  obtain ⟨N, hN⟩ : ∃ N : Int, N = (n : Int) - 1 := ⟨_, rfl⟩
  obtain ⟨iv, i1, i2, i3, _⟩ := inv_36 (N := N) (by omega) (by omega)
  have hNr : (1 : Rat) + (N : Rat) = n := by rw [hN]; push_cast; grind
  have fin : ∀ l, l.length ≤ 36 → lastG l (wq ax) (wq ay) = (wq cx, wq cy) → Along (fun t qx qy => Smp (qz ((ax : Rat) / 64) ((bx : Rat) / 64) ((cx : Rat) / 64)) x0 x1 t qx ∧ Smp (qz ((ay : Rat) / 64) ((py : Rat) / 64) ((cy : Rat) / 64)) y0 y1 t qy) (iv * (1001 / 1000)) 0 l →
      CurveC x0 x1 y0 y1 (wq ax) (wq ay) (wq cx) (wq cy) l := fun l k1 k2 k3 =>
    curve_C n1 (by rw [← hNr]; exact i1) k1 k2 ⟨a3, a4⟩ (by constructor <;> grind) (by constructor <;> grind) ⟨c3, c4⟩ (bz_cub _ _ _ _) hb hst k3
  unfold QuadOk quadPts
  generalize fdevSq (wq ax) (wq ay) (wq bx) (wq py) (wq cx) (wq cy) = D at *
  by_cases hf : fge D 1051361018 = true
  · obtain ⟨p1, p2'⟩ := n4 hf
    have hst2 := steps_C (ok := fun t => QuadAtOk (wq ax) (wq bx) (wq cx) t ∧ QuadAtOk (wq ay) (wq py) (wq cy) t) (pt := fun t => (quadAt (wq ax) (wq bx) (wq cx) t, quadAt (wq ay) (wq py) (wq cy) t)) (N := N) (dx := wq cx) (dy := wq cy) (by omega) (by omega) i1
      (P := fun t qx qy => Smp (qz ((ax : Rat) / 64) ((bx : Rat) / 64) ((cx : Rat) / 64)) x0 x1 t qx ∧ Smp (qz ((ay : Rat) / 64) ((py : Rat) / 64) ((cy : Rat) / 64)) y0 y1 t qy) (fun t ht t0 t1 gt => by
        obtain ⟨u1, u2⟩ := quad_smp ht t0 t1 gt hx0 hx1 (by assumption) (by assumption) (by assumption) a3 a4 b3 b4 c3 c4
        obtain ⟨w1, w2⟩ := quad_smp ht t0 t1 gt hy0 hy1 h2.1 h4.1 h6.1 h2.2.1 h2.2.2 h4.2.1 h4.2.2 h6.2.1 h6.2.2
        exact ⟨⟨u1, w1⟩, u2, w2⟩) hen N.toNat 0 0 fzero.1 (by rw [fzero.2]; exact Rat.le_refl) (by rw [fzero.2]; exact ⟨0, by rw [cast_zero]; grind⟩) (by
        rw [fzero.2]
        push_cast
        have : (0 : Rat) - 0 * iv = 0 := by grind
        rw [this]
        decide +kernel) (by omega)
    have eN : 1 + N = parts D := by omega
    have eN2 : N = parts D - 1 := by omega
    rw [eN] at hst2
    rw [← eN2]
    rw [if_pos hf]
    rw [fzero.2] at hst2
    refine ⟨⟨d1, fun _ => ⟨p1, hst2.1⟩⟩, fin _ ?_ (lastG_snoc _ _ _ _ _) hst2.2⟩
    rw [List.length_append, length_steps]
    simp only [List.length_cons, List.length_nil]
    omega
  · rw [if_neg hf]
    refine ⟨⟨d1, fun h => absurd h hf⟩, fin _ (by simp) rfl ⟨1, by decide, Rat.le_refl, ?_, hen, trivial⟩⟩
    have hn1 := n5 hf
    have : iv = 1 := by
      rw [hNr, hn1] at i1
      push_cast at i1
      grind
    rw [this]
    grind
variable (h7 : InB x0 x1 dx) (h8 : InB y0 y1 dy)
include h7 h8
theorem cube_C : CubeOk (wq ax) (wq ay) (wq bx) (wq py) (wq cx) (wq cy) (wq dx) (wq dy) ∧ CurveC x0 x1 y0 y1 (wq ax) (wq ay) (wq dx) (wq dy) (cubePts (wq ax) (wq ay) (wq bx) (wq py) (wq cx) (wq cy) (wq dx) (wq dy)) := by
  obtain ⟨d1, d2, d3, d4, d5⟩ := devSq_C h1.1 h3.1 h7.1 h2.1 h4.1 h8.1
  obtain ⟨e1, e2, e3, e4, e5⟩ := devSq_C h1.1 h5.1 h7.1 h2.1 h6.1 h8.1
  have hD : Bd (cubeD (wq ax) (wq ay) (wq bx) (wq py) (wq cx) (wq cy) (wq dx) (wq dy)) 19 ∧ 0 ≤ V (cubeD (wq ax) (wq ay) (wq bx) (wq py) (wq cx) (wq cy) (wq dx) (wq dy)) ∧
      V (fdevSq (wq ax) (wq ay) (wq bx) (wq py) (wq dx) (wq dy)) ≤ V (cubeD (wq ax) (wq ay) (wq bx) (wq py) (wq cx) (wq cy) (wq dx) (wq dy)) ∧ V (fdevSq (wq ax) (wq ay) (wq cx) (wq cy) (wq dx) (wq dy)) ≤ V (cubeD (wq ax) (wq ay) (wq bx) (wq py) (wq cx) (wq cy) (wq dx) (wq dy)) := by
    unfold cubeD
    split
    · rename_i hc
      rw [flt_iff d2.fin e2.fin] at hc
      exact ⟨e2, e3, Rat.le_of_lt hc, Rat.le_refl⟩
    · rename_i hc
      rw [flt_iff d2.fin e2.fin] at hc
      exact ⟨d2, d3, Rat.le_refl, by grind⟩
  obtain ⟨hD1, hD2, hD3, hD4⟩ := hD
  obtain ⟨n, n1, n2, n3, n4, n5⟩ := parts_dev hD1 hD2
  have hb := bend_cube n1 (c0 := (ay : Rat) / 64) (c1 := (py : Rat) / 64) (c2 := (cy : Rat) / 64) (c3 := (dy : Rat) / 64) (h2.diff h4) (h4.diff h6) (h6.diff h8) (n3 _ (by grind)) (n3 _ (by grind))
  have q0 : ∀ a b c d : Rat, bz a b c d 0 = a := fun a b c d => by unfold bz; grind
  have q1 : ∀ a b c d : Rat, bz a b c d 1 = d := fun a b c d => by unfold bz; grind
  have hst : Smp (bz ((ax : Rat) / 64) ((bx : Rat) / 64) ((cx : Rat) / 64) ((dx : Rat) / 64)) x0 x1 0 (wq ax) ∧ Smp (bz ((ay : Rat) / 64) ((py : Rat) / 64) ((cy : Rat) / 64) ((dy : Rat) / 64)) y0 y1 0 (wq ay) := ⟨Smp.start h1 (q0 _ _ _ _), Smp.start h2 (q0 _ _ _ _)⟩
  have hen : Smp (bz ((ax : Rat) / 64) ((bx : Rat) / 64) ((cx : Rat) / 64) ((dx : Rat) / 64)) x0 x1 1 (wq dx) ∧ Smp (bz ((ay : Rat) / 64) ((py : Rat) / 64) ((cy : Rat) / 64) ((dy : Rat) / 64)) y0 y1 1 (wq dy) := ⟨Smp.start h7 (q1 _ _ _ _), Smp.start h8 (q1 _ _ _ _)⟩
  obtain ⟨N, hN⟩ : ∃ N : Int, N = (n : Int) - 1 := ⟨_, rfl⟩
  obtain ⟨iv, i1, i2, i3, _⟩ := inv_36 (N := N) (by omega) (by omega)
  have hNr : (1 : Rat) + (N : Rat) = n := by rw [hN]; push_cast; grind
  have fin : ∀ l, l.length ≤ 36 → lastG l (wq ax) (wq ay) = (wq dx, wq dy) → Along (fun t qx qy => Smp (bz ((ax : Rat) / 64) ((bx : Rat) / 64) ((cx : Rat) / 64) ((dx : Rat) / 64)) x0 x1 t qx ∧ Smp (bz ((ay : Rat) / 64) ((py : Rat) / 64) ((cy : Rat) / 64) ((dy : Rat) / 64)) y0 y1 t qy) (iv * (1001 / 1000)) 0 l →
      CurveC x0 x1 y0 y1 (wq ax) (wq ay) (wq dx) (wq dy) l := fun l k1 k2 k3 =>
    curve_C n1 (by rw [← hNr]; exact i1) k1 k2 h1.2 h3.2 h5.2 h7.2 (bz_cub _ _ _ _) hb hst k3
  unfold CubeOk cubePts
  generalize cubeD (wq ax) (wq ay) (wq bx) (wq py) (wq cx) (wq cy) (wq dx) (wq dy) = D at *
  by_cases hf : fge D 1051361018 = true
  · obtain ⟨p1, p2'⟩ := n4 hf
    have hst2 := steps_C (ok := fun t => CubeAtOk (wq ax) (wq bx) (wq cx) (wq dx) t ∧ CubeAtOk (wq ay) (wq py) (wq cy) (wq dy) t) (pt := fun t => (cubeAt (wq ax) (wq bx) (wq cx) (wq dx) t, cubeAt (wq ay) (wq py) (wq cy) (wq dy) t)) (N := N) (dx := wq dx) (dy := wq dy) (by omega) (by omega) i1
      (P := fun t qx qy => Smp (bz ((ax : Rat) / 64) ((bx : Rat) / 64) ((cx : Rat) / 64) ((dx : Rat) / 64)) x0 x1 t qx ∧ Smp (bz ((ay : Rat) / 64) ((py : Rat) / 64) ((cy : Rat) / 64) ((dy : Rat) / 64)) y0 y1 t qy) (fun t ht t0 t1 gt => by
        obtain ⟨u1, u2⟩ := cube_smp ht t0 t1 gt hx0 hx1 h1.1 h3.1 h5.1 h7.1 h1.2.1 h1.2.2 h3.2.1 h3.2.2 h5.2.1 h5.2.2 h7.2.1 h7.2.2
        obtain ⟨w1, w2⟩ := cube_smp ht t0 t1 gt hy0 hy1 h2.1 h4.1 h6.1 h8.1 h2.2.1 h2.2.2 h4.2.1 h4.2.2 h6.2.1 h6.2.2 h8.2.1 h8.2.2
        exact ⟨⟨u1, w1⟩, u2, w2⟩) hen N.toNat 0 0 fzero.1 (by rw [fzero.2]; exact Rat.le_refl) (by rw [fzero.2]; exact ⟨0, by rw [cast_zero]; grind⟩) (by
        rw [fzero.2]
        push_cast
        have : (0 : Rat) - 0 * iv = 0 := by grind
        rw [this]
        decide +kernel) (by omega)
    have eN : 1 + N = parts D := by omega
    have eN2 : N = parts D - 1 := by omega
    rw [eN] at hst2
    rw [← eN2]
    rw [if_pos hf]
    rw [fzero.2] at hst2
    refine ⟨⟨d1, e1, fun _ => ⟨p1, hst2.1⟩⟩, fin _ ?_ (lastG_snoc _ _ _ _ _) hst2.2⟩
    rw [List.length_append, length_steps]
    simp only [List.length_cons, List.length_nil]
    omega
  · rw [if_neg hf]
    refine ⟨⟨d1, e1, fun h => absurd h hf⟩, fin _ (by simp) rfl ⟨1, by decide, Rat.le_refl, ?_, hen, trivial⟩⟩
    have hn1 := n5 hf
    have : iv = 1 := by
      rw [hNr, hn1] at i1
      push_cast at i1
      grind
    rw [this]
    grind
end
end Go.Proofs.Ytmgcbodlolnheaa

namespace Go.Proofs.Ytmgcbodlolnheaa
open Flt Go.RowKit
set_option linter.unusedVariables false

/-! ### calls of curves -/
def flatPts (c : List Pt) : List Int := c.flatMap fun q => [q.1, q.2]
def crvOp (c : List Pt) : Int × List Int := ((c.length : Int), flatPts c)
def crvPts (a : Pt) : List Pt → List (Nat × Nat)
  | [b, c] => quadPts (wq a.1) (wq a.2) (wq b.1) (wq b.2) (wq c.1) (wq c.2)
  | [b, c, d] => cubePts (wq a.1) (wq a.2) (wq b.1) (wq b.2) (wq c.1) (wq c.2) (wq d.1) (wq d.2)
  | _ => []
def crvEnd (a : Pt) : List Pt → Pt
  | [_, c] => c
  | [_, _, d] => d
  | _ => a
def runPts : Pt → List (List Pt) → List (Nat × Nat)
  | _, [] => []
  | a, c :: t => crvPts a c ++ runPts (crvEnd a c) t
def runEnd : Pt → List (List Pt) → Pt
  | a, [] => a
  | a, c :: t => runEnd (crvEnd a c) t
def Two3 (c : List Pt) : Prop := c.length = 2 ∨ c.length = 3
theorem Two3.cases {c : List Pt} (h : Two3 c) : (∃ p q, c = [p, q]) ∨ ∃ p q r, c = [p, q, r] := by
  match c, h with
  | [p, q], _ => exact .inl ⟨p, q, rfl⟩
  | [p, q, r], _ => exact .inr ⟨p, q, r, rfl⟩
  | [], h => rcases h with h | h <;> simp at h
  | [_], h => rcases h with h | h <;> simp at h
  | _ :: _ :: _ :: _ :: _, h => rcases h with h | h <;> simp at h
def curOps (a : Pt) (l : List (List Pt)) : List (Int × List Int) := (0, [a.1, a.2]) :: (l.map crvOp ++ [(4, [])])
def InP (x0 x1 y0 y1 : Rat) (q : Pt) : Prop := InB x0 x1 q.1 ∧ InB y0 y1 q.2

/-! ### chains behind each other -/
theorem lastG_append : ∀ (l m : List (Nat × Nat)) (px py : Nat), lastG (l ++ m) px py = lastG m (lastG l px py).1 (lastG l px py).2
  | [], m, px, py => rfl
  | (qx, qy) :: l, m, px, py => by rw [List.cons_append, lastG, lastG_append l m, lastG]
theorem linesOf_append : ∀ (l m : List (Nat × Nat)) (px py : Nat), linesOf (l ++ m) px py = linesOf l px py ++ linesOf m (lastG l px py).1 (lastG l px py).2
  | [], m, px, py => rfl
  | (qx, qy) :: l, m, px, py => by rw [List.cons_append, linesOf, linesOf_append l m, linesOf, lastG]; rfl
theorem linesOf_len : ∀ (l : List (Nat × Nat)) (px py : Nat), (linesOf l px py).length = l.length
  | [], _, _ => rfl
  | (qx, qy) :: l, px, py => by rw [linesOf, List.length_cons, linesOf_len l, List.length_cons]
theorem linesOf_ends : ∀ (l : List (Nat × Nat)) (px py : Nat), ∀ e ∈ linesOf l px py, (e.1 = (px, py) ∨ e.1 ∈ l) ∧ e.2 ∈ l
  | [], _, _, e, h => by simp [linesOf] at h
  | (qx, qy) :: l, px, py, e, h => by
    rw [linesOf] at h
    rcases List.mem_cons.1 h with rfl | h
    · exact ⟨.inl rfl, by simp⟩
    · obtain ⟨h1, h2⟩ := linesOf_ends l qx qy e h
      refine ⟨.inr ?_, by simp [h2]⟩
      rcases h1 with h1 | h1
      · rw [h1]; simp
      · simp [h1]
theorem polyF_append (W : Nat) (H : Int) (l m : List (Nat × Nat)) (px py : Nat) : polyF W H (l ++ m) px py = polyF W H l px py ++ polyF W H m (lastG l px py).1 (lastG l px py).2 := by
  rw [polyF_lines, polyF_lines, polyF_lines, linesOf_append, List.flatMap_append]
theorem filter_both {α : Type} (p : α → Bool) : ∀ l : List α, (l.filter p).length + (l.filter fun a => !p a).length = l.length
  | [] => rfl
  | a :: l => by
    have ih := filter_both p l
    by_cases h : p a = true
    · rw [List.filter_cons_of_pos h, List.filter_cons_of_neg (by simp [h])]; simp only [List.length_cons]; omega
    · rw [List.filter_cons_of_neg h, List.filter_cons_of_pos (by simp [h])]; simp only [List.length_cons]; omega
/-- A point in the box, as floats. -/
def PtB (x0 x1 y0 y1 : Rat) (q : Nat × Nat) : Prop := (F32 q.1 ∧ Grid (-93) (V q.1) ∧ x0 ≤ V q.1 ∧ V q.1 ≤ x1) ∧ (F32 q.2 ∧ Grid (-93) (V q.2) ∧ y0 ≤ V q.2 ∧ V q.2 ≤ y1)
theorem InP.pt {x0 x1 y0 y1 : Rat} {q : Pt} (h : InP x0 x1 y0 y1 q) : PtB x0 x1 y0 y1 (wq q.1, wq q.2) := by
  obtain ⟨⟨⟨a1, a2⟩, a3, a4⟩, ⟨⟨b1, b2⟩, b3, b4⟩⟩ := h
  obtain ⟨f1, v1, g1⟩ := wqV (n := q.1) (by omega)
  obtain ⟨f2, v2, g2⟩ := wqV (n := q.2) (by omega)
  exact ⟨⟨f1, g1.up (by decide), by rw [v1]; exact a3, by rw [v1]; exact a4⟩, ⟨f2, g2.up (by decide), by rw [v2]; exact b3, by rw [v2]; exact b4⟩⟩
section
variable {x0 x1 y0 y1 : Rat} (hx0 : -128 ≤ x0) (hx1 : x1 ≤ 128) (hy0 : -128 ≤ y0) (hy1 : y1 ≤ 128)
include hx0 hx1 hy0 hy1
theorem crv_C {a : Pt} {c : List Pt} (ha : InP x0 x1 y0 y1 a) (hc : ∀ q ∈ c, InP x0 x1 y0 y1 q) (h23 : Two3 c) :
    InP x0 x1 y0 y1 (crvEnd a c) ∧ CurveC x0 x1 y0 y1 (wq a.1) (wq a.2) (wq (crvEnd a c).1) (wq (crvEnd a c).2) (crvPts a c) := by
  rcases h23.cases with ⟨p, q, rfl⟩ | ⟨p, q, r, rfl⟩
  · have h1 := hc p (by simp)
    have h2 := hc q (by simp)
    exact ⟨h2, (quad_C hx0 hx1 hy0 hy1 ha.1 ha.2 h1.1 h1.2 h2.1 h2.2).2⟩
  · have h1 := hc p (by simp)
    have h2 := hc q (by simp)
    have h3 := hc r (by simp)
    exact ⟨h3, (cube_C hx0 hx1 hy0 hy1 ha.1 ha.2 h1.1 h1.2 h2.1 h2.2 h3.1 h3.2).2⟩
/-- All curves. -/
theorem run_C : ∀ (l : List (List Pt)) (a : Pt), InP x0 x1 y0 y1 a → (∀ c ∈ l, Two3 c ∧ ∀ q ∈ c, InP x0 x1 y0 y1 q) →
    InP x0 x1 y0 y1 (runEnd a l) ∧ lastG (runPts a l) (wq a.1) (wq a.2) = (wq (runEnd a l).1, wq (runEnd a l).2) ∧ (∀ q ∈ runPts a l, PtB x0 x1 y0 y1 q) ∧ (runPts a l).length ≤ 36 * l.length ∧
    sumE wL (linesOf (runPts a l) (wq a.1) (wq a.2)) ≤ l.length * ((x1 - x0) * (17 / 9) + 1 / 100) ∧
    ∃ cs : List (Bool × List Ln), cs.flatMap (·.2) = linesOf (runPts a l) (wq a.1) (wq a.2) ∧ cs.length = l.length ∧ ∀ c ∈ cs, Cv c.1 c.2
  | [], a, ha, _ => ⟨ha, rfl, fun q hq => by simp [runPts] at hq, by simp [runPts], by simp only [runPts, linesOf, sumE, List.length_nil]; push_cast; grind, [], rfl, rfl, fun c hc => by simp at hc⟩
  | c :: l, a, ha, hl => by
    obtain ⟨h1, h2⟩ := hl c (by simp)
    obtain ⟨k1, k2⟩ := crv_C hx0 hx1 hy0 hy1 ha h2 h1
    obtain ⟨i1, i2, i3, i4, i5, cs, i6, i7, i8⟩ := run_C l (crvEnd a c) k1 fun c hc => hl c (by simp [hc])
    obtain ⟨b, hb⟩ := k2.cv
    have hlast := k2.last
    have hlines : linesOf (runPts a (c :: l)) (wq a.1) (wq a.2) = linesOf (crvPts a c) (wq a.1) (wq a.2) ++ linesOf (runPts (crvEnd a c) l) (wq (crvEnd a c).1) (wq (crvEnd a c).2) := by
      rw [runPts, linesOf_append, hlast]
    refine ⟨i1, ?_, fun q hq => ?_, ?_, ?_, (b, linesOf (crvPts a c) (wq a.1) (wq a.2)) :: cs, ?_, ?_, fun c' hc' => ?_⟩
    · rw [runPts, lastG_append, hlast, i2]; rfl
    · rw [runPts, List.mem_append] at hq
      rcases hq with hq | hq
      · exact k2.pts q hq
      · exact i3 q hq
    · rw [runPts, List.length_append, List.length_cons]
      have := k2.len
      omega
    · rw [hlines, sumE_append, List.length_cons]
      have := k2.wid
      push_cast
      grind
    · rw [hlines, List.flatMap_cons, i6]
    · rw [List.length_cons, List.length_cons, i7]
    · rcases List.mem_cons.1 hc' with rfl | hc'
      · exact hb
      · exact i8 c' hc'
/-- The whole closed chain. -/
theorem all_C {l : List (List Pt)} {a : Pt} (ha : InP x0 x1 y0 y1 a) (hl : ∀ c ∈ l, Two3 c ∧ ∀ q ∈ c, InP x0 x1 y0 y1 q) (h4 : l.length ≤ 4) :
    (lastG (runPts a l ++ [(wq a.1, wq a.2)]) (wq a.1) (wq a.2)) = (wq a.1, wq a.2) ∧ (∀ e ∈ linesOf (runPts a l ++ [(wq a.1, wq a.2)]) (wq a.1) (wq a.2), PtB x0 x1 y0 y1 e.1 ∧ PtB x0 x1 y0 y1 e.2) ∧
    (linesOf (runPts a l ++ [(wq a.1, wq a.2)]) (wq a.1) (wq a.2)).length ≤ 145 ∧ sumE wL (linesOf (runPts a l ++ [(wq a.1, wq a.2)]) (wq a.1) (wq a.2)) ≤ 4 * ((x1 - x0) * (17 / 9) + 1 / 100) + (x1 - x0) ∧
    ∃ cs : List (Bool × List Ln), cs.flatMap (·.2) = linesOf (runPts a l ++ [(wq a.1, wq a.2)]) (wq a.1) (wq a.2) ∧ (∀ c ∈ cs, Cv c.1 c.2) ∧ 1 ≤ (cs.filter (·.1)).length ∧ (cs.filter (·.1)).length + (cs.filter fun c => !c.1).length ≤ 5 := by
  obtain ⟨i1, i2, i3, i4, i5, cs, i6, i7, i8⟩ := run_C hx0 hx1 hy0 hy1 l a ha hl
  have pa := ha.pt
  have pe := i1.pt
  have hlines : linesOf (runPts a l ++ [(wq a.1, wq a.2)]) (wq a.1) (wq a.2) = linesOf (runPts a l) (wq a.1) (wq a.2) ++ [((wq (runEnd a l).1, wq (runEnd a l).2), (wq a.1, wq a.2))] := by
    rw [linesOf_append, i2]; rfl
  refine ⟨lastG_snoc _ _ _ _ _, fun e he => ?_, ?_, ?_, cs ++ [(true, [((wq (runEnd a l).1, wq (runEnd a l).2), (wq a.1, wq a.2))])], ?_, ?_, ?_, ?_⟩
  · obtain ⟨h1, h2⟩ := linesOf_ends _ _ _ e he
    have hq : ∀ q ∈ runPts a l ++ [(wq a.1, wq a.2)], PtB x0 x1 y0 y1 q := by
      intro q hq
      rw [List.mem_append] at hq
      rcases hq with hq | hq
      · exact i3 q hq
      · rw [List.mem_singleton] at hq; rw [hq]; exact pa
    refine ⟨?_, hq _ h2⟩
    rcases h1 with h1 | h1
    · rw [h1]; exact pa
    · exact hq _ h1
  · rw [linesOf_len, List.length_append]
    simp only [List.length_cons, List.length_nil]
    omega
  · rw [hlines, sumE_append]
    simp only [sumE]
    have hx : x0 ≤ x1 := Rat.le_trans ha.1.2.1 ha.1.2.2
    have hl4 : (l.length : Rat) ≤ 4 := by exact_mod_cast h4
    have m1 := Rat.mul_le_mul_of_nonneg_right hl4 (show 0 ≤ (x1 - x0) * (17 / 9) + 1 / 100 by grind)
    have w1 : wL ((wq (runEnd a l).1, wq (runEnd a l).2), (wq a.1, wq a.2)) ≤ x1 - x0 := by
      obtain ⟨⟨_, _, p1, p2⟩, _⟩ := pa
      obtain ⟨⟨_, _, p3, p4⟩, _⟩ := pe
      exact ab_le (by grind) (by grind)
    grind
  · rw [List.flatMap_append, hlines, i6]; rfl
  · intro c hc
    rw [List.mem_append] at hc
    rcases hc with hc | hc
    · exact i8 c hc
    · rw [List.mem_singleton] at hc
      rw [hc]
      refine ⟨fun r => ?_, fun r => ?_, fun h => by cases h⟩
      · simp only [sumE, if_true]
        have := dL_bd r ((wq (runEnd a l).1, wq (runEnd a l).2), (wq a.1, wq a.2))
        grind
      · simp only [sumE]
        have := dL_bd r ((wq (runEnd a l).1, wq (runEnd a l).2), (wq a.1, wq a.2))
        rw [Rat.add_zero]
        exact this
  · rw [List.filter_append, List.length_append]
    simp
  · rw [filter_both, List.length_append, i7]
    simp only [List.length_cons, List.length_nil]
    omega
end
theorem lines_any {W H : Nat} (hW : 0 < W) (hH : H ≤ 64) {x0 x1 y0 y1 : Rat} (hx0 : -128 ≤ x0) (hx1 : x1 ≤ 128) (hy0 : -128 ≤ y0) (hy1 : y1 ≤ 128) {es : List Ln} (hes : ∀ e ∈ es, PtB x0 x1 y0 y1 e.1 ∧ PtB x0 x1 y0 y1 e.2) :
    ∀ e ∈ es, FloOk H e.1.1 e.1.2 e.2.1 e.2.2 ∧ ∃ κ, LnC W H e.1.1 e.1.2 e.2.1 e.2.2 κ (adF W H e) := by
  intro e he
  obtain ⟨⟨⟨a1, a2, a3, a4⟩, ⟨b1, b2, b3, b4⟩⟩, ⟨⟨c1, c2, c3, c4⟩, ⟨d1, d2, d3, d4⟩⟩⟩ := hes e he
  exact LnC.any hW hH a1 b1 c1 d1 (ab_le (by grind) (by grind)) (ab_le (by grind) (by grind)) (ab_le (by grind) (by grind)) (ab_le (by grind) (by grind)) a2 c2
/-- A sum that small makes no byte. -/
theorem floByte_small {a : Nat} (ha : F32 a) (h : Flt.ab (V a) ≤ 64000 / 16777216) : floByte a = 0 := by
  obtain ⟨_, r, h1, h2, h3, h4⟩ := floByte_ok ha
  have hp := (fpart_ok ha).2
  rw [if_neg (by grind)] at hp
  rw [hp] at h1
  have n := h1.near5.2
  have h0 := Flt.ab_nonneg (V a)
  rw [ab_of_nonneg (x := 16777215 / 65536 * Flt.ab (V a)) (by grind)] at n
  obtain ⟨n1, n2⟩ := ab_iff.1 n
  obtain ⟨t1, t2, t3⟩ := truncR_pos_bd h3
  rw [← h2] at t1 t2 t3
  have u : ((floByte a : Int) : Rat) < ((1 : Int) : Rat) := by push_cast; grind
  have := Rat.intCast_lt_intCast.1 u
  omega

/-! ### the mask -/
theorem step_crv (W : Nat) (H : Int) {c : List Pt} (h : Two3 c) (a : Pt) (fx fy : Nat) (l : List Nat) :
    stepOp W H (crvOp c) ⟨fx, fy, wq a.1, wq a.2, .flo l⟩ = ⟨fx, fy, wq (crvEnd a c).1, wq (crvEnd a c).2, .flo (fadds (polyF W H (crvPts a c) (wq a.1) (wq a.2)) l)⟩ := by
  rcases h.cases with ⟨p, q, rfl⟩ | ⟨p, q, r, rfl⟩
  · have e1 : stepOp W H (crvOp [p, q]) ⟨fx, fy, wq a.1, wq a.2, .flo l⟩ = ⟨fx, fy, wq q.1, wq q.2, linesB W H (quadPts (wq a.1) (wq a.2) (wq p.1) (wq p.2) (wq q.1) (wq q.2)) (wq a.1) (wq a.2) (.flo l)⟩ := rfl
    rw [e1, linesB_flo]; rfl
  · have e1 : stepOp W H (crvOp [p, q, r]) ⟨fx, fy, wq a.1, wq a.2, .flo l⟩ = ⟨fx, fy, wq r.1, wq r.2, linesB W H (cubePts (wq a.1) (wq a.2) (wq p.1) (wq p.2) (wq q.1) (wq q.2) (wq r.1) (wq r.2)) (wq a.1) (wq a.2) (.flo l)⟩ := rfl
    rw [e1, linesB_flo]; rfl
section
variable {W H : Nat} (hW : 0 < W) (hH : H ≤ 64) {x0 x1 y0 y1 : Rat} (hx0 : -128 ≤ x0) (hx1 : x1 ≤ 128) (hy0 : -128 ≤ y0) (hy1 : y1 ≤ 128)
include hW hH hx0 hx1 hy0 hy1
theorem poly_any {pts : List (Nat × Nat)} {px py : Nat} (hp : PtB x0 x1 y0 y1 (px, py)) (hpts : ∀ q ∈ pts, PtB x0 x1 y0 y1 q) : PolyOk H pts px py ∧ ∀ p ∈ polyF W H pts px py, Bd p.2 68 := by
  have hes : ∀ e ∈ linesOf pts px py, PtB x0 x1 y0 y1 e.1 ∧ PtB x0 x1 y0 y1 e.2 := by
    intro e he
    obtain ⟨h1, h2⟩ := linesOf_ends _ _ _ e he
    refine ⟨?_, hpts _ h2⟩
    rcases h1 with h1 | h1
    · rw [h1]; exact hp
    · exact hpts _ h1
  have hl := lines_any hW hH hx0 hx1 hy0 hy1 hes
  refine ⟨polyOk_lines _ _ _ _ fun e he => (hl e he).1, fun p hpm => ?_⟩
  rw [polyF_lines] at hpm
  obtain ⟨e, he, hpe⟩ := List.mem_flatMap.1 hpm
  obtain ⟨κ, k⟩ := (hl e he).2
  exact (k.bd p hpe).mono (by decide)
theorem stepOk_crv {c : List Pt} (h : Two3 c) {a : Pt} (ha : InP x0 x1 y0 y1 a) (hc : ∀ q ∈ c, InP x0 x1 y0 y1 q) (fx fy : Nat) {l : List Nat} (hl : CellsBd l) :
    StepOk W H (crvOp c) ⟨fx, fy, wq a.1, wq a.2, .flo l⟩ ∧ CellsBd (fadds (polyF W H (crvPts a c) (wq a.1) (wq a.2)) l) := by
  obtain ⟨_, k2⟩ := crv_C hx0 hx1 hy0 hy1 ha hc h
  obtain ⟨p1, p2'⟩ := poly_any hW hH hx0 hx1 hy0 hy1 ha.pt k2.pts
  refine ⟨?_, (fadds_ok _ _ hl p2').2⟩
  have hlines := linesOk_flo W H _ (wq a.1) (wq a.2) l hl p2' p1
  have at1 : ∀ q ∈ c, Fok .quo (floatOfInt .f32 q.1) 1115684864 ∧ Fok .quo (floatOfInt .f32 q.2) 1115684864 := by
    intro q hq
    obtain ⟨⟨⟨h1, h2⟩, _⟩, ⟨⟨h3, h4⟩, _⟩⟩ := hc q hq
    exact ⟨(quo64 (by omega) (by omega)).1, (quo64 (by omega) (by omega)).1⟩
  have hat : AtOk (flatPts c) := by
    intro n hn
    unfold flatPts at hn
    obtain ⟨q, hq, hn⟩ := List.mem_flatMap.1 hn
    simp only [List.mem_cons, List.not_mem_nil, or_false] at hn
    rcases hn with rfl | rfl
    · exact (at1 q hq).1
    · exact (at1 q hq).2
  rcases h.cases with ⟨p, q, rfl⟩ | ⟨p, q, r, rfl⟩
  · have h1 := hc p (by simp)
    have h2 := hc q (by simp)
    have ok := (quad_C hx0 hx1 hy0 hy1 ha.1 ha.2 h1.1 h1.2 h2.1 h2.2).1
    exact ⟨hat, fun h => absurd h (by simp [crvOp]), fun _ => ⟨ok, hlines⟩, fun h => absurd h (by simp [crvOp]), fun h => absurd h (by simp [crvOp])⟩
  · have h1 := hc p (by simp)
    have h2 := hc q (by simp)
    have h3 := hc r (by simp)
    have ok := (cube_C hx0 hx1 hy0 hy1 ha.1 ha.2 h1.1 h1.2 h2.1 h2.2 h3.1 h3.2).1
    exact ⟨hat, fun h => absurd h (by simp [crvOp]), fun h => absurd h (by simp [crvOp]), fun _ => ⟨ok, hlines⟩, fun h => absurd h (by simp [crvOp])⟩
theorem run_mask (fx fy : Nat) : ∀ (l : List (List Pt)) (a : Pt) (fl : List Nat), InP x0 x1 y0 y1 a → (∀ c ∈ l, Two3 c ∧ ∀ q ∈ c, InP x0 x1 y0 y1 q) → CellsBd fl →
    stepOps W H (l.map crvOp) ⟨fx, fy, wq a.1, wq a.2, .flo fl⟩ = ⟨fx, fy, wq (runEnd a l).1, wq (runEnd a l).2, .flo (fadds (polyF W H (runPts a l) (wq a.1) (wq a.2)) fl)⟩ ∧
    StepsOpOk W H (l.map crvOp) ⟨fx, fy, wq a.1, wq a.2, .flo fl⟩ ∧ CellsBd (fadds (polyF W H (runPts a l) (wq a.1) (wq a.2)) fl)
  | [], a, fl, ha, _, hl => ⟨rfl, trivial, hl⟩
  | c :: t, a, fl, ha, hc, hl => by
    obtain ⟨h1, h2⟩ := hc c (by simp)
    obtain ⟨k1, k2⟩ := crv_C hx0 hx1 hy0 hy1 ha h2 h1
    obtain ⟨s1, s2⟩ := stepOk_crv hW hH hx0 hx1 hy0 hy1 h1 ha h2 fx fy hl
    obtain ⟨i1, i2, i3⟩ := run_mask fx fy t (crvEnd a c) _ k1 (fun c hc' => hc c (by simp [hc'])) s2
    rw [List.map_cons, stepOps, StepsOpOk, step_crv W H h1, runEnd, runPts, polyF_append, k2.last, fadds_append]
    exact ⟨i1, ⟨s1, i2⟩, i3⟩
/-- The mask of a closed path of curves. -/
theorem mask_C {l : List (List Pt)} {a : Pt} (ha : InP x0 x1 y0 y1 a) (hl : ∀ c ∈ l, Two3 c ∧ ∀ q ∈ c, InP x0 x1 y0 y1 q) :
    maskR true W H (curOps a l) = floBytes 0 (fadds ((linesOf (runPts a l ++ [(wq a.1, wq a.2)]) (wq a.1) (wq a.2)).flatMap (adF W H)) (List.replicate (W * H) 0)) ∧ MaskROk true W H (curOps a l) := by
  obtain ⟨r1, r2, r3⟩ := run_mask hW hH hx0 hx1 hy0 hy1 (wq a.1) (wq a.2) l a (List.replicate (W * H) 0) ha hl (CellsBd.zero _)
  obtain ⟨i1, i2, i3, _⟩ := run_C hx0 hx1 hy0 hy1 l a ha hl
  obtain ⟨c1, c2⟩ := poly_any hW hH hx0 hx1 hy0 hy1 (pts := [(wq a.1, wq a.2)]) i1.pt (fun q hq => by rw [List.mem_singleton] at hq; rw [hq]; exact ha.pt)
  have e0 : stepOp W H (0, [a.1, a.2]) (startS true (W * H)) = ⟨wq a.1, wq a.2, wq a.1, wq a.2, .flo (List.replicate (W * H) 0)⟩ := rfl
  have e4 : ∀ fl, stepOp W H (4, []) ⟨wq a.1, wq a.2, wq (runEnd a l).1, wq (runEnd a l).2, .flo fl⟩ = ⟨wq a.1, wq a.2, wq a.1, wq a.2, .flo (fadds (polyF W H [(wq a.1, wq a.2)] (wq (runEnd a l).1) (wq (runEnd a l).2)) fl)⟩ := by
    intro fl
    have : stepOp W H (4, []) ⟨wq a.1, wq a.2, wq (runEnd a l).1, wq (runEnd a l).2, .flo fl⟩ = ⟨wq a.1, wq a.2, wq a.1, wq a.2, .flo (fadds (floLine W H (wq (runEnd a l).1) (wq (runEnd a l).2) (wq a.1) (wq a.2)) fl)⟩ := rfl
    rw [this, polyF, polyF, List.append_nil]
  have hst : stepOps W H (curOps a l) (startS true (W * H)) = ⟨wq a.1, wq a.2, wq a.1, wq a.2, .flo (fadds ((linesOf (runPts a l ++ [(wq a.1, wq a.2)]) (wq a.1) (wq a.2)).flatMap (adF W H)) (List.replicate (W * H) 0))⟩ := by
    rw [curOps, stepOps, e0, stepOps_append, r1]
    simp only [stepOps]
    rw [e4, ← polyF_lines, polyF_append, i2, fadds_append]
  obtain ⟨z1, z2⟩ := fadds_ok (polyF W H [(wq a.1, wq a.2)] (wq (runEnd a l).1) (wq (runEnd a l).2)) _ r3 c2
  refine ⟨by rw [maskR, hst]; rfl, ?_, ?_⟩
  · rw [curOps, StepsOpOk, e0, StepsOpOk_append, r1]
    refine ⟨⟨?_, fun h => absurd h (by simp), fun h => absurd h (by simp), fun h => absurd h (by simp), fun h => absurd h (by simp)⟩, r2, ⟨fun n hn => by simp at hn, fun h => absurd h (by simp), fun h => absurd h (by simp), fun h => absurd h (by simp), fun _ => ?_⟩, trivial⟩
    · intro n hn
      obtain ⟨⟨⟨a1, a2⟩, _⟩, ⟨⟨a3, a4⟩, _⟩⟩ := ha
      simp only [List.mem_cons, List.not_mem_nil, or_false] at hn
      rcases hn with rfl | rfl
      · exact (quo64 (by omega) (by omega)).1
      · exact (quo64 (by omega) (by omega)).1
    · rw [polyF, polyF, List.append_nil] at z1
      exact ⟨c1.1, z1⟩
  · rw [hst]
    refine floBytes_ok _ 0 ?_ (bd_zero _)
    rw [← polyF_lines, polyF_append, i2, fadds_append]
    exact z2
end
def Far64 (q : Pt) : Prop := In128 q.1 ∧ In128 q.2
theorem Far64.wide {q : Pt} (h : Far64 q) : InP (-128) 128 (-128) 128 q := by
  obtain ⟨⟨a1, a2⟩, b1, b2⟩ := h
  have c1 := castLe a1
  have c2 := castLe a2
  have c3 := castLe b1
  have c4 := castLe b2
  push_cast at c1 c2 c3 c4
  exact ⟨⟨⟨a1, a2⟩, by grind, by grind⟩, ⟨⟨b1, b2⟩, by grind, by grind⟩⟩
/-- The plain law. -/
theorem cur_all {W H : Nat} (hW : 0 < W) (hW2 : W ≤ 64) (hH : H ≤ 64) {a : Pt} {l : List (List Pt)} (h4 : l.length ≤ 4) (ha : Far64 a) (hl : ∀ c ∈ l, Two3 c ∧ ∀ q ∈ c, Far64 q) :
    MaskROk true W H (curOps a l) ∧ ∀ X Y : Nat, X < W → Y < H →
      ((∀ q ∈ a :: l.flatMap id, q.1 ≤ 64 * X) ∨ (∀ q ∈ a :: l.flatMap id, 64 * (X : Int) + 64 ≤ q.1) ∨ (∀ q ∈ a :: l.flatMap id, q.2 ≤ 64 * Y) ∨ (∀ q ∈ a :: l.flatMap id, 64 * (Y : Int) + 64 ≤ q.2)) →
      (maskR true W H (curOps a l))[Y * W + X]? = some 0 := by
  have hwide := mask_C hW hH (x0 := -128) (x1 := 128) (y0 := -128) (y1 := 128) (by decide) (by decide) (by decide) (by decide) ha.wide fun c hc => ⟨(hl c hc).1, fun q hq => ((hl c hc).2 q hq).wide⟩
  refine ⟨hwide.2, fun X Y hX hY ho => ?_⟩
  have hXr : (X : Rat) + 1 ≤ 64 := by exact_mod_cast (show X + 1 ≤ 64 by omega)
  have hX0 : (0 : Rat) ≤ X := by exact_mod_cast Nat.zero_le X
  have hYr : (Y : Rat) + 1 ≤ 64 := by exact_mod_cast (show Y + 1 ≤ 64 by omega)
  have hY0 : (0 : Rat) ≤ Y := by exact_mod_cast Nat.zero_le Y
  -- in a smaller box
  have main : ∀ x0 x1 y0 y1 : Rat, -128 ≤ x0 → x1 ≤ 128 → -128 ≤ y0 → y1 ≤ 128 → (∀ q ∈ a :: l.flatMap id, InP x0 x1 y0 y1 q) → ((x1 ≤ X ∨ (X : Rat) + 1 ≤ x0) ∧ x1 - x0 ≤ 191 ∨ (y1 ≤ Y ∨ (Y : Rat) + 1 ≤ y0) ∧ x1 - x0 ≤ 256) →
      (maskR true W H (curOps a l))[Y * W + X]? = some 0 := by
    intro x0 x1 y0 y1 b0 b1 b2 b3 hin hc
    have hlb : ∀ c ∈ l, Two3 c ∧ ∀ q ∈ c, InP x0 x1 y0 y1 q := fun c hc => ⟨(hl c hc).1, fun q hq => hin q (List.mem_cons_of_mem _ (List.mem_flatMap.2 ⟨c, hc, hq⟩))⟩
    obtain ⟨m1, _⟩ := mask_C hW hH b0 b1 b2 b3 (hin a (by simp)) hlb
    obtain ⟨c1, c2, c3, c4, cs, c5, c6, c7, c8⟩ := all_C b0 b1 b2 b3 (hin a (by simp)) hlb h4
    obtain ⟨κ, P, Q, hE⟩ := LnP.choose (W := W) (H := H) fun e he => (lines_any hW hH b0 b1 b2 b3 c2 e he).2
    have hcl : V (lastG (runPts a l ++ [(wq a.1, wq a.2)]) (wq a.1) (wq a.2)).2 = V (wq a.2) := by rw [c1]
    have key : ∃ b, (floBytes 0 (fadds ((linesOf (runPts a l ++ [(wq a.1, wq a.2)]) (wq a.1) (wq a.2)).flatMap (adF W H)) (List.replicate (W * H) 0)))[Y * W + X]? = some (floByte b) ∧ F32 b ∧ ab (V b) ≤ 64000 / 16777216 := by
      rcases hc with ⟨hc, hR⟩ | ⟨hc, hR⟩
      · refine box_x hE hH hW hW2 c5 c6 c7 c8 hcl c3 (by grind) (fun e he => ?_) hX hY ?_
        · obtain ⟨⟨⟨_, _, p1, p2⟩, _⟩, ⟨⟨_, _, p3, p4⟩, _⟩⟩ := c2 e he
          exact ab_le (by grind) (by grind)
        · rcases hc with hc | hc
          · refine .inl fun e he => ?_
            obtain ⟨⟨⟨_, _, p1, p2⟩, _⟩, ⟨⟨_, _, p3, p4⟩, _⟩⟩ := c2 e he
            constructor <;> grind
          · refine .inr fun e he => ?_
            obtain ⟨⟨⟨_, _, p1, p2⟩, _⟩, ⟨⟨_, _, p3, p4⟩, _⟩⟩ := c2 e he
            constructor <;> grind
      · refine box_y hE hH hW c5 c6 c7 c8 hcl c3 (by grind) hX hY ?_
        rcases hc with hc | hc
        · refine .inl fun e he => ?_
          obtain ⟨⟨_, ⟨_, _, p1, p2⟩⟩, ⟨_, ⟨_, _, p3, p4⟩⟩⟩ := c2 e he
          constructor <;> grind
        · refine .inr fun e he => ?_
          obtain ⟨⟨_, ⟨_, _, p1, p2⟩⟩, ⟨_, ⟨_, _, p3, p4⟩⟩⟩ := c2 e he
          constructor <;> grind
    obtain ⟨b, k1, k2, k3⟩ := key
    rw [m1, k1, floByte_small k2 k3]
  have hfar : ∀ q ∈ a :: l.flatMap id, Far64 q := by
    intro q hq
    rcases List.mem_cons.1 hq with rfl | hq
    · exact ha
    · obtain ⟨c, hc, hqc⟩ := List.mem_flatMap.1 hq
      exact (hl c hc).2 q hqc
  rcases ho with ho | ho | ho | ho
  · refine main (-128) X (-128) 128 (by decide) (by grind) (by decide) (by decide) (fun q hq => ?_) (.inl ⟨.inl Rat.le_refl, by grind⟩)
    have w := (hfar q hq).wide
    have := castLe (ho q hq)
    push_cast at this
    exact ⟨⟨w.1.1, w.1.2.1, by grind⟩, w.2⟩
  · refine main ((X : Rat) + 1) 128 (-128) 128 (by grind) (by decide) (by decide) (by decide) (fun q hq => ?_) (.inl ⟨.inr Rat.le_refl, by grind⟩)
    have w := (hfar q hq).wide
    have := castLe (ho q hq)
    push_cast at this
    exact ⟨⟨w.1.1, by grind, w.1.2.2⟩, w.2⟩
  · refine main (-128) 128 (-128) Y (by decide) (by decide) (by decide) (by grind) (fun q hq => ?_) (.inr ⟨.inl Rat.le_refl, by grind⟩)
    have w := (hfar q hq).wide
    have := castLe (ho q hq)
    push_cast at this
    exact ⟨w.1, ⟨w.2.1, w.2.2.1, by grind⟩⟩
  · refine main (-128) 128 ((Y : Rat) + 1) 128 (by decide) (by decide) (by grind) (by decide) (fun q hq => ?_) (.inr ⟨.inr Rat.le_refl, by grind⟩)
    have w := (hfar q hq).wide
    have := castLe (ho q hq)
    push_cast at this
    exact ⟨w.1, ⟨w.2.1, by grind, w.2.2.2⟩⟩
end Go.Proofs.Ytmgcbodlolnheaa
