/- What a mask's sums are, of edges whose additions are near their areas: rounding counted by half units. The edges of a path of straight curves, cubic ones: their lines, what they add. What the edges of a path of straight curves add, against their areas. The laws' slack and drift for edges farther out. Contracts of slack and drift. The plain law of FnStraightCurvesAreLines. Edges through points in -/
import Derived.Test.YtmgcbodlolnheaaZ10
import Derived.Test.YtmgcbodlolnheaaZ15
import Derived.Test.YtmgcbodlolnheaaZ13
namespace Go.Proofs.Ytmgcbodlolnheaa
open Flt Go.RowKit
set_option linter.unusedVariables false
theorem off_stepH {l : List Nat} {s : List (Nat × Rat)} {k v n : Nat} {C E : Rat} {e : Int} (hl : CellsBd l) (hv : Bd v 68) (hn : n <= l.length) (hC : k < n -> ab (cellR s k + V v) <= C) (hE : offL l s n <= E) (hlev : C + E <= p2 e) (he : -120 <= e) (he2 : e <= 100) :
  offL (fbump l k v) (s ++ [(k, V v)]) n <= offL l s n + p2 (e - 25) := by
 refine Rat.le_trans ?_ (sumN_one (k := k) (Rat.le_of_lt (p2_pos (e - 25))))
 unfold offL
 refine sumN_le fun i hi => ?_
 rw [fAt_bump, cellR_append]
 simp only [cellR]
 by_cases hk : i = k
 ·subst hk
  have hC := hC hi
  rw [if_pos ⟨rfl, by omega⟩, if_pos rfl, if_pos rfl]
  have hb := (hl.at i).ab
  have hb2 := hv.ab
  have hsz : ab (V (fAt l i) + V v) <= p2 126 := by
   have k := ab_add_le (V (fAt l i)) (V v)
   have m1 := p2_mono (a := 68) (b := 100) (by decide)
   have m2 := p2_mono (a := 101) (b := 126) (by decide)
   have m3 : p2 101 = 2 * p2 100 := by rw [<- p2_succ]; rfl
   grind
  obtain ⟨_, r⟩ := fadd_ok (hl.at i).fin hv.fin hsz
  have hi2 : ab (V (fAt l i) - cellR s i) <= E := Rat.le_trans (sumN_mem (f := fun k => ab (V (fAt l k) - cellR s k)) (fun _ => ab_nonneg _) hi) hE
  have e1 : V (fAt l i) + V v = (V (fAt l i) - cellR s i) + (cellR s i + V v) := by grind
  have k1 := ab_add_le (V (fAt l i) - cellR s i) (cellR s i + V v)
  rw [<- e1] at k1
  have nr := r.half (e := e) (by grind) he he2
  have e2 : V (fop .add (fAt l i) v) - (cellR s i + (V v + 0)) = (V (fop .add (fAt l i) v) - (V (fAt l i) + V v)) + (V (fAt l i) - cellR s i) := by grind
  rw [e2]
  have k2 := ab_add_le (V (fop .add (fAt l i) v) - (V (fAt l i) + V v)) (V (fAt l i) - cellR s i)
  grind
 ·rw [if_neg (fun h => hk h.1), if_neg (fun h => hk h.symm), if_neg hk]
  have e : cellR s i + (0 + 0) = cellR s i := by grind
  rw [e]
  grind
theorem sumR_flat (Ad : Pt × Pt -> List (Nat × Nat)) (p : Nat) : ∀ (es : List (Pt × Pt)), sumR (valL (es.flatMap Ad)) p = sumE (fun e => sumR (valL (Ad e)) p) es
 | [] => rfl
 | e :: t => by rw [List.flatMap_cons, valL_append, sumR_append, sumR_flat Ad p t, sumE]
theorem cellR_diff (s : List (Nat × Rat)) (c : Nat) : cellR s c = sumR s c - (if c = 0 then 0 else sumR s (c - 1)) := by
 have h1 := sumN_cellR s c
 rw [sumN] at h1
 by_cases hc : c = 0
 ·subst hc
  simp only [sumN] at h1
  rw [if_pos rfl]
  grind
 ·have h2 := sumN_cellR s (c - 1)
  rw [show c - 1 + 1 = c by omega] at h2
  rw [if_neg hc]
  grind
theorem mEdge_bd (X Y : Nat) (e : Pt × Pt) : 0 <= mEdge X Y e /\ mEdge X Y e <= 1 := by
 unfold mEdge mE
 split <;> exact mean_bd _ _
theorem mEdge_mono (X Y : Nat) (e : Pt × Pt) : mEdge X Y e <= mEdge (X + 1) Y e := by
 have hu : ∀ m1 m2 m3 m4 y, uE m1 m2 m3 m4 X y <= uE m1 m2 m3 m4 (X + 1) y := by
  intro m1 m2 m3 m4 y
  unfold uE
  push_cast
  grind
 unfold mEdge mE
 split <;> exact mean_mono (hu _ _ _ _ _) (hu _ _ _ _ _)
theorem window {α : Type} {D f : α -> Rat} {s : List α} (hf : ∀ e ∈ s, 0 <= f e /\ f e <= 1) (hD : ab (sumE D s) <= 1) : ab (sumE (fun e => D e * f e) s) <= (sumE (fun e => ab (D e)) s + 1) / 2 := by
 have h1 : sumE (fun e => D e * f e) s = sumE (fun e => D e * (f e - 1 / 2)) s + 1 / 2 * sumE D s := by
  rw [<- sumE_mul, <- sumE_add]
  exact sumE_congr fun e _ => by grind
 have h2 : ab (sumE (fun e => D e * (f e - 1 / 2)) s) <= sumE (fun e => 1 / 2 * ab (D e)) s := sumE_ab fun e he => by
  obtain ⟨a, b⟩ := hf e he
  have := ab_mul_le (x := D e) (y := f e - 1 / 2) Rat.le_refl (ab_le (y := 1 / 2) (by grind) (by grind))
  grind
 rw [sumE_mul] at h2
 have h3 := ab_add_le (sumE (fun e => D e * (f e - 1 / 2)) s) (1 / 2 * sumE D s)
 rw [<- h1, ab_mul (1 / 2), ab_of_nonneg (x := (1 / 2 : Rat)) (by decide +kernel)] at h3
 grind
theorem sumE_near2 {α : Type} {f g δ : α -> Rat} : ∀ {s : List α}, (∀ e ∈ s, ab (f e - g e) <= δ e) -> ab (sumE f s - sumE g s) <= sumE δ s
 | [], _ => by simp only [sumE]; decide +kernel
 | e :: s, h => by
  have h1 := sumE_near2 (f := f) (g := g) (δ := δ) (s := s) fun e he => h e (by simp [he])
  have h2 := h e (by simp)
  have e1 : f e + sumE f s - (g e + sumE g s) = (f e - g e) + (sumE f s - sumE g s) := by grind
  rw [sumE, sumE, sumE, e1]
  have := ab_add_le (f e - g e) (sumE f s - sumE g s)
  grind
def dR (r : Int) (e : Pt × Pt) : Rat := (dph r e : Rat) / 64
section
variable {W H : Nat} {q : Rat} {δ len : Pt × Pt -> Rat} {Ad : Pt × Pt -> List (Nat × Nat)} {gs : List (Pt × Pt)}
 (hE : ∀ e ∈ gs, EG W H e (δ e) (len e) (Ad e)) (hq : ∀ e ∈ gs, ∀ r : Int, ab (dR (r - 1) e) + ab (dR r e) <= q)
include hE
theorem edge_cell (hW : 0 < W) {e : Pt × Pt} (he : e ∈ gs) {X Y : Nat} (hX : X < W) (hY : Y < H) : ∃ f g : Rat, (0 <= f /\ f <= 1) /\ (0 <= g /\ g <= 1) /\
  f = (if X = 0 then mEdge 0 Y e else mEdge X Y e - mEdge (X - 1) Y e) /\ g = (if X = 0 /\ 0 < Y then 1 - mEdge (W - 1) (Y - 1) e else 0) /\
  ab (cellR (valL (Ad e)) (Y * W + X) - (dR Y e * f + dR ((Y : Int) - 1) e * g)) <= 2 * δ e := by
 have hG := hE e he
 have k1 := hG.cum X Y hX hY
 have hδ : 0 <= δ e := Rat.le_trans (ab_nonneg _) k1
 rw [cellR_diff]
 have z0 : ∀ x : Rat, 0 <= (0 : Rat) /\ (0 : Rat) <= 1 := fun _ => ⟨Rat.le_refl, by decide⟩
 by_cases hX0 : X = 0
 ·subst hX0
  by_cases hY0 : 0 < Y
  ·refine ⟨mEdge 0 Y e, 1 - mEdge (W - 1) (Y - 1) e, mEdge_bd _ _ _, ?_, by rw [if_pos rfl], by rw [if_pos ⟨rfl, hY0⟩], ?_⟩
   ·have := mEdge_bd (W - 1) (Y - 1) e
    constructor <;> grind
   ·have hc : Y * W + 0 ≠ 0 := by
     have := Nat.mul_pos hY0 hW
     omega
    rw [if_neg hc]
    have hp : Y * W + 0 - 1 = (Y - 1) * W + (W - 1) := by
     have h1 : Y * W = (Y - 1) * W + W := by
      have : Y = (Y - 1) + 1 := by omega
      rw [this, Nat.add_mul, Nat.one_mul, Nat.add_sub_cancel]
     omega
    rw [hp]
    have k2 := hG.cum (W - 1) (Y - 1) (by omega) (by omega)
    have hrows : rowsR (fun r => (dph r e : Rat) / 64) 0 Y = rowsR (fun r => (dph r e : Rat) / 64) 0 (Y - 1) + dR ((Y : Int) - 1) e := by
     have h1 := rowsR_last (fun r => (dph r e : Rat) / 64) (Y - 1)
     rw [show Y - 1 + 1 = Y by omega] at h1
     rw [h1]
     unfold dR
     have : ((Y - 1 : Nat) : Int) = (Y : Int) - 1 := by omega
     rw [this]
    have ha1 : areaE 0 Y e = dR Y e * mEdge 0 Y e := rfl
    have ha2 : areaE (W - 1) (Y - 1) e = dR ((Y : Int) - 1) e * mEdge (W - 1) (Y - 1) e := by
     unfold areaE dR
     have : ((Y - 1 : Nat) : Int) = (Y : Int) - 1 := by omega
     rw [this]
    rw [hrows, ha1] at k1
    rw [ha2] at k2
    generalize rowsR (fun r => (dph r e : Rat) / 64) 0 (Y - 1) = R at *
    generalize sumR (valL (Ad e)) (Y * W + 0) = S1 at *
    generalize sumR (valL (Ad e)) ((Y - 1) * W + (W - 1)) = S2 at *
    have e1 : S1 - S2 - (dR Y e * mEdge 0 Y e + dR ((Y : Int) - 1) e * (1 - mEdge (W - 1) (Y - 1) e)) = (S1 - (R + dR ((Y : Int) - 1) e + dR Y e * mEdge 0 Y e)) - (S2 - (R + dR ((Y : Int) - 1) e * mEdge (W - 1) (Y - 1) e)) := by grind
    rw [e1]
    have := ab_sub_le (S1 - (R + dR ((Y : Int) - 1) e + dR Y e * mEdge 0 Y e)) (S2 - (R + dR ((Y : Int) - 1) e * mEdge (W - 1) (Y - 1) e))
    grind
  ·have hY0' : Y = 0 := by omega
   subst hY0'
   refine ⟨mEdge 0 0 e, 0, mEdge_bd _ _ _, z0 0, by rw [if_pos rfl], by rw [if_neg (by omega)], ?_⟩
   rw [if_pos (by omega)]
   have ha1 : areaE 0 0 e = dR 0 e * mEdge 0 0 e := rfl
   have hr : rowsR (fun r => (dph r e : Rat) / 64) 0 0 = 0 := rfl
   rw [ha1, hr] at k1
   have e1 : sumR (valL (Ad e)) (0 * W + 0) - 0 - (dR ((0 : Nat) : Int) e * mEdge 0 0 e + dR (((0 : Nat) : Int) - 1) e * 0) = sumR (valL (Ad e)) (0 * W + 0) - (0 + dR 0 e * mEdge 0 0 e) := by
    have : ((0 : Nat) : Int) = 0 := rfl
    rw [this]
    grind
   rw [e1]
   grind
 ·refine ⟨mEdge X Y e - mEdge (X - 1) Y e, 0, ?_, z0 0, by rw [if_neg hX0], by rw [if_neg (by omega)], ?_⟩
  ·have h1 := mEdge_mono (X - 1) Y e
   rw [show X - 1 + 1 = X by omega] at h1
   have h2 := mEdge_bd X Y e
   have h3 := mEdge_bd (X - 1) Y e
   constructor <;> grind
  ·rw [if_neg (by omega)]
   have hp : Y * W + X - 1 = Y * W + (X - 1) := by omega
   rw [hp]
   have k2 := hG.cum (X - 1) Y (by omega) hY
   have ha1 : areaE X Y e = dR Y e * mEdge X Y e := rfl
   have ha2 : areaE (X - 1) Y e = dR Y e * mEdge (X - 1) Y e := rfl
   rw [ha1] at k1
   rw [ha2] at k2
   generalize rowsR (fun r => (dph r e : Rat) / 64) 0 Y = R at *
   generalize sumR (valL (Ad e)) (Y * W + X) = S1 at *
   generalize sumR (valL (Ad e)) (Y * W + (X - 1)) = S2 at *
   have e1 : S1 - S2 - (dR Y e * (mEdge X Y e - mEdge (X - 1) Y e) + dR ((Y : Int) - 1) e * 0) = (S1 - (R + dR Y e * mEdge X Y e)) - (S2 - (R + dR Y e * mEdge (X - 1) Y e)) := by grind
   rw [e1]
   have := ab_sub_le (S1 - (R + dR Y e * mEdge X Y e)) (S2 - (R + dR Y e * mEdge (X - 1) Y e))
   grind
omit hE in
theorem cellR_flat (Ad : Pt × Pt -> List (Nat × Nat)) (p : Nat) : ∀ (es : List (Pt × Pt)), cellR (valL (es.flatMap Ad)) p = sumE (fun e => cellR (valL (Ad e)) p) es
 | [] => rfl
 | e :: t => by rw [List.flatMap_cons, valL_append, cellR_append, cellR_flat Ad p t, sumE]
include hq
theorem content (hW : 0 < W) {pre : List (Pt × Pt)} (hpre : ∀ e ∈ pre, e ∈ gs) (hwin : ∀ r, ab (sumE (dR r) pre) <= 1) {X Y : Nat} (hX : X < W) (hY : Y < H) :
  ab (cellR (valL (pre.flatMap Ad)) (Y * W + X)) <= (q * pre.length + 2) / 2 + 2 * sumE δ pre := by
 rw [cellR_flat]
 have key : ∀ e ∈ pre, ab (cellR (valL (Ad e)) (Y * W + X) - (dR Y e * (if X = 0 then mEdge 0 Y e else mEdge X Y e - mEdge (X - 1) Y e) + dR ((Y : Int) - 1) e * (if X = 0 /\ 0 < Y then 1 - mEdge (W - 1) (Y - 1) e else 0))) <= 2 * δ e /\
   (0 <= (if X = 0 then mEdge 0 Y e else mEdge X Y e - mEdge (X - 1) Y e) /\ (if X = 0 then mEdge 0 Y e else mEdge X Y e - mEdge (X - 1) Y e) <= 1) /\
   (0 <= (if X = 0 /\ 0 < Y then 1 - mEdge (W - 1) (Y - 1) e else 0) /\ (if X = 0 /\ 0 < Y then 1 - mEdge (W - 1) (Y - 1) e else 0) <= 1) := by
  intro e he
  obtain ⟨f, g, h1, h2, h3, h4, h5⟩ := edge_cell hE hW (hpre e he) hX hY
  rw [h3] at h1 h5
  rw [h4] at h2 h5
  exact ⟨h5, h1, h2⟩
 have n1 := sumE_near2 fun e he => (key e he).1
 rw [sumE_mul] at n1
 rw [sumE_add] at n1
 have w1 := window (D := dR Y) (fun e he => (key e he).2.1) (hwin Y)
 have w2 := window (D := dR ((Y : Int) - 1)) (fun e he => (key e he).2.2) (hwin ((Y : Int) - 1))
 have hs : sumE (fun e => ab (dR Y e)) pre + sumE (fun e => ab (dR ((Y : Int) - 1) e)) pre <= q * pre.length := by
  rw [<- sumE_add, Rat.mul_comm, <- sumE_const]
  refine sumE_le fun e he => ?_
  have := hq e (hpre e he) Y
  grind
 generalize sumE (fun e => cellR (valL (Ad e)) (Y * W + X)) pre = C at *
 generalize sumE (fun e => dR Y e * (if X = 0 then mEdge 0 Y e else mEdge X Y e - mEdge (X - 1) Y e)) pre = A1 at *
 generalize sumE (fun e => dR ((Y : Int) - 1) e * (if X = 0 /\ 0 < Y then 1 - mEdge (W - 1) (Y - 1) e else 0)) pre = A2 at *
 have e1 : C = (C - (A1 + A2)) + (A1 + A2) := by grind
 have k1 := ab_add_le (C - (A1 + A2)) (A1 + A2)
 have k2 := ab_add_le A1 A2
 rw [<- e1] at k1
 grind
end
def hE' (e : Pt × Pt) : Rat := ab ((e.2.2 : Rat) - e.1.2) / 64
theorem heights2 (e : Pt × Pt) (n : Nat) : sumN (fun k => ab (dR ((k : Nat) : Int) e)) n <= hE' e := by
 obtain ⟨⟨x0, y0⟩, ⟨x1, y1⟩⟩ := e
 have key : ∀ {y0 y1 : Int}, y0 <= y1 -> sumN (fun k => (1 / 64) * (((ph k y1 : Int) : Rat) - ((ph k y0 : Int) : Rat))) n <= ((y1 : Rat) - y0) / 64 := by
  intro y0 y1 h
  rw [sumN_mul]
  have e1 : sumN (fun k => ((ph k y1 : Int) : Rat) - ((ph k y0 : Int) : Rat)) n = sumN (fun k => ((ph k y1 : Int) : Rat) + (-1) * ((ph k y0 : Int) : Rat)) n := sumN_congr fun k _ => by grind
  rw [e1, sumN_add, sumN_mul, ph_sum, ph_sum]
  have h1 : imin (imax y1 0) (64 * (n : Int)) - imin (imax y0 0) (64 * (n : Int)) <= y1 - y0 := by
   unfold imin imax
   split <;> split <;> (try split) <;> (try split) <;> omega
  have h2 := castLe h1
  push_cast at h2 ⊢
  grind
 unfold hE' dR
 simp only
 rcases Int.le_total y0 y1 with h | h
 ·have hc := castLe h
  rw [ab_of_nonneg (x := (y1 : Rat) - y0) (by grind)]
  refine Rat.le_trans (rle_eq ?_) (key h)
  refine sumN_congr fun k _ => ?_
  have a1 := ph_cases k y0
  have a2 := ph_cases k y1
  have hd : 0 <= dph k ((x0, y0), (x1, y1)) := by unfold dph; simp only; omega
  have hd2 := castLe hd
  rw [cast_zero] at hd2
  rw [ab_of_nonneg (by grind)]
  unfold dph
  push_cast
  grind
 ·have hc := castLe h
  rw [ab_of_nonpos (x := (y1 : Rat) - y0) (by grind)]
  have e2 : -((y1 : Rat) - y0) / 64 = ((y0 : Rat) - y1) / 64 := by grind
  rw [e2]
  refine Rat.le_trans (rle_eq ?_) (key h)
  refine sumN_congr fun k _ => ?_
  have a1 := ph_cases k y0
  have a2 := ph_cases k y1
  have hd : dph k ((x0, y0), (x1, y1)) <= 0 := by unfold dph; simp only; omega
  have hd2 := castLe hd
  rw [cast_zero] at hd2
  rw [ab_of_nonpos (by grind)]
  unfold dph
  push_cast
  grind
section
variable {W H : Nat} {q : Rat} {δ len : Pt × Pt -> Rat} {Ad : Pt × Pt -> List (Nat × Nat)} {gs : List (Pt × Pt)}
 (hE : ∀ e ∈ gs, EG W H e (δ e) (len e) (Ad e)) (hq : ∀ e ∈ gs, ∀ r : Int, ab (dR (r - 1) e) + ab (dR r e) <= q)
include hE
theorem sum_bd (hclosed : ∀ r, sumE (dR r) gs = 0) {X Y : Nat} (hX : X < W) (hY : Y < H) :
  ab (sumE (fun e => sumR (valL (Ad e)) (Y * W + X)) gs - areaR gs X Y) <= sumE δ gs /\ ab (sumE (fun e => sumR (valL (Ad e)) (Y * W + X)) gs) <= 1 / 2 * sumE (fun e => ab (dR Y e)) gs + sumE δ gs := by
 have n1 := sumE_near2 (s := gs) fun e he => (hE e he).cum X Y hX hY
 rw [sumE_add] at n1
 have hr : sumE (fun e => rowsR (fun r => (dph r e : Rat) / 64) 0 Y) gs = 0 := by
  rw [sumE_rows (fun e r => (dph r e : Rat) / 64)]
  exact rowsR_zero fun r _ _ => hclosed r
 have ha : sumE (fun e => areaE X Y e) gs = areaR gs X Y := rfl
 rw [hr, ha] at n1
 have e1 : (0 : Rat) + areaR gs X Y = areaR gs X Y := by grind
 rw [e1] at n1
 refine ⟨n1, ?_⟩
 have h1 : areaR gs X Y = sumE (fun e => dR Y e * (mEdge X Y e - 1 / 2)) gs := by
  have h2 : sumE (fun e => dR Y e * (mEdge X Y e - 1 / 2) + 1 / 2 * dR Y e) gs = areaR gs X Y := by
   unfold areaR
   exact sumE_congr fun e _ => by unfold areaE dR; grind
  rw [sumE_add, sumE_mul, hclosed] at h2
  grind
 have h3 : ab (areaR gs X Y) <= sumE (fun e => 1 / 2 * ab (dR Y e)) gs := by
  rw [h1]
  refine sumE_ab fun e _ => ?_
  have hb := mEdge_bd X Y e
  have := ab_mul_le (x := dR Y e) (y := mEdge X Y e - 1 / 2) Rat.le_refl (ab_le (y := 1 / 2) (by grind) (by grind))
  grind
 rw [sumE_mul] at h3
 have k := ab_add_le (sumE (fun e => sumR (valL (Ad e)) (Y * W + X)) gs - areaR gs X Y) (areaR gs X Y)
 have e2 : sumE (fun e => sumR (valL (Ad e)) (Y * W + X)) gs - areaR gs X Y + areaR gs X Y = sumE (fun e => sumR (valL (Ad e)) (Y * W + X)) gs := by grind
 rw [e2] at k
 grind
include hq
end
theorem closed_path (p : List Pt) (r : Int) : sumE (dR r) (edges p) = 0 := by
 have h1 : sumE (dR r) (edges p) = (1 / 64) * ((zsum (fun e => dph r e) (edges p) : Int) : Rat) := by
  rw [zsum_sumE, <- sumE_mul]
  exact sumE_congr fun e _ => by unfold dR; grind
 have h2 : zsum (fun e => dph r e) (edges p) = 0 := dph_edges (ph r) p
 rw [h1, h2, cast_zero]
 grind
theorem floLine_level (W : Nat) (H : Int) {px py qx qy : Nat} (h1 : F32 px) (h2 : F32 py) (h3 : F32 qx) (h4 : F32 qy) (hy : V py = V qy) (hb : ab (V py) <= 100000) (b1 : ab (V px) <= 100000) (b2 : ab (V qx) <= 100000) :
  floLine W H px py qx qy = [] /\ FloOk H px py qx qy := by
 have hz : V qy - V py = 0 := by rw [hy]; grind
 have hg : ¬ fgt py qy = true := by rw [fgt_iff h2 h4, hy]; grind
 obtain ⟨q, r⟩ := fsub_ok h4 h2 (by rw [hz]; exact big126 (by decide +kernel))
 rw [hz] at r
 have v := r.eq (n := 0) (q := 0) (by rw [p2_zero, cast_zero]; grind) (by decide) (by decide) (by decide)
 have hle : fle (fop .sub qy py) 897988541 = true := by
  rw [fle_iff r.fin cTiny.1, v]
  have := cTiny.2.1
  grind
 unfold floLine FloOk
 rw [if_neg hg, if_neg hg]
 unfold floUp FloUpOk
 rw [if_pos hle]
 refine ⟨rfl, q, fun hc => ?_⟩
 rw [hle] at hc
 cases hc
theorem wqV {n : Int} (h : -100000 <= n /\ n <= 100000) : F32 (wq n) /\ V (wq n) = (n : Rat) / 64 /\ Grid (-6) (V (wq n)) := by
 have hq := (wq_ok (n := n) (by omega) (by omega)).2
 exact ⟨hq.1, hq.2, hq.grid⟩
def wE (e : Pt × Pt) : Rat := ab ((e.2.1 : Rat) - e.1.1) / 64
def rhoE (e : Pt × Pt) : Rat := if wE e <= hE' e then 1 else hE' e / wE e
theorem wE_nonneg (e : Pt × Pt) : 0 <= wE e := by unfold wE; have := ab_nonneg ((e.2.1 : Rat) - e.1.1); grind
theorem hE'_nonneg (e : Pt × Pt) : 0 <= hE' e := by unfold hE'; have := ab_nonneg ((e.2.2 : Rat) - e.1.2); grind
theorem rhoE_bd (e : Pt × Pt) : 0 <= rhoE e /\ rhoE e <= 1 /\ rhoE e * wE e <= hE' e := by
 have h0 := wE_nonneg e
 have h1 := hE'_nonneg e
 unfold rhoE
 split
 ·exact ⟨by decide, Rat.le_refl, by grind⟩
 ·rename_i h
  have hw : 0 < wE e := by grind
  have e1 : hE' e / wE e * wE e = hE' e := Rat.div_mul_cancel (by grind)
  refine ⟨?_, ?_, by rw [e1]; exact Rat.le_refl⟩
  ·rw [Rat.div_def]; exact Rat.mul_nonneg h1 (Rat.le_of_lt (Rat.inv_pos.2 hw))
  ·refine Rat.le_of_mul_le_mul_right (c := wE e) ?_ hw
   rw [e1]; grind
theorem rhoE_slope {e : Pt × Pt} {s : Rat} (hh : 0 < hE' e) (hs : ab s * hE' e = wE e) : ab s * rhoE e <= 1 /\ (1 <= rhoE e ∨ 1 <= rhoE e * ab s) := by
 have h0 := wE_nonneg e
 unfold rhoE
 split
 ·rename_i h
  refine ⟨?_, .inl Rat.le_refl⟩
  refine Rat.le_of_mul_le_mul_right (c := hE' e) ?_ hh
  grind
 ·rename_i h
  have hw : 0 < wE e := by grind
  have e1 : hE' e / wE e * wE e = hE' e := Rat.div_mul_cancel (by grind)
  have e2 : ab s * (hE' e / wE e) = 1 := by
   have e3 : (ab s * (hE' e / wE e)) * hE' e = 1 * hE' e := by
    have : (ab s * (hE' e / wE e)) * hE' e = (hE' e / wE e) * (ab s * hE' e) := by grind
    rw [this, hs, e1]; grind
   have k1 := Rat.le_of_mul_le_mul_right (c := hE' e) (a := ab s * (hE' e / wE e)) (b := 1) (by rw [e3]; exact Rat.le_refl) hh
   have k2 := Rat.le_of_mul_le_mul_right (c := hE' e) (a := 1) (b := ab s * (hE' e / wE e)) (by rw [e3]; exact Rat.le_refl) hh
   grind
  exact ⟨by rw [e2]; exact Rat.le_refl, .inr (by rw [Rat.mul_comm, e2]; exact Rat.le_refl)⟩
theorem ab_64 (x : Rat) : ab (x / 64) = ab x / 64 := by
 have : x / 64 = (1 / 64) * x := by grind
 rw [this, ab_mul, ab_of_nonneg (x := (1 / 64 : Rat)) (by decide +kernel)]
 grind
end Go.Proofs.Ytmgcbodlolnheaa
namespace Go.Proofs.Ytmgcbodlolnheaa
open Go.ChangeShapes Go.WideShapes Go.ChangeAt Go.RowKit Go.Deep Flt
set_option linter.unusedVariables false
@[local go_sem ↓] theorem run_maxS31 {P : Program} {w : World} (ts : Array TypeId) (t : TypeId) (k k1 : IntKind) (x y : Int) : (Builtin.max_ ts t #[.int k x, .int k1 y]).run P w = .ok (.int k (imax x y)) w := by
 have e : imax x y = if x < y then y else x := by unfold imax; split <;> split <;> omega
 rw [e]
 simp [Builtin.max_, Builtin.max2]
end Go.Proofs.Ytmgcbodlolnheaa
namespace Go.Proofs.Ytmgcbodlolnheaa
open Flt Go.RowKit
set_option linter.unusedVariables false
def In480 (n : Int) : Prop := -30720 <= n /\ n <= 30720
theorem In480.px {n : Int} (h : In480 n) : ab ((n : Rat) / 64) <= 480 := by
 have h1 := castLe h.1
 have h2 := castLe h.2
 push_cast at h1 h2
 exact ab_le (by grind) (by grind)
theorem rows_h {e : Pt × Pt} : hE' e <= (rowsE e : Rat) - 1 := by
 have h1 : ab ((e.2.2 : Rat) - e.1.2) = ((imax (e.1.2 - e.2.2) (e.2.2 - e.1.2) : Int) : Rat) := by
  rcases Int.le_total e.1.2 e.2.2 with h | h
  ·have hc := castLe h
   rw [ab_of_nonneg (by grind)]
   have : imax (e.1.2 - e.2.2) (e.2.2 - e.1.2) = e.2.2 - e.1.2 := by unfold imax; split <;> omega
   rw [this]; push_cast; rfl
  ·have hc := castLe h
   rw [ab_of_nonpos (by grind)]
   have : imax (e.1.2 - e.2.2) (e.2.2 - e.1.2) = e.1.2 - e.2.2 := by unfold imax; split <;> omega
   rw [this]; push_cast; grind
 unfold hE' rowsE
 rw [h1]
 generalize imax (e.1.2 - e.2.2) (e.2.2 - e.1.2) = d
 have h2 := castLe (show d <= 64 * ((d + 63) / 64) by omega)
 push_cast at h2 ⊢
 grind
theorem dR_two {e : Pt × Pt} (r : Int) : ab (dR (r - 1) e) + ab (dR r e) <= 2 := by
 have h1 := dph_le (r - 1) e
 have h2 := dph_le r e
 unfold dR
 grind
theorem dR_one {e : Pt × Pt} (h : rowsE e <= 2) (r : Int) : ab (dR (r - 1) e) + ab (dR r e) <= 1 := by
 obtain ⟨⟨x0, y0⟩, ⟨x1, y1⟩⟩ := e
 have hd : y0 - y1 <= 64 /\ y1 - y0 <= 64 := by
  unfold rowsE imax at h
  simp only at h
  split at h <;> omega
 unfold dR dph
 simp only
 have a1 := ph_cases (r - 1) y0
 have a2 := ph_cases (r - 1) y1
 have a3 := ph_cases r y0
 have a4 := ph_cases r y1
 rw [ab_64, ab_64]
 rcases Int.le_total y0 y1 with c | c
 ·have k1 := castLe (show 0 <= ph (r - 1) y1 - ph (r - 1) y0 by omega)
  have k2 := castLe (show 0 <= ph r y1 - ph r y0 by omega)
  have k3 := castLe (show ph (r - 1) y1 - ph (r - 1) y0 + (ph r y1 - ph r y0) <= 64 by omega)
  rw [cast_zero] at k1 k2
  push_cast at k3
  rw [ab_of_nonneg k1, ab_of_nonneg k2]
  push_cast at k3 ⊢
  grind
 ·have k1 := castLe (show ph (r - 1) y1 - ph (r - 1) y0 <= 0 by omega)
  have k2 := castLe (show ph r y1 - ph r y0 <= 0 by omega)
  have k3 := castLe (show -64 <= ph (r - 1) y1 - ph (r - 1) y0 + (ph r y1 - ph r y0) by omega)
  rw [cast_zero] at k1 k2
  push_cast at k3
  rw [ab_of_nonpos k1, ab_of_nonpos k2]
  push_cast at k3 ⊢
  grind
theorem sumE_nonneg {f : Pt × Pt -> Rat} {s : List (Pt × Pt)} (h : ∀ e ∈ s, 0 <= f e) : 0 <= sumE f s := by
 have := sumE_le (s := s) (f := fun _ => (0 : Rat)) (g := f) h
 rw [sumE_const] at this
 grind
theorem mean_near2 {K a b x y ε ρ s : Rat} (hK : 0 <= K) (hK1 : K <= 1) (hε : 0 <= ε) (hρ0 : 0 <= ρ) (hab : ab (b - a) = ab s * K) (hρ : 1 <= ρ ∨ 1 <= ρ * ab s) (hx : ab (x - a) <= ε) (hy : ab (y - b) <= ε) :
  ab (K * mean x y - K * mean a b) <= ε * ρ := by
 obtain ⟨x1, x2⟩ := ab_iff.1 hx
 obtain ⟨y1, y2⟩ := ab_iff.1 hy
 have s1 := mean_near_shift (a := a) (b := b) hK hε hρ0 hab hρ hK1
 have s2 := mean_near_shift (a := a + -ε) (b := b + -ε) hK hε hρ0 (by rw [show b + -ε - (a + -ε) = b - a by grind]; exact hab) hρ hK1
 have e2 : ∀ x : Rat, x + -ε + ε = x := fun x => by grind
 rw [e2, e2] at s2
 have m1 := Rat.mul_le_mul_of_nonneg_left (mean_mono (a := x) (b := y) (a' := a + ε) (b' := b + ε) (by grind) (by grind)) hK
 have m2 := Rat.mul_le_mul_of_nonneg_left (mean_mono (a := a + -ε) (b := b + -ε) (a' := x) (b' := y) (by grind) (by grind)) hK
 exact ab_le (by grind) (by grind)
def ownE (κ : Rat) (R : Int) (e : Pt × Pt) : Rat := (276 + R * κ) * rhoE e + 30 + 15 * hE' e
structure FE (W H : Nat) (e : Pt × Pt) (own : Rat) (R : Int) (L : List (Nat × Nat)) : Prop where
 bd : ∀ p ∈ L, Bd p.2 1
 nz : (nzL W L).Pairwise (· < ·)
 abs : absR (valL L) <= hE' e * (10003 / 10000) + 1 / 100000000000000000000
 neg : ∃ σ : Rat, (σ = 1 ∨ σ = -1) /\ absR (valL L) - σ * totR (valL L) <= hE' e * (3 / 10000) + 1 / 100000000000000000000
 z : 1 <= W -> ∀ xl xr : Rat, (xl = (e.1.1 : Rat) / 64 /\ xr = (e.2.1 : Rat) / 64 ∨ xl = (e.2.1 : Rat) / 64 /\ xr = (e.1.1 : Rat) / 64) -> xl <= xr ->
  (zcnt W L : Int) <= 2 * R + (telW W (xr + 1 / 20) - telW W (xl - 1 / 20)) /\
  (2 <= W -> xl <= 1 -> (W : Rat) - 1 <= xr -> (zcnt W L : Int) <= 2 * R - 1 + (telW W (xr + 1 / 20) - telW W (xl - 1 / 20)) ∨ (zcnt W L : Int) <= 2 * R + (telW W 1 - telW W (xl - 1 / 20)) ∨ (zcnt W L : Int) <= 2 * R + (telW W (xr + 1 / 20) - telW W ((W : Rat) - 1) - 1))
 len : (L.length : Rat) <= wE e + 2 * R + 2
 cum : ∀ X Y : Nat, X < W -> Y < H -> ab (sumR (valL L) (Y * W + X) - (rowsR (fun r => (dph r e : Rat) / 64) 0 Y + areaE X Y e)) <= own * (1 / 16777216)
theorem FE.flat {W H : Nat} {e : Pt × Pt} {own : Rat} {R : Int} (hy : e.1.2 = e.2.2) (h1 : 0 <= own) (hR : 1 <= R) : FE W H e own R [] := by
 have hd : ∀ r, dph r e = 0 := fun r => by unfold dph; rw [hy]; omega
 have hh := hE'_nonneg e
 have z0 : zcnt W [] = 0 := rfl
 refine ⟨fun p hp => by simp at hp, List.Pairwise.nil, ?_, ⟨1, .inl rfl, ?_⟩, fun hW xl xr hx hle => ?_, ?_, fun X Y hX hY => ?_⟩
 ·show (0 : Rat) <= _
  grind
 ·show (0 : Rat) - 1 * 0 <= _
  grind
 ·have tm := telW_mono W (show xl - 1 / 20 <= xr + 1 / 20 by grind)
  rw [z0]
  exact ⟨by push_cast; omega, fun _ _ _ => .inl (by push_cast; omega)⟩
 ·have hw := wE_nonneg e
  have hRr := castLe hR
  push_cast at hRr
  have : ((([] : List (Nat × Nat)).length : Nat) : Rat) = 0 := rfl
  rw [this]
  grind
 ·have e1 : rowsR (fun r => (dph r e : Rat) / 64) 0 Y = 0 := rowsR_zero fun r _ _ => by rw [hd, cast_zero]; grind
  have e2 : areaE X Y e = 0 := by unfold areaE; rw [hd, cast_zero]; grind
  rw [e1, e2]
  show ab ((0 : Rat) - (0 + 0)) <= _
  have : ab ((0 : Rat) - (0 + 0)) = 0 := by decide +kernel
  rw [this]
  grind
theorem aff_in {A E t xA xE s : Rat} (hAE : A < E) (h1 : A <= t) (h2 : t <= E) (hs : s * (E - A) = xE - xA) : (∀ c, xA <= c -> xE <= c -> xA + s * (t - A) <= c) /\ ∀ c, c <= xA -> c <= xE -> c <= xA + s * (t - A) := by
 have hp : 0 < E - A := by grind
 constructor
 ·intro c ca ce
  refine Rat.le_of_mul_le_mul_right (c := E - A) ?_ hp
  have m1 := Rat.mul_le_mul_of_nonneg_left ca (show 0 <= E - t by grind)
  have m2 := Rat.mul_le_mul_of_nonneg_left ce (show 0 <= t - A by grind)
  have e : (xA + s * (t - A)) * (E - A) = (E - t) * xA + (t - A) * xE := by
   have : s * (t - A) * (E - A) = (t - A) * (xE - xA) := by rw [<- hs]; grind
   grind
  rw [e]
  grind
 ·intro c ca ce
  refine Rat.le_of_mul_le_mul_right (c := E - A) ?_ hp
  have m1 := Rat.mul_le_mul_of_nonneg_left ca (show 0 <= E - t by grind)
  have m2 := Rat.mul_le_mul_of_nonneg_left ce (show 0 <= t - A by grind)
  have e : (xA + s * (t - A)) * (E - A) = (E - t) * xA + (t - A) * xE := by
   have : s * (t - A) * (E - A) = (t - A) * (xE - xA) := by rw [<- hs]; grind
   grind
  rw [e]
  grind
theorem narrow_rat {K ρ S ε h R kq w : Rat} (hK0 : 0 <= K) (hρ0 : 0 <= ρ) (hρ1 : ρ <= 1) (h0 : 0 <= h) (hR0 : 0 <= R) (hRh : R <= h + 2) (hkq : 0 <= kq) (hkq2 : kq <= 300 / 16777216) (hε : ε = w * (6 / 16777216) + R * kq) (hρw : ρ * w <= h) (hK1 : K <= 1)
  (r : 1 <= ρ ∨ 1 <= ρ * S) (t : S * K <= 1 + 2 * ε) : K * 275 <= 276 * ρ + 1 + h := by
 rcases r with r | r
 ·grind
 ·have t2 := Rat.mul_le_mul_of_nonneg_left t hρ0
  have t3 := Rat.mul_le_mul_of_nonneg_right r hK0
  have a1 : ρ * ε <= h * (6 / 16777216) + R * kq := by
   have := Rat.mul_le_mul_of_nonneg_right hρ1 (Rat.mul_nonneg hR0 hkq)
   rw [hε]
   grind
  have a2 : R * kq <= (h + 2) * (300 / 16777216) := by
   have m1 := Rat.mul_le_mul_of_nonneg_right hRh hkq
   have m2 := Rat.mul_le_mul_of_nonneg_left hkq2 (show 0 <= h + 2 by grind)
   grind
  have e : ρ * (S * K) = ρ * S * K := by grind
  rw [e] at t2
  have e2 : ρ * (1 + 2 * ε) = ρ + 2 * (ρ * ε) := by grind
  rw [e2] at t2
  generalize ρ * S * K = z at *
  generalize ρ * ε = y at *
  clear hε hρw r t
  grind
section
variable {W H : Nat} {m1 m2 m3 m4 : Int} {ax ay bx ey : Nat} {sg kq ρ h w own : Rat} {R : Int} {e : Pt × Pt} {L : List (Nat × Nat)}
 (vax : V ax = (m1 : Rat) / 64) (vay : V ay = (m2 : Rat) / 64) (vbx : V bx = (m3 : Rat) / 64) (vey : V ey = (m4 : Rat) / 64) (hlt : m2 < m4) (hsg : sg = 1 ∨ sg = -1)
 (hdph : ∀ r, ((dph r e : Int) : Rat) = sg * ((ph r m4 - ph r m2 : Int) : Rat)) (hme : ∀ X Y, mEdge X Y e = mE X Y m1 m2 m3 m4) (hh : hE' e = ((m4 : Rat) - m2) / 64) (hw : w = ab ((m3 : Rat) - m1) / 64)
 (hρ : 1 <= ρ ∨ 1 <= ρ * ab (slopeR m1 m2 m3 m4)) (hρ0 : 0 <= ρ) (hρ1 : ρ <= 1) (hρw : ρ * w <= hE' e) (hsl : slG ax ay bx ey = slopeR m1 m2 m3 m4) (hkq : 0 <= kq) (hkq2 : kq <= 300 / 16777216) (hR : ceilR (V ey) - (V ay).floor <= R) (hR1 : 1 <= R) (hR2 : (R : Rat) <= hE' e + 2) (hw528 : w <= 528) (hh528 : hE' e <= 528) (hsE : slopeR m1 m2 m3 m4 * ((m4 : Rat) - m2) = (m3 : Rat) - m1)
 (hL : LineQ W H ax ay bx ey sg kq L)
include vax vay vbx vey hlt hsg hdph hme hh hw hρ hρ0 hρ1 hρw hsl hkq hkq2 hR hR1 hR2 hw528 hh528 hsE hL
theorem cum_core {X Y : Nat} (hX : X < W) (hYH : Y < H) :
  ab (sumR (valL L) (Y * W + X) - (rowsR (fun r => (dph r e : Rat) / 64) 0 Y + areaE X Y e)) <= (276 * ρ + R * (kq * 16777216) * ρ + 30 + 15 * hE' e) * (1 / 16777216) /\
  ((m1 <= -64 /\ m3 <= -64) ∨ (64 * ((W : Int) + 1) <= m1 /\ 64 * ((W : Int) + 1) <= m3) -> ab (sumR (valL L) (Y * W + X) - (rowsR (fun r => (dph r e : Rat) / 64) 0 Y + areaE X Y e)) <= (30 + 15 * hE' e) * (1 / 16777216)) := by
 obtain ⟨p, q, c, ec, hpq, hc⟩ := hL.cum Y hYH
 have hc := hc X hX
 have hkm : 0 <= ph Y m4 - ph Y m2 /\ ph Y m4 - ph Y m2 <= 64 := by
  have a1 := ph_cases Y m2
  have a2 := ph_cases Y m4
  omega
 obtain ⟨K, hK⟩ : ∃ K, K = ((ph Y m4 - ph Y m2 : Int) : Rat) / 64 := ⟨_, rfl⟩
 have hK0 : 0 <= K := by
  have := castLe hkm.1
  rw [cast_zero] at this
  grind
 have hK1 : K <= 1 := by
  have := castLe hkm.2
  push_cast at this hK
  grind
 have hpk : pr Y (V ey) - pr Y (V ay) = K := by
  rw [vay, vey, pr_64, pr_64, hK]
  push_cast
  grind
 obtain ⟨G1, hG1⟩ : ∃ G1, G1 = GY Y (V ey) - GY Y (V ay) := ⟨_, rfl⟩
 have hAE : V ay < V ey := by
  have := castLt hlt
  rw [vay, vey]
  grind
 obtain ⟨gl0, gl1⟩ := GY_lip Y (Rat.le_of_lt hAE)
 rw [<- hG1] at gl0 gl1 hc
 rw [hpk] at hc
 have hh' : V ey - V ay = hE' e := by rw [vay, vey, hh]; grind
 rw [hh'] at gl1
 obtain ⟨s, hs⟩ : ∃ s, s = slopeR m1 m2 m3 m4 := ⟨_, rfl⟩
 have hu : ∀ m : Int, (X : Rat) + 1 - (V ax + s * ((Y : Rat) + pr Y ((m : Rat) / 64) - V ay)) = uE m1 m2 m3 m4 X ((64 * (Y : Int) + ph Y m : Int) : Rat) := by
  intro m
  rw [hs, vax, vay]
  unfold uE xE
  rw [pr_64]
  push_cast
  grind
 have hp1 := hu m2
 have hq1 := hu m4
 rw [<- vay] at hp1
 rw [<- vey] at hq1
 rw [hsl, <- hs] at hpq
 obtain ⟨a, ha⟩ : ∃ a, a = uE m1 m2 m3 m4 X ((64 * (Y : Int) + ph Y m2 : Int) : Rat) := ⟨_, rfl⟩
 obtain ⟨b, hb⟩ : ∃ b, b = uE m1 m2 m3 m4 X ((64 * (Y : Int) + ph Y m4 : Int) : Rat) := ⟨_, rfl⟩
 rw [<- ha] at hp1
 rw [<- hb] at hq1
 have harea : areaE X Y e = sg * (K * mean a b) := by
  unfold areaE
  rw [hdph, hme, hK, ha, hb]
  unfold mE
  grind
 have hrows : rowsR (fun r => (dph r e : Rat) / 64) 0 Y = sg * G1 := by
  rw [hG1, vay, vey, GY_64, GY_64, <- rowsR_sub, <- rowsR_mul]
  refine rowsR_congr fun r _ _ => ?_
  rw [hdph]
  push_cast
  grind
 have hab : ab (b - a) = ab s * K := by
  have e1 : b - a = -(s * K) := by
   rw [<- hq1, <- hp1, <- hpk]
   grind
  rw [e1, ab_neg, ab_mul, ab_of_nonneg hK0]
 have hw0 : 0 <= w := by rw [hw]; have := ab_nonneg ((m3 : Rat) - m1); grind
 have hwV : ab (V bx - V ax) = w := by
  rw [vax, vbx, hw, show (m3 : Rat) / 64 - (m1 : Rat) / 64 = ((m3 : Rat) - m1) / 64 by grind, ab_64]
 have hRr := castLe hR
 have hR0 : (0 : Rat) <= R := by
  have := castLe hR1
  push_cast at this
  grind
 have hh0 := hE'_nonneg e
 obtain ⟨ε, hε⟩ : ∃ ε, ε = w * (6 / 16777216) + R * kq := ⟨_, rfl⟩
 have hRk := Rat.mul_le_mul_of_nonneg_right hRr hkq
 have hRk0 := Rat.mul_nonneg hR0 hkq
 have hε0 : 0 <= ε := by rw [hε]; grind
 have hε1 : 0 < K -> ab ((X : Rat) + 1 - p - a) <= ε /\ ab ((X : Rat) + 1 - q - b) <= ε := by
  intro hpos
  obtain ⟨n1, n2⟩ := hpq (by grind)
  rw [hwV] at n1 n2
  have z1 : (X : Rat) + 1 - p - a = -(p - (V ax + s * ((Y : Rat) + pr Y (V ay) - V ay))) := by rw [<- hp1]; grind
  have z2 : (X : Rat) + 1 - q - b = -(q - (V ax + s * ((Y : Rat) + pr Y (V ey) - V ay))) := by rw [<- hq1]; grind
  rw [z1, z2, ab_neg, ab_neg]
  exact ⟨by grind, by grind⟩
 have hsum : sg * G1 + sg * (K * mean a b) = sg * (G1 + K * mean a b) := by grind
 rw [hrows, harea, hsum]
 generalize sumR (valL L) (Y * W + X) = S at *
 have tri : ∀ D : Rat, ab (K * mean ((X : Rat) + 1 - p) ((X : Rat) + 1 - q) - K * mean a b) <= D -> ab (S - sg * (G1 + K * mean a b)) <= G1 * (8 / 16777216) + K * ((c + 2) / 16777216) + 1 / 100000000000000000000 + D := by
  intro D hD
  have e1 : S - sg * (G1 + K * mean a b) = (S - sg * (G1 + K * mean ((X : Rat) + 1 - p) ((X : Rat) + 1 - q))) + sg * (K * mean ((X : Rat) + 1 - p) ((X : Rat) + 1 - q) - K * mean a b) := by grind
  have k1 := ab_add_le (S - sg * (G1 + K * mean ((X : Rat) + 1 - p) ((X : Rat) + 1 - q))) (sg * (K * mean ((X : Rat) + 1 - p) ((X : Rat) + 1 - q) - K * mean a b))
  have k2 : ab (sg * (K * mean ((X : Rat) + 1 - p) ((X : Rat) + 1 - q) - K * mean a b)) = ab (K * mean ((X : Rat) + 1 - p) ((X : Rat) + 1 - q) - K * mean a b) := by
   rw [ab_mul]
   rcases hsg with z | z <;> rw [z]
   ·have : ab (1 : Rat) = 1 := by decide +kernel
    rw [this]; grind
   ·have : ab (-1 : Rat) = 1 := by decide +kernel
    rw [this]; grind
  rw [e1]
  grind
 have hgG : G1 * (8 / 16777216) <= hE' e * (8 / 16777216) := Rat.mul_le_mul_of_nonneg_right gl1 (by decide +kernel)
 constructor
 ·have D1 : ab (K * mean ((X : Rat) + 1 - p) ((X : Rat) + 1 - q) - K * mean a b) <= ε * ρ := by
   by_cases hpos : 0 < K
   ·obtain ⟨n1, n2⟩ := hε1 hpos
    exact mean_near2 hK0 hK1 hε0 hρ0 hab (by rw [hs]; exact hρ) n1 n2
   ·have : K = 0 := by grind
    rw [this, show (0 : Rat) * mean ((X : Rat) + 1 - p) ((X : Rat) + 1 - q) - 0 * mean a b = 0 by grind]
    have : ab (0 : Rat) = 0 := by decide +kernel
    rw [this]
    exact Rat.mul_nonneg hε0 hρ0
  have T := tri _ D1
  have hερ : ε * ρ <= hE' e * (6 / 16777216) + R * kq * ρ := by
   rw [hε]
   grind
  have hcK : K * ((c + 2) / 16777216) <= (276 * ρ + 29 + hE' e) * (1 / 16777216) := by
   rcases ec with z | ⟨z, z1, _, _⟩
   ·rw [z]
    grind
   ·rw [z]
    by_cases hpos : 0 < K
    ·obtain ⟨n1, n2⟩ := hε1 hpos
     have t1 : ab s * K <= 1 + 2 * ε := by
      rw [<- hab]
      have e3 : b - a = ((X : Rat) + 1 - p - a) + (-((X : Rat) + 1 - q - b) + -(q - p)) := by grind
      have k1 := ab_add_le ((X : Rat) + 1 - p - a) (-((X : Rat) + 1 - q - b) + -(q - p))
      have k2 := ab_add_le (-((X : Rat) + 1 - q - b)) (-(q - p))
      rw [<- e3] at k1
      rw [ab_neg, ab_neg] at k2
      grind
     have := narrow_rat hK0 hρ0 hρ1 hh0 hR0 hR2 hkq hkq2 hε hρw hK1 (by rw [hs]; exact hρ) t1
     grind
    ·have : K = 0 := by grind
     rw [this]
     grind
  have e9 : (276 * ρ + R * (kq * 16777216) * ρ + 30 + 15 * hE' e) * (1 / 16777216) = (276 * ρ + 29 + hE' e) * (1 / 16777216) + R * kq * ρ + hE' e * (14 / 16777216) + 1 / 16777216 := by grind
  rw [e9]
  grind
 ·intro hfar
  by_cases hpos : 0 < K
  ·obtain ⟨n1, n2⟩ := hε1 hpos
   have hεs : ε <= 1 / 2 := by
    have m1 := Rat.mul_le_mul_of_nonneg_right (show (R : Rat) <= 530 by grind) hkq
    rw [hε]
    grind
   obtain ⟨i1, i2, i3, i4⟩ := hY_in (A := V ay) (E := V ey) (Y := Y) (by grind)
   have hsE' : s * (V ey - V ay) = V bx - V ax := by
    rw [hs, vax, vay, vbx, vey]
    grind
   have A1 := aff_in hAE i1 i2 hsE'
   have A2 := aff_in hAE i3 i4 hsE'
   unfold hY at A1 A2
   have hX0 : (0 : Rat) <= X := by exact_mod_cast Nat.zero_le X
   have hXW : (X : Rat) + 1 <= W := by exact_mod_cast hX
   obtain ⟨x1, x2⟩ := ab_iff.1 n1
   obtain ⟨x3, x4⟩ := ab_iff.1 n2
   rcases hfar with ⟨g1, g2⟩ | ⟨g1, g2⟩
   ·have g1 := castLe g1
    have g2 := castLe g2
    push_cast at g1 g2
    have b1 := A1.1 (-1) (by rw [vax]; grind) (by rw [vbx]; grind)
    have b2 := A2.1 (-1) (by rw [vax]; grind) (by rw [vbx]; grind)
    have hz : c = 27 := by
     rcases ec with z | ⟨_, _, z, _⟩
     ·exact z
     ·exfalso
      rcases z with z | z <;> grind
    have e1 : mean a b = 1 := mean_one (by grind) (by grind)
    have e2 : mean ((X : Rat) + 1 - p) ((X : Rat) + 1 - q) = 1 := mean_one (by grind) (by grind)
    have T := tri 0 (by
     rw [e1, e2, show K * 1 - K * 1 = 0 by grind]
     decide +kernel)
    rw [hz] at T
    grind
   ·have g1 := castLe g1
    have g2 := castLe g2
    push_cast at g1 g2
    have b1 := A1.2 ((W : Rat) + 1) (by rw [vax]; grind) (by rw [vbx]; grind)
    have b2 := A2.2 ((W : Rat) + 1) (by rw [vax]; grind) (by rw [vbx]; grind)
    have hz : c = 27 := by
     rcases ec with z | ⟨_, _, _, z⟩
     ·exact z
     ·exfalso
      rcases z with z | z <;> grind
    have e1 : mean a b = 0 := mean_zero (by grind) (by grind)
    have e2 : mean ((X : Rat) + 1 - p) ((X : Rat) + 1 - q) = 0 := mean_zero (by grind) (by grind)
    have T := tri 0 (by
     rw [e1, e2, show K * 0 - K * 0 = 0 by grind]
     decide +kernel)
    rw [hz] at T
    grind
  ·have hK00 : K = 0 := by grind
   have T := tri 0 (by
    rw [hK00, show (0 : Rat) * mean ((X : Rat) + 1 - p) ((X : Rat) + 1 - q) - 0 * mean a b = 0 by grind]
    decide +kernel)
   rw [hK00] at T
   rw [hK00]
   grind
end
theorem telW_past {W : Nat} (hW : 2 <= W) {x : Rat} (h : (W : Rat) - 1 < x) : telW W ((W : Rat) - 1) + 1 <= telW W x := by
 have hW2 : (2 : Rat) <= W := by exact_mod_cast hW
 have h1 : ceilR (if ((W : Rat) - 1) <= 1 then (W : Rat) - 1 else 1) = 1 := by
  by_cases c : (W : Rat) - 1 <= 1
  ·rw [if_pos c, show (W : Rat) - 1 = ((1 : Int) : Rat) by push_cast; grind, ceilR_int]
  ·rw [if_neg c]; exact ceilR_int 1
 have h2 : ceilR (if x <= 1 then x else 1) = 1 := by rw [if_neg (by grind)]; exact ceilR_int 1
 have cW : (((W : Int) - 1 : Int) : Rat) = (W : Rat) - 1 := by push_cast; rfl
 unfold telW
 rw [h1, h2, if_pos (Rat.le_refl), if_neg (by grind), <- cW, ceilR_int]
 have := (ceil_near x).1
 have : (((W : Int) - 1 : Int) : Rat) < ((ceilR x : Int) : Rat) := by rw [cW]; grind
 have := Rat.intCast_lt_intCast.1 this
 omega
theorem LineQ.zz {W H ax ay bx ey : Nat} {sg kq : Rat} {L : List (Nat × Nat)} {R : Int} (hL : LineQ W H ax ay bx ey sg kq L) (hR : ceilR (V ey) - (V ay).floor <= R) (hW : 1 <= W) {xl xr : Rat} (hx : xl = V ax /\ xr = V bx ∨ xl = V bx /\ xr = V ax) (hle : xl <= xr) :
  (zcnt W L : Int) <= 2 * R + (telW W (xr + 1 / 20) - telW W (xl - 1 / 20)) /\
  (2 <= W -> xl <= 1 -> (W : Rat) - 1 <= xr -> (zcnt W L : Int) <= 2 * R - 1 + (telW W (xr + 1 / 20) - telW W (xl - 1 / 20)) ∨ (zcnt W L : Int) <= 2 * R + (telW W 1 - telW W (xl - 1 / 20)) ∨ (zcnt W L : Int) <= 2 * R + (telW W (xr + 1 / 20) - telW W ((W : Rat) - 1) - 1)) := by
 obtain ⟨xe, z1, z2⟩ := hL.z hW
 rcases hx with ⟨e1, e2⟩ | ⟨e1, e2⟩
 ·obtain ⟨u1, u0, u2, u3⟩ := z1 (by rw [<- e1, <- e2]; exact hle)
  rw [<- e1] at u2 u3
  rw [<- e2] at u1
  have t1 := telW_mono W u1
  have t2 := telW_mono W (show xl - 1 / 20 <= xl by grind)
  refine ⟨by omega, fun w2 a b => ?_⟩
  have hW2 : (2 : Rat) <= W := by exact_mod_cast w2
  by_cases c : 1 <= xe
  ·have := u3 w2 (by grind) c
   exact .inl (by omega)
  ·have t3 := telW_mono W (show xe <= 1 by grind)
   exact .inr (.inl (by omega))
 ·obtain ⟨u1, u0, u2, u3⟩ := z2 (by rw [<- e1, <- e2]; exact hle)
  rw [<- e2] at u2 u3
  rw [<- e1] at u1
  have t1 := telW_mono W u1
  have t2 := telW_mono W (show xr <= xr + 1 / 20 by grind)
  refine ⟨by omega, fun w2 a b => ?_⟩
  have hW2 : (2 : Rat) <= W := by exact_mod_cast w2
  by_cases c : xe <= (W : Rat) - 1
  ·have := u3 w2 c (by grind)
   exact .inl (by omega)
  ·have t3 := telW_past w2 (show (W : Rat) - 1 < xe by grind)
   exact .inr (.inr (by omega))
theorem LineQ.len {W H ax ay bx ey : Nat} {sg kq : Rat} {L : List (Nat × Nat)} {R : Int} (hL : LineQ W H ax ay bx ey sg kq L) (hR : ceilR (V ey) - (V ay).floor <= R) (hW : 1 <= W) : (L.length : Rat) <= ab (V bx - V ax) + 2 * R + 2 := by
 obtain ⟨xe, z1, z2⟩ := hL.z hW
 rcases Rat.le_total (a := V ax) (b := V bx) with h | h
 ·obtain ⟨u1, u0, _⟩ := z1 h
  have c1 := (ceil_near xe).2
  have c2 := (ceil_near (V ax)).1
  have r := castLe (show (L.length : Int) <= 2 * R + (ceilR xe - ceilR (V ax)) by omega)
  push_cast at r
  rw [ab_of_nonneg (by grind)]
  grind
 ·obtain ⟨u1, u0, _⟩ := z2 h
  have c1 := (ceil_near xe).1
  have c2 := (ceil_near (V ax)).2
  have r := castLe (show (L.length : Int) <= 2 * R + (ceilR (V ax) - ceilR xe) by omega)
  push_cast at r
  rw [ab_of_nonpos (by grind)]
  grind
section
variable {ax ay bx ey dir : Nat} (h : GSpan ax ay bx ey 265)
include h
theorem OnG.mono {n : Nat} {y : Int} {x : Nat} (ho : OnG ax ay bx ey 265 n y x) (h1 : (V ay).floor <= y) (h2 : y < ceilR (V ey)) (hn : n + 1 <= 2000) :
  (0 <= V (slW ax ay bx ey) -> V x <= V ((lnG dir ax ay bx ey).nx y x)) /\ (V (slW ax ay bx ey) <= 0 -> V ((lnG dir ax ay bx ey).nx y x) <= V x) := by
 obtain ⟨p, r, e1, e2, e3⟩ := ho.part h (by decide) (by decide) (dir := dir) h1 h2 hn
 have fx := ho.xs.bd.fin
 exact ⟨fun c => r.geF fx (by have := e2 c; grind), fun c => r.leF fx (by have := e3 c; grind)⟩
theorem lineQ_G {W H : Nat} {σ : Rat} (hW : 0 < W) (hd : DirW dir σ) : LineQ W H ax ay bx ey σ (265 / 16777216) ((lnG dir ax ay bx ey).adds W (flEnd ey H - ffl ay).toNat (ffl ay) ax) :=
 lineQ (Q := OnG ax ay bx ey 265) h hW hd (fun _ _ _ q => q) (fun n y x q h1 h2 hn => (q.next h (by decide) (by decide) (dir := dir) h1 h2 hn).2.1) (fun n y x q h1 h2 hn => OnG.mono h q h1 h2 hn) (OnG.start h (by decide)) (by decide +kernel) (fun n y x q _ => q.near)
theorem lineQ_H {W H : Nat} {σ : Rat} (hW : 0 < W) (hd : DirW dir σ) (ha : ab (V ax) <= 250) (hb : ab (V bx) <= 250) : LineQ W H ax ay bx ey σ kF ((lnG dir ax ay bx ey).adds W (flEnd ey H - ffl ay).toNat (ffl ay) ax) := by
 obtain ⟨sl1, _, hlt⟩ := h.rows (by decide)
 refine lineQ (Q := OnQ ax ay bx ey) h hW hd (fun _ _ _ q => q.on) (fun n y x q h1 h2 hn => (q.next h h1 h2 hn).1) (fun n y x q h1 h2 hn => (q.next h h1 h2 hn).2) (OnQ.start h (by grind)) (by decide +kernel) (fun n y x q hn => ?_)
 obtain ⟨g1, g2⟩ := hg_bd (Rat.le_of_lt hlt) y
 obtain ⟨a1, a2⟩ := ab_iff.1 ha
 obtain ⟨b1, b2⟩ := ab_iff.1 hb
 have A := aff_in hlt g1 g2 sl1
 have c1 := A.1 250 (by grind) (by grind)
 have c2 := A.2 (-250) (by grind) (by grind)
 have hn' : (n : Rat) <= 2000 := by exact_mod_cast hn
 have hs0 := ab_nonneg (slG ax ay bx ey)
 have habs : ab (slG ax ay bx ey) * (V ey - V ay) = ab (V bx - V ax) := by rw [<- sl1, ab_mul, ab_of_nonneg (x := V ey - V ay) (by grind)]
 have m1 := Rat.mul_le_mul_of_nonneg_left (show hg (V ay) (V ey) y - V ay <= V ey - V ay by grind) hs0
 rw [habs] at m1
 have hw5 : ab (V bx - V ax) <= 500 := ab_le (by grind) (by grind)
 obtain ⟨o1, o2⟩ := ab_iff.1 q.on.near
 rcases q.near with z | ⟨_, z⟩ | ⟨_, z⟩
 ·exact z
 ·exfalso; grind
 ·exfalso; grind
end
theorem flE64 (m : Int) : ((m : Rat) / 64).floor = m / 64 := by
 have h1 : m / 64 <= ((m : Rat) / 64).floor := by
  rw [Rat.le_floor_iff]
  have := castLe (show m / 64 * 64 <= m by omega)
  push_cast at this
  grind
 have h2 : ((m : Rat) / 64).floor < m / 64 + 1 := by
  rw [Rat.floor_lt_iff]
  have := castLt (show m < (m / 64 + 1) * 64 by omega)
  push_cast at this ⊢
  grind
 omega
theorem ceE64 (m : Int) : ceilR ((m : Rat) / 64) = (m + 63) / 64 := by
 unfold ceilR
 have h1 : (-((m + 63) / 64)) <= (-((m : Rat) / 64)).floor := by
  rw [Rat.le_floor_iff]
  have := castLe (show m <= (m + 63) / 64 * 64 by omega)
  push_cast at this ⊢
  grind
 have h2 : (-((m : Rat) / 64)).floor < -((m + 63) / 64) + 1 := by
  rw [Rat.floor_lt_iff]
  have := castLt (show ((m + 63) / 64 - 1) * 64 < m by omega)
  push_cast at this ⊢
  grind
 omega
def In264 (n : Int) : Prop := -16896 <= n /\ n <= 16896
theorem In264.px {n : Int} (h : In264 n) : ab ((n : Rat) / 64) <= 264 := by
 have h1 := castLe h.1
 have h2 := castLe h.2
 push_cast at h1 h2
 exact ab_le (by grind) (by grind)
def farF (W : Nat) (e : Pt × Pt) : Prop := (e.1.1 <= -64 /\ e.2.1 <= -64) ∨ (64 * ((W : Int) + 1) <= e.1.1 /\ 64 * ((W : Int) + 1) <= e.2.1)
instance (W : Nat) (e : Pt × Pt) : Decidable (farF W e) := by unfold farF; infer_instance
def ownF (W : Nat) (e : Pt × Pt) : Rat := if farF W e then 30 + 15 * hE' e else if wE e < 40 then ownE (1281 / 10) (rowsE e) e else ownE 265 (rowsE e) e
section
variable {W H : Nat} {m1 m2 m3 m4 : Int} {ax ay bx ey dir : Nat} {sg : Rat} {e : Pt × Pt}
theorem edge_core (hW : 0 < W) (hW2 : W <= 200) (vax : V ax = (m1 : Rat) / 64) (vay : V ay = (m2 : Rat) / 64) (vbx : V bx = (m3 : Rat) / 64) (vey : V ey = (m4 : Rat) / 64) (hlt : m2 < m4) (hg : GSpan ax ay bx ey 265) (hd : DirW dir sg)
  (hdph : ∀ r, ((dph r e : Int) : Rat) = sg * ((ph r m4 - ph r m2 : Int) : Rat)) (hme : ∀ X Y, mEdge X Y e = mE X Y m1 m2 m3 m4) (hh : hE' e = ((m4 : Rat) - m2) / 64) (hw : wE e = ab ((m3 : Rat) - m1) / 64)
  (hR : ceilR (V ey) - (V ay).floor <= rowsE e) (hR1 : 1 <= rowsE e) (hR2 : ((rowsE e : Int) : Rat) <= hE' e + 2) (hw528 : wE e <= 528) (hh528 : hE' e <= 528)
  (hxe : (e.1.1 = m1 /\ e.2.1 = m3) ∨ (e.1.1 = m3 /\ e.2.1 = m1)) (b1 : In264 m1) (b3 : In264 m3) :
  FE W H e (ownF W e) (rowsE e) ((lnG dir ax ay bx ey).adds W (flEnd ey H - ffl ay).toNat (ffl ay) ax) := by
 have hc := castLt hlt
 have hsE : slopeR m1 m2 m3 m4 * ((m4 : Rat) - m2) = (m3 : Rat) - m1 := by
  unfold slopeR
  push_cast
  rw [Rat.div_mul_cancel (by grind)]
 have hsl : slG ax ay bx ey = slopeR m1 m2 m3 m4 := by
  have : slopeR m1 m2 m3 m4 * (V ey - V ay) = V bx - V ax := by rw [vax, vay, vbx, vey]; grind
  unfold slG
  rw [<- this, Rat.div_def]
  have e1 : (V ey - V ay) * (V ey - V ay)⁻¹ = 1 := Rat.mul_inv_cancel _ (by rw [vay, vey]; grind)
  rw [Rat.mul_assoc, e1, Rat.mul_one]
 have hhp : 0 < hE' e := by rw [hh]; grind
 have hsh : ab (slopeR m1 m2 m3 m4) * hE' e = wE e := by
  have : ab (slopeR m1 m2 m3 m4) * ((m4 : Rat) - m2) = ab ((m3 : Rat) - m1) := by rw [<- hsE, ab_mul, ab_of_nonneg (x := (m4 : Rat) - m2) (by grind)]
  rw [hh, hw]
  grind
 obtain ⟨_, rs⟩ := rhoE_slope hhp hsh
 obtain ⟨r0, r1, r2⟩ := rhoE_bd e
 have far_iff : farF W e ↔ (m1 <= -64 /\ m3 <= -64) ∨ (64 * ((W : Int) + 1) <= m1 /\ 64 * ((W : Int) + 1) <= m3) := by
  unfold farF
  rcases hxe with ⟨z1, z2⟩ | ⟨z1, z2⟩ <;> rw [z1, z2]
  constructor <;> (intro h; rcases h with ⟨a, b⟩ | ⟨a, b⟩ <;> omega)
 have mk : ∀ (kq κ : Rat), 0 <= kq -> kq <= 300 / 16777216 -> kq * 16777216 <= κ -> LineQ W H ax ay bx ey sg kq ((lnG dir ax ay bx ey).adds W (flEnd ey H - ffl ay).toNat (ffl ay) ax) ->
   FE W H e (if farF W e then 30 + 15 * hE' e else ownE κ (rowsE e) e) (rowsE e) ((lnG dir ax ay bx ey).adds W (flEnd ey H - ffl ay).toNat (ffl ay) ax) := by
  intro kq κ k0 k1 k2 hL
  have hh' : V ey - V ay = hE' e := by rw [vay, vey, hh]; grind
  have A := hL.abs
  have N := hL.neg
  rw [hh'] at A N
  refine ⟨hL.bd, hL.nz, A, ⟨sg, hd.one, N⟩, fun hW2 xl xr hx hle => hL.zz hR hW2 ?_ hle, ?_, fun X Y hX hY => ?_⟩
  ·rw [vax, vbx]
   rcases hxe with ⟨z1, z2⟩ | ⟨z1, z2⟩ <;> rw [z1, z2] at hx
   ·exact hx
   ·exact hx.symm
  ·have l := hL.len hR hW
   have e1 : V bx - V ax = ((m3 : Rat) - m1) / 64 := by rw [vax, vbx]; grind
   rw [e1, ab_64, <- hw] at l
   exact l
  ·obtain ⟨c1, c2⟩ := cum_core vax vay vbx vey hlt hd.one hdph hme hh hw rs r0 r1 r2 hsl k0 k1 hR hR1 hR2 hw528 hh528 hsE hL hX hY
   split
   ·rename_i hf
    exact c2 (far_iff.1 hf)
   ·refine Rat.le_trans c1 (Rat.mul_le_mul_of_nonneg_right ?_ (by decide +kernel))
    have hRr : (0 : Rat) <= ((rowsE e : Int) : Rat) := by
     have := castLe hR1
     push_cast at this
     grind
    have m1 := Rat.mul_le_mul_of_nonneg_left k2 hRr
    have m2 := Rat.mul_le_mul_of_nonneg_right m1 r0
    unfold ownE
    grind
 have G := mk (265 / 16777216) 265 (by decide +kernel) (by decide +kernel) (by decide +kernel) (lineQ_G hg hW hd)
 unfold ownF
 by_cases hf : farF W e
 ·rw [if_pos hf] at G ⊢
  exact G
 ·rw [if_neg hf] at G ⊢
  by_cases hwd : wE e < 40
  ·rw [if_pos hwd]
   have hnf : ¬ ((m1 <= -64 /\ m3 <= -64) ∨ (64 * ((W : Int) + 1) <= m1 /\ 64 * ((W : Int) + 1) <= m3)) := fun h => hf (far_iff.2 h)
   have hd40 : ab ((m3 : Rat) - m1) < 2560 := by rw [hw] at hwd; grind
   have i1 : (-2560 : Int) < m3 - m1 /\ m3 - m1 < 2560 := by
    obtain ⟨a, b⟩ := ab_iff.1 (show ab ((m3 : Rat) - m1) <= ab ((m3 : Rat) - m1) from Rat.le_refl)
    constructor
    ·have : ((-2560 : Int) : Rat) < ((m3 - m1 : Int) : Rat) := by push_cast; grind
     exact Rat.intCast_lt_intCast.1 this
    ·have : ((m3 - m1 : Int) : Rat) < ((2560 : Int) : Rat) := by push_cast; grind
     exact Rat.intCast_lt_intCast.1 this
   have in250 : ∀ n : Int, -16000 <= n -> n <= 16000 -> ab ((n : Rat) / 64) <= 250 := fun n h1 h2 => by
    have h1 := castLe h1
    have h2 := castLe h2
    push_cast at h1 h2
    exact ab_le (by grind) (by grind)
   have Hq := mk kF (1281 / 10) (by decide +kernel) (by decide +kernel) (by decide +kernel) (lineQ_H hg hW hd (by rw [vax]; exact in250 _ (by omega) (by omega)) (by rw [vbx]; exact in250 _ (by omega) (by omega)))
   rw [if_neg hf] at Hq
   exact Hq
  ·rw [if_neg hwd]
   exact G
end
theorem edge_F {W H : Nat} (hW : 0 < W) (hW2 : W <= 200) {x0 y0 x1 y1 : Int} (h0 : In264 x0) (h1 : In264 y0) (h2 : In264 x1) (h3 : In264 y1) :
  FloOk H (wq x0) (wq y0) (wq x1) (wq y1) /\ FE W H ((x0, y0), (x1, y1)) (ownF W ((x0, y0), (x1, y1))) (rowsE ((x0, y0), (x1, y1))) (floLine W H (wq x0) (wq y0) (wq x1) (wq y1)) := by
 obtain ⟨e, he⟩ : ∃ e : Pt × Pt, e = ((x0, y0), (x1, y1)) := ⟨_, rfl⟩
 rw [<- he]
 have b0 := h0.px
 have b1 := h1.px
 have b2 := h2.px
 have b3 := h3.px
 obtain ⟨f0, v0, g0⟩ := wqV (n := x0) (by unfold In264 at h0; omega)
 obtain ⟨f1, v1, g1⟩ := wqV (n := y0) (by unfold In264 at h1; omega)
 obtain ⟨f2, v2, g2⟩ := wqV (n := x1) (by unfold In264 at h2; omega)
 obtain ⟨f3, v3, g3⟩ := wqV (n := y1) (by unfold In264 at h3; omega)
 have e11 : e.1.1 = x0 := by rw [he]
 have e12 : e.1.2 = y0 := by rw [he]
 have e21 : e.2.1 = x1 := by rw [he]
 have e22 : e.2.2 = y1 := by rw [he]
 have hh0 := hE'_nonneg e
 have hrho := (rhoE_bd e).1
 have hwE : wE e = ab ((x1 : Rat) - x0) / 64 := by unfold wE; rw [e11, e21]
 have hhE : hE' e = ab ((y1 : Rat) - y0) / 64 := by unfold hE'; rw [e12, e22]
 have hrE : rowsE e = ((if y0 <= y1 then y1 - y0 else y0 - y1) + 63) / 64 + 1 := by
  unfold rowsE
  rw [e12, e22]
  unfold imax
  congr 2
  split <;> split <;> omega
 have d1 : ab ((x1 : Rat) - x0) <= 33792 := by
  obtain ⟨a1, a2⟩ := ab_iff.1 b0
  obtain ⟨a3, a4⟩ := ab_iff.1 b2
  exact ab_le (by grind) (by grind)
 have d2 : ab ((y1 : Rat) - y0) <= 33792 := by
  obtain ⟨a1, a2⟩ := ab_iff.1 b1
  obtain ⟨a3, a4⟩ := ab_iff.1 b3
  exact ab_le (by grind) (by grind)
 have gapX : ∀ a b : Int, (V (wq b) = (b : Rat) / 64) -> (V (wq a) = (a : Rat) / 64) -> V (wq b) = V (wq a) ∨ 1 / 5000 <= ab (V (wq b) - V (wq a)) := by
  intro a b hb ha
  rw [ha, hb]
  by_cases hx : a = b
  ·left; rw [hx]
  ·right
   rcases Int.lt_or_le a b with c | c
   ·have := castLe (show a + 1 <= b by omega)
    push_cast at this
    rw [ab_of_nonneg (by grind)]; grind
   ·have := castLe (show b + 1 <= a by omega)
    push_cast at this
    rw [ab_of_nonpos (by grind)]; grind
 by_cases hy : y0 = y1
 ·obtain ⟨k1, k2⟩ := floLine_level W H f0 f1 f2 f3 (by rw [v1, v3, hy]) (by rw [v1]; grind) (by rw [v0]; grind) (by rw [v2]; grind)
  rw [k1]
  have hr1 : 1 <= rowsE e := by rw [hrE]; split <;> omega
  have hrr : (0 : Rat) <= ((rowsE e : Int) : Rat) := by
   have := castLe hr1
   push_cast at this
   grind
  refine ⟨k2, FE.flat (by rw [e12, e22]; exact hy) ?_ hr1⟩
  unfold ownF ownE
  have p1 := Rat.mul_nonneg (show 0 <= 276 + ((rowsE e : Int) : Rat) * (1281 / 10) by grind) hrho
  have p2 := Rat.mul_nonneg (show 0 <= 276 + ((rowsE e : Int) : Rat) * 265 by grind) hrho
  split
  ·grind
  ·split <;> grind
 ·rcases Int.lt_or_le y0 y1 with hlt | hle
  ·have hc := castLe (show y0 + 1 <= y1 by omega)
   push_cast at hc
   have hhE2 : hE' e = ((y1 : Rat) - y0) / 64 := by rw [hhE, ab_of_nonneg (by grind)]
   have hg : GSpan (wq x0) (wq y0) (wq x1) (wq y1) 265 := GSpan.of f0 f1 f2 f3 (by decide) (by rw [v0]; grind) (by rw [v2]; grind) (by rw [v1]; grind) (by rw [v3]; grind) (by rw [v1, v3]; grind) (g0.up (by decide)) (gapX x0 x1 v2 v0)
   obtain ⟨k1, k2, k3, k4, _⟩ := line_facts (H := H) hg hW (by decide) (by decide) DirW.down
   refine ⟨floOk_down hg (by decide) k1 k2 k3 k4, ?_⟩
   rw [floLine_down hg (by decide)]
   have hrE2 : rowsE e = (y1 - y0 + 63) / 64 + 1 := by rw [hrE, if_pos (by omega)]
   refine edge_core hW hW2 v0 v1 v2 v3 hlt hg DirW.down (fun r => by unfold dph; rw [e12, e22]; push_cast; grind) (fun X Y => by unfold mEdge; rw [e12, e22, e11, e21, if_pos hlt]) hhE2 hwE ?_ (by omega) ?_ (by grind) (by grind) (.inl ⟨e11, e21⟩) h0 h2
   ·rw [v1, v3, flE64, ceE64, hrE2]
    omega
   ·rw [hrE2, hhE2]
    have := castLe (show ((y1 - y0 + 63) / 64 - 1) * 64 <= y1 - y0 by omega)
    push_cast at this ⊢
    grind
  ·have hlt : y1 < y0 := by omega
   have hc := castLe (show y1 + 1 <= y0 by omega)
   push_cast at hc
   have hhE2 : hE' e = ((y0 : Rat) - y1) / 64 := by rw [hhE, ab_of_nonpos (by grind)]; grind
   have hwE2 : wE e = ab ((x0 : Rat) - x1) / 64 := by rw [hwE, show (x1 : Rat) - x0 = -((x0 : Rat) - x1) by grind, ab_neg]
   have hg : GSpan (wq x1) (wq y1) (wq x0) (wq y0) 265 := GSpan.of f2 f3 f0 f1 (by decide) (by rw [v2]; grind) (by rw [v0]; grind) (by rw [v3]; grind) (by rw [v1]; grind) (by rw [v1, v3]; grind) (g2.up (by decide)) (gapX x1 x0 v0 v2)
   obtain ⟨k1, k2, k3, k4, _⟩ := line_facts (H := H) hg hW (by decide) (by decide) DirW.up
   refine ⟨floOk_up hg (by decide) k1 k2 k3 k4, ?_⟩
   rw [floLine_up hg (by decide)]
   have hrE2 : rowsE e = (y0 - y1 + 63) / 64 + 1 := by rw [hrE, if_neg (by omega)]
   refine edge_core hW hW2 v2 v3 v0 v1 hlt hg DirW.up (fun r => by unfold dph; rw [e12, e22]; push_cast; grind) (fun X Y => by unfold mEdge; rw [e12, e22, e11, e21, if_neg (by omega)]) hhE2 hwE2 ?_ (by omega) ?_ (by grind) (by grind) (.inr ⟨e11, e21⟩) h2 h0
   ·rw [v1, v3, flE64, ceE64, hrE2]
    omega
   ·rw [hrE2, hhE2]
    have := castLe (show ((y0 - y1 + 63) / 64 - 1) * 64 <= y0 - y1 by omega)
    push_cast at this ⊢
    grind
end Go.Proofs.Ytmgcbodlolnheaa
