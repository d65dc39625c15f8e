/-
  What a mask's sums are, of edges whose additions are near their areas: rounding counted by half units. No program is walked here.
  The edges of a path of straight curves, cubic ones: their lines, what they add. No program is walked here.
  What the edges of a path of straight curves add, against their areas. No program is walked here.
  The laws' slack and drift for edges farther out. Contracts of slack and drift.
  The plain law of FnStraightCurvesAreLines. No program is walked here.
-/
import Derived.Test.YtmgcbodlolnheaaZStraight
import Derived.Test.YtmgcbodlolnheaaZWay2
import Derived.Test.YtmgcbodlolnheaaZNearLaw
namespace Go.Proofs.Ytmgcbodlolnheaa
open Flt Go.RowKit
set_option linter.unusedVariables false

/-! ### cells, by half units -/
theorem off_stepH {l : List Nat} {s : List (Nat × Rat)} {k v n : Nat} {C E : Rat} {e : Int} (hl : CellsBd l) (hv : Bd v 68) (hn : n ≤ l.length) (hC : k < n → ab (cellR s k + V v) ≤ C) (hE : offL l s n ≤ E) (hlev : C + E ≤ p2 e) (he : -120 ≤ e) (he2 : e ≤ 100) :
    offL (fbump l k v) (s ++ [(k, V v)]) n ≤ offL l s n + p2 (e - 25) := by
  refine Rat.le_trans ?_ (sumN_one (k := k) (Rat.le_of_lt (p2_pos (e - 25))))
  unfold offL
  refine sumN_le fun i hi => ?_
  rw [fAt_bump, cellR_append]
  simp only [cellR]
  by_cases hk : i = k
  · subst hk
    have hC := hC hi
    rw [if_pos ⟨rfl, by omega⟩, if_pos rfl, if_pos rfl]
    have hb := (hl.at i).ab
    have hb2 := hv.ab
    have hsz : ab (V (fAt l i) + V v) ≤ p2 126 := by
      have k := ab_add_le (V (fAt l i)) (V v)
      have m1 := p2_mono (a := 68) (b := 100) (by decide)
      have m2 := p2_mono (a := 101) (b := 126) (by decide)
      have m3 : p2 101 = 2 * p2 100 := by rw [← p2_succ]; rfl
      grind
    obtain ⟨_, r⟩ := fadd_ok (hl.at i).fin hv.fin hsz
    have hi2 : ab (V (fAt l i) - cellR s i) ≤ E := Rat.le_trans (sumN_mem (f := fun k => ab (V (fAt l k) - cellR s k)) (fun _ => ab_nonneg _) hi) hE
    have e1 : V (fAt l i) + V v = (V (fAt l i) - cellR s i) + (cellR s i + V v) := by grind
    have k1 := ab_add_le (V (fAt l i) - cellR s i) (cellR s i + V v)
    rw [← e1] at k1
    have nr := r.half (e := e) (by grind) he he2
    have e2 : V (fop .add (fAt l i) v) - (cellR s i + (V v + 0)) = (V (fop .add (fAt l i) v) - (V (fAt l i) + V v)) + (V (fAt l i) - cellR s i) := by grind
    rw [e2]
    have k2 := ab_add_le (V (fop .add (fAt l i) v) - (V (fAt l i) + V v)) (V (fAt l i) - cellR s i)
    grind
  · rw [if_neg (fun h => hk h.1), if_neg (fun h => hk h.symm), if_neg hk]
    have e : cellR s i + (0 + 0) = cellR s i := by grind
    rw [e]
    grind
theorem off_listH {n : Nat} {C κ : Rat} {e : Int} (he : -120 ≤ e) (he2 : e ≤ 100) (hlev : C + κ ≤ p2 e) : ∀ (t : List (Nat × Nat)) (l : List Nat) (s : List (Nat × Rat)) (E : Rat), CellsBd l → (∀ p ∈ t, Bd p.2 68) → n ≤ l.length →
    (∀ p ∈ t, p.1 < n → ab (cellR s p.1) + cellA (valL t) p.1 ≤ C) → offL l s n ≤ E → E + t.length * p2 (e - 25) ≤ κ → 0 ≤ E → offL (fadds t l) (s ++ valL t) n ≤ E + t.length * p2 (e - 25)
  | [], l, s, E, hl, hv, hn, hC, hE, hb, hE0 => by
    simp only [fadds, valL, List.map_nil, List.append_nil, List.length_nil]
    push_cast
    grind
  | (k, v) :: t, l, s, E, hl, hv, hn, hC, hE, hb, hE0 => by
    have hv0 := hv (k, v) (by simp)
    simp only at hv0
    have hval : valL ((k, v) :: t) = (k, V v) :: valL t := rfl
    rw [List.length_cons] at hb
    have hlen : (0 : Rat) ≤ (t.length : Rat) := by exact_mod_cast Nat.zero_le _
    have hp := p2_pos (e - 25)
    have hmul := Rat.mul_nonneg hlen (Rat.le_of_lt hp)
    push_cast at hb
    have hcr : k < n → ab (cellR s k + V v) ≤ C := by
      intro hkn
      have hk0 := hC (k, v) (by simp) hkn
      simp only at hk0
      rw [hval, cellA, if_pos rfl] at hk0
      have hA := cellA_nonneg (valL t) k
      have k1 := ab_add_le (cellR s k) (V v)
      grind
    have st := off_stepH (k := k) (v := v) hl hv0 hn hcr hE (by grind) he he2
    have ih := off_listH he he2 hlev t (fbump l k v) (s ++ [(k, V v)]) (E + p2 (e - 25)) (hl.bump hv0) (fun p hp => hv p (by simp [hp])) (by rw [length_fbump]; exact hn)
      (fun p hp hpn => by
        have h1 := hC p (by simp [hp]) hpn
        rw [hval, cellA] at h1
        rw [cellR_append]
        simp only [cellR]
        have h2 := ab_add_le (cellR s p.1) ((if k = p.1 then V v else 0) + 0)
        have h3 : ab ((if k = p.1 then V v else 0) + 0) = if k = p.1 then ab (V v) else 0 := by
          split
          · rw [Rat.add_zero]
          · decide +kernel
        rw [h3] at h2
        grind) (by grind) (by grind) (by grind)
    rw [hval, fadds, List.length_cons]
    have e2 : s ++ (k, V v) :: valL t = (s ++ [(k, V v)]) ++ valL t := by simp
    rw [e2]
    push_cast
    grind

/-! ### what is in a cell -/
theorem sumR_flat (Ad : Pt × Pt → List (Nat × Nat)) (p : Nat) : ∀ (es : List (Pt × Pt)), sumR (valL (es.flatMap Ad)) p = sumE (fun e => sumR (valL (Ad e)) p) es
  | [] => rfl
  | e :: t => by rw [List.flatMap_cons, valL_append, sumR_append, sumR_flat Ad p t, sumE]
theorem cellR_diff (s : List (Nat × Rat)) (c : Nat) : cellR s c = sumR s c - (if c = 0 then 0 else sumR s (c - 1)) := by
  have h1 := sumN_cellR s c
  rw [sumN] at h1
  by_cases hc : c = 0
  · subst hc
    simp only [sumN] at h1
    rw [if_pos rfl]
    grind
  · have h2 := sumN_cellR s (c - 1)
    rw [show c - 1 + 1 = c by omega] at h2
    rw [if_neg hc]
    grind
theorem mEdge_bd (X Y : Nat) (e : Pt × Pt) : 0 ≤ mEdge X Y e ∧ mEdge X Y e ≤ 1 := by
  unfold mEdge mE
  split <;> exact mean_bd _ _
theorem mEdge_mono (X Y : Nat) (e : Pt × Pt) : mEdge X Y e ≤ mEdge (X + 1) Y e := by
  have hu : ∀ m1 m2 m3 m4 y, uE m1 m2 m3 m4 X y ≤ uE m1 m2 m3 m4 (X + 1) y := by
    intro m1 m2 m3 m4 y
    unfold uE
    push_cast
    grind
  unfold mEdge mE
  split <;> exact mean_mono (hu _ _ _ _ _) (hu _ _ _ _ _)
/-- Parts of numbers whose sum is small. -/
theorem window {α : Type} {D f : α → Rat} {s : List α} (hf : ∀ e ∈ s, 0 ≤ f e ∧ f e ≤ 1) (hD : ab (sumE D s) ≤ 1) : ab (sumE (fun e => D e * f e) s) ≤ (sumE (fun e => ab (D e)) s + 1) / 2 := by
  have h1 : sumE (fun e => D e * f e) s = sumE (fun e => D e * (f e - 1 / 2)) s + 1 / 2 * sumE D s := by
    rw [← sumE_mul, ← sumE_add]
    exact sumE_congr fun e _ => by grind
  have h2 : ab (sumE (fun e => D e * (f e - 1 / 2)) s) ≤ sumE (fun e => 1 / 2 * ab (D e)) s := sumE_ab fun e he => by
    obtain ⟨a, b⟩ := hf e he
    have := ab_mul_le (x := D e) (y := f e - 1 / 2) Rat.le_refl (ab_le (y := 1 / 2) (by grind) (by grind))
    grind
  rw [sumE_mul] at h2
  have h3 := ab_add_le (sumE (fun e => D e * (f e - 1 / 2)) s) (1 / 2 * sumE D s)
  rw [← h1, ab_mul (1 / 2), ab_of_nonneg (x := (1 / 2 : Rat)) (by decide +kernel)] at h3
  grind
theorem sumE_near2 {α : Type} {f g δ : α → Rat} : ∀ {s : List α}, (∀ e ∈ s, ab (f e - g e) ≤ δ e) → ab (sumE f s - sumE g s) ≤ sumE δ s
  | [], _ => by simp only [sumE]; decide +kernel
  | e :: s, h => by
    have h1 := sumE_near2 (f := f) (g := g) (δ := δ) (s := s) fun e he => h e (by simp [he])
    have h2 := h e (by simp)
    have e1 : f e + sumE f s - (g e + sumE g s) = (f e - g e) + (sumE f s - sumE g s) := by grind
    rw [sumE, sumE, sumE, e1]
    have := ab_add_le (f e - g e) (sumE f s - sumE g s)
    grind
/-- How much of a row an edge goes down, in rows. -/
def dR (r : Int) (e : Pt × Pt) : Rat := (dph r e : Rat) / 64
section
variable {W H : Nat} {q : Rat} {δ len : Pt × Pt → Rat} {Ad : Pt × Pt → List (Nat × Nat)} {gs : List (Pt × Pt)}
  (hE : ∀ e ∈ gs, EG W H e (δ e) (len e) (Ad e)) (hq : ∀ e ∈ gs, ∀ r : Int, ab (dR (r - 1) e) + ab (dR r e) ≤ q)
include hE
/-- What an edge gives to a cell. -/
theorem edge_cell (hW : 0 < W) {e : Pt × Pt} (he : e ∈ gs) {X Y : Nat} (hX : X < W) (hY : Y < H) : ∃ f g : Rat, (0 ≤ f ∧ f ≤ 1) ∧ (0 ≤ g ∧ g ≤ 1) ∧
    f = (if X = 0 then mEdge 0 Y e else mEdge X Y e - mEdge (X - 1) Y e) ∧ g = (if X = 0 ∧ 0 < Y then 1 - mEdge (W - 1) (Y - 1) e else 0) ∧
    ab (cellR (valL (Ad e)) (Y * W + X) - (dR Y e * f + dR ((Y : Int) - 1) e * g)) ≤ 2 * δ e := by
  have hG := hE e he
  have k1 := hG.cum X Y hX hY
  have hδ : 0 ≤ δ e := Rat.le_trans (ab_nonneg _) k1
  rw [cellR_diff]
  have z0 : ∀ x : Rat, 0 ≤ (0 : Rat) ∧ (0 : Rat) ≤ 1 := fun _ => ⟨Rat.le_refl, by decide⟩
  by_cases hX0 : X = 0
  · subst hX0
    by_cases hY0 : 0 < Y
    · refine ⟨mEdge 0 Y e, 1 - mEdge (W - 1) (Y - 1) e, mEdge_bd _ _ _, ?_, by rw [if_pos rfl], by rw [if_pos ⟨rfl, hY0⟩], ?_⟩
      · have := mEdge_bd (W - 1) (Y - 1) e
        constructor <;> grind
      · have hc : Y * W + 0 ≠ 0 := by
          have := Nat.mul_pos hY0 hW
          omega
        rw [if_neg hc]
        have hp : Y * W + 0 - 1 = (Y - 1) * W + (W - 1) := by
          have h1 : Y * W = (Y - 1) * W + W := by
            have : Y = (Y - 1) + 1 := by omega
            rw [this, Nat.add_mul, Nat.one_mul, Nat.add_sub_cancel]
          omega
        rw [hp]
        have k2 := hG.cum (W - 1) (Y - 1) (by omega) (by omega)
        have hrows : rowsR (fun r => (dph r e : Rat) / 64) 0 Y = rowsR (fun r => (dph r e : Rat) / 64) 0 (Y - 1) + dR ((Y : Int) - 1) e := by
          have h1 := rowsR_last (fun r => (dph r e : Rat) / 64) (Y - 1)
          rw [show Y - 1 + 1 = Y by omega] at h1
          rw [h1]
          unfold dR
          have : ((Y - 1 : Nat) : Int) = (Y : Int) - 1 := by omega
          rw [this]
        have ha1 : areaE 0 Y e = dR Y e * mEdge 0 Y e := rfl
        have ha2 : areaE (W - 1) (Y - 1) e = dR ((Y : Int) - 1) e * mEdge (W - 1) (Y - 1) e := by
          unfold areaE dR
          have : ((Y - 1 : Nat) : Int) = (Y : Int) - 1 := by omega
          rw [this]
        rw [hrows, ha1] at k1
        rw [ha2] at k2
        generalize rowsR (fun r => (dph r e : Rat) / 64) 0 (Y - 1) = R at *
        generalize sumR (valL (Ad e)) (Y * W + 0) = S1 at *
        generalize sumR (valL (Ad e)) ((Y - 1) * W + (W - 1)) = S2 at *
        have e1 : S1 - S2 - (dR Y e * mEdge 0 Y e + dR ((Y : Int) - 1) e * (1 - mEdge (W - 1) (Y - 1) e)) = (S1 - (R + dR ((Y : Int) - 1) e + dR Y e * mEdge 0 Y e)) - (S2 - (R + dR ((Y : Int) - 1) e * mEdge (W - 1) (Y - 1) e)) := by grind
        rw [e1]
        have := ab_sub_le (S1 - (R + dR ((Y : Int) - 1) e + dR Y e * mEdge 0 Y e)) (S2 - (R + dR ((Y : Int) - 1) e * mEdge (W - 1) (Y - 1) e))
        grind
    · have hY0' : Y = 0 := by omega
      subst hY0'
      refine ⟨mEdge 0 0 e, 0, mEdge_bd _ _ _, z0 0, by rw [if_pos rfl], by rw [if_neg (by omega)], ?_⟩
      rw [if_pos (by omega)]
      have ha1 : areaE 0 0 e = dR 0 e * mEdge 0 0 e := rfl
      have hr : rowsR (fun r => (dph r e : Rat) / 64) 0 0 = 0 := rfl
      rw [ha1, hr] at k1
      have e1 : sumR (valL (Ad e)) (0 * W + 0) - 0 - (dR ((0 : Nat) : Int) e * mEdge 0 0 e + dR (((0 : Nat) : Int) - 1) e * 0) = sumR (valL (Ad e)) (0 * W + 0) - (0 + dR 0 e * mEdge 0 0 e) := by
        have : ((0 : Nat) : Int) = 0 := rfl
        rw [this]
        grind
      rw [e1]
      grind
  · refine ⟨mEdge X Y e - mEdge (X - 1) Y e, 0, ?_, z0 0, by rw [if_neg hX0], by rw [if_neg (by omega)], ?_⟩
    · have h1 := mEdge_mono (X - 1) Y e
      rw [show X - 1 + 1 = X by omega] at h1
      have h2 := mEdge_bd X Y e
      have h3 := mEdge_bd (X - 1) Y e
      constructor <;> grind
    · rw [if_neg (by omega)]
      have hp : Y * W + X - 1 = Y * W + (X - 1) := by omega
      rw [hp]
      have k2 := hG.cum (X - 1) Y (by omega) hY
      have ha1 : areaE X Y e = dR Y e * mEdge X Y e := rfl
      have ha2 : areaE (X - 1) Y e = dR Y e * mEdge (X - 1) Y e := rfl
      rw [ha1] at k1
      rw [ha2] at k2
      generalize rowsR (fun r => (dph r e : Rat) / 64) 0 Y = R at *
      generalize sumR (valL (Ad e)) (Y * W + X) = S1 at *
      generalize sumR (valL (Ad e)) (Y * W + (X - 1)) = S2 at *
      have e1 : S1 - S2 - (dR Y e * (mEdge X Y e - mEdge (X - 1) Y e) + dR ((Y : Int) - 1) e * 0) = (S1 - (R + dR Y e * mEdge X Y e)) - (S2 - (R + dR Y e * mEdge (X - 1) Y e)) := by grind
      rw [e1]
      have := ab_sub_le (S1 - (R + dR Y e * mEdge X Y e)) (S2 - (R + dR Y e * mEdge (X - 1) Y e))
      grind
omit hE in
theorem cellR_flat (Ad : Pt × Pt → List (Nat × Nat)) (p : Nat) : ∀ (es : List (Pt × Pt)), cellR (valL (es.flatMap Ad)) p = sumE (fun e => cellR (valL (Ad e)) p) es
  | [] => rfl
  | e :: t => by rw [List.flatMap_cons, valL_append, cellR_append, cellR_flat Ad p t, sumE]
include hq
/-- What is in a cell behind some edges of closed paths. -/
theorem content (hW : 0 < W) {pre : List (Pt × Pt)} (hpre : ∀ e ∈ pre, e ∈ gs) (hwin : ∀ r, ab (sumE (dR r) pre) ≤ 1) {X Y : Nat} (hX : X < W) (hY : Y < H) :
    ab (cellR (valL (pre.flatMap Ad)) (Y * W + X)) ≤ (q * pre.length + 2) / 2 + 2 * sumE δ pre := by
  rw [cellR_flat]
  have key : ∀ e ∈ pre, ab (cellR (valL (Ad e)) (Y * W + X) - (dR Y e * (if X = 0 then mEdge 0 Y e else mEdge X Y e - mEdge (X - 1) Y e) + dR ((Y : Int) - 1) e * (if X = 0 ∧ 0 < Y then 1 - mEdge (W - 1) (Y - 1) e else 0))) ≤ 2 * δ e ∧
      (0 ≤ (if X = 0 then mEdge 0 Y e else mEdge X Y e - mEdge (X - 1) Y e) ∧ (if X = 0 then mEdge 0 Y e else mEdge X Y e - mEdge (X - 1) Y e) ≤ 1) ∧
      (0 ≤ (if X = 0 ∧ 0 < Y then 1 - mEdge (W - 1) (Y - 1) e else 0) ∧ (if X = 0 ∧ 0 < Y then 1 - mEdge (W - 1) (Y - 1) e else 0) ≤ 1) := by
    intro e he
    obtain ⟨f, g, h1, h2, h3, h4, h5⟩ := edge_cell hE hW (hpre e he) hX hY
    rw [h3] at h1 h5
    rw [h4] at h2 h5
    exact ⟨h5, h1, h2⟩
  have n1 := sumE_near2 fun e he => (key e he).1
  rw [sumE_mul] at n1
  rw [sumE_add] at n1
  have w1 := window (D := dR Y) (fun e he => (key e he).2.1) (hwin Y)
  have w2 := window (D := dR ((Y : Int) - 1)) (fun e he => (key e he).2.2) (hwin ((Y : Int) - 1))
  have hs : sumE (fun e => ab (dR Y e)) pre + sumE (fun e => ab (dR ((Y : Int) - 1) e)) pre ≤ q * pre.length := by
    rw [← sumE_add, Rat.mul_comm, ← sumE_const]
    refine sumE_le fun e he => ?_
    have := hq e (hpre e he) Y
    grind
  generalize sumE (fun e => cellR (valL (Ad e)) (Y * W + X)) pre = C at *
  generalize sumE (fun e => dR Y e * (if X = 0 then mEdge 0 Y e else mEdge X Y e - mEdge (X - 1) Y e)) pre = A1 at *
  generalize sumE (fun e => dR ((Y : Int) - 1) e * (if X = 0 ∧ 0 < Y then 1 - mEdge (W - 1) (Y - 1) e else 0)) pre = A2 at *
  have e1 : C = (C - (A1 + A2)) + (A1 + A2) := by grind
  have k1 := ab_add_le (C - (A1 + A2)) (A1 + A2)
  have k2 := ab_add_le A1 A2
  rw [← e1] at k1
  grind

/-! ### all the cells -/
/-- What the additions' roundings cost, edge by edge. -/
def costE (len : Pt × Pt → Rat) (lev : Nat → Int) : List (Pt × Pt) → Nat → Rat
  | [], _ => 0
  | e :: t, j => len e * p2 (lev j - 25) + costE len lev t (j + 1)
omit hE hq in
theorem costE_nonneg {lev : Nat → Int} : ∀ (t : List (Pt × Pt)) (j : Nat), (∀ e ∈ t, 0 ≤ len e) → 0 ≤ costE len lev t j
  | [], _, _ => Rat.le_refl
  | e :: t, j, h => by
    have h1 := costE_nonneg (lev := lev) t (j + 1) fun e he => h e (by simp [he])
    have h2 := Rat.mul_nonneg (h e (by simp)) (Rat.le_of_lt (p2_pos (lev j - 25)))
    rw [costE]
    grind
theorem cells_H (hW : 0 < W) (hH : 0 < H) {lev : Nat → Int} {κ Δ : Rat} (hwin : ∀ pre t : List (Pt × Pt), pre ++ t = gs → ∀ r, ab (sumE (dR r) pre) ≤ 1) (hδ : sumE δ gs ≤ Δ)
    (hlev : ∀ j, j < gs.length → (q * j + 2) / 2 + 2 * Δ + (q * (10003 / 10000) + 1 / 1000000000000000000) + κ ≤ p2 (lev j) ∧ -120 ≤ lev j ∧ lev j ≤ 100) : ∀ (t pre : List (Pt × Pt)) (l : List Nat) (E : Rat), pre ++ t = gs → CellsBd l → W * H ≤ l.length →
      offL l (valL (pre.flatMap Ad)) (W * H) ≤ E → 0 ≤ E → E + costE len lev t pre.length ≤ κ → offL (fadds (t.flatMap Ad) l) (valL (gs.flatMap Ad)) (W * H) ≤ E + costE len lev t pre.length
  | [], pre, l, E, hg, hl, hn, hE', hE0, hb => by
    rw [List.append_nil] at hg
    subst hg
    simp only [List.flatMap_nil, fadds, costE]
    grind
  | e :: t, pre, l, E, hg, hl, hn, hE', hE0, hb => by
    have heg : e ∈ gs := by rw [← hg]; simp
    have hG := hE e heg
    have hlen0 : ∀ e' ∈ gs, 0 ≤ len e' := fun e' he' => Rat.le_trans (by exact_mod_cast Nat.zero_le _) (hE e' he').len
    have hδ0 : ∀ e' ∈ gs, 0 ≤ δ e' := by
      intro e' he'
      exact Rat.le_trans (ab_nonneg _) ((hE e' he').cum 0 0 hW hH)
    have hj : pre.length < gs.length := by rw [← hg]; simp
    obtain ⟨v1, v2, v3⟩ := hlev pre.length hj
    have hp := p2_pos (lev pre.length - 25)
    have hcost0 := costE_nonneg (len := len) (lev := lev) t (pre.length + 1) fun e' he' => hlen0 e' (by rw [← hg]; simp [he'])
    have hL := Rat.mul_le_mul_of_nonneg_right hG.len (Rat.le_of_lt hp)
    rw [costE] at hb ⊢
    have hpreδ : sumE δ pre ≤ Δ := by
      have h1 : sumE δ gs = sumE δ pre + sumE δ (e :: t) := by rw [← hg, sumE_append]
      have h2 : 0 ≤ sumE δ (e :: t) := by
        have h3 := sumE_le (s := e :: t) (f := fun _ => (0 : Rat)) (g := δ) fun e' he' => hδ0 e' (by rw [← hg]; exact List.mem_append_right _ he')
        rw [sumE_const] at h3
        grind
      grind
    have st := off_listH (n := W * H) (C := (q * pre.length + 2) / 2 + 2 * Δ + (q * (10003 / 10000) + 1 / 1000000000000000000)) (κ := κ) v2 v3 v1 (Ad e) l (valL (pre.flatMap Ad)) E hl hG.bd hn
      (fun p hpm hpn => by
        have hWH : p.1 / W < H := by
          rw [Nat.div_lt_iff_lt_mul hW, Nat.mul_comm]
          exact hpn
        have hc := content hE hq hW (pre := pre) (fun e' he' => by rw [← hg]; exact List.mem_append_left _ he') (hwin pre (e :: t) hg) (X := p.1 % W) (Y := p.1 / W) (Nat.mod_lt _ hW) hWH
        have h2 : p.1 / W * W + p.1 % W = p.1 := by rw [Nat.mul_comm]; exact Nat.div_add_mod p.1 W
        rw [h2] at hc
        have h3 := hG.cell p.1
        have h4 := hq e heg ((p.1 : Int) / W)
        unfold dR at h4
        have h5 := Rat.mul_le_mul_of_nonneg_right h4 (show (0 : Rat) ≤ 10003 / 10000 by decide +kernel)
        grind) hE' (by grind) hE0
    have ih := cells_H hW hH hwin hδ hlev t (pre ++ [e]) (fadds (Ad e) l) (E + (Ad e).length * p2 (lev pre.length - 25)) (by rw [← hg]; simp) (fadds_ok _ _ hl hG.bd).2 (by rw [length_fadds]; exact hn)
      (by
        have h1 : valL ((pre ++ [e]).flatMap Ad) = valL (pre.flatMap Ad) ++ valL (Ad e) := by rw [List.flatMap_append, valL_append]; simp
        rw [h1]
        exact st) (by
        have : (0 : Rat) ≤ ((Ad e).length : Rat) := by exact_mod_cast Nat.zero_le _
        have := Rat.mul_nonneg this (Rat.le_of_lt hp)
        grind) (by
        have h1 : (pre ++ [e]).length = pre.length + 1 := by simp
        rw [h1]
        grind)
    have h1 : (pre ++ [e]).length = pre.length + 1 := by simp
    rw [h1] at ih
    rw [List.flatMap_cons, fadds_append]
    grind
end

/-! ### the sums of a mask -/
/-- The height of an edge, in rows. -/
def hE' (e : Pt × Pt) : Rat := ab ((e.2.2 : Rat) - e.1.2) / 64
theorem heights2 (e : Pt × Pt) (n : Nat) : sumN (fun k => ab (dR ((k : Nat) : Int) e)) n ≤ hE' e := by
  obtain ⟨⟨x0, y0⟩, ⟨x1, y1⟩⟩ := e
  have key : ∀ {y0 y1 : Int}, y0 ≤ y1 → sumN (fun k => (1 / 64) * (((ph k y1 : Int) : Rat) - ((ph k y0 : Int) : Rat))) n ≤ ((y1 : Rat) - y0) / 64 := by
    intro y0 y1 h
    rw [sumN_mul]
    have e1 : sumN (fun k => ((ph k y1 : Int) : Rat) - ((ph k y0 : Int) : Rat)) n = sumN (fun k => ((ph k y1 : Int) : Rat) + (-1) * ((ph k y0 : Int) : Rat)) n := sumN_congr fun k _ => by grind
    rw [e1, sumN_add, sumN_mul, ph_sum, ph_sum]
    have h1 : imin (imax y1 0) (64 * (n : Int)) - imin (imax y0 0) (64 * (n : Int)) ≤ y1 - y0 := by
      unfold imin imax
      split <;> split <;> (try split) <;> (try split) <;> omega
    have h2 := castLe h1
    push_cast at h2 ⊢
    grind
  unfold hE' dR
  simp only
  rcases Int.le_total y0 y1 with h | h
  · have hc := castLe h
    rw [ab_of_nonneg (x := (y1 : Rat) - y0) (by grind)]
    refine Rat.le_trans (rle_eq ?_) (key h)
    refine sumN_congr fun k _ => ?_
    have a1 := ph_cases k y0
    have a2 := ph_cases k y1
    have hd : 0 ≤ dph k ((x0, y0), (x1, y1)) := by unfold dph; simp only; omega
    have hd2 := castLe hd
    rw [cast_zero] at hd2
    rw [ab_of_nonneg (by grind)]
    unfold dph
    push_cast
    grind
  · have hc := castLe h
    rw [ab_of_nonpos (x := (y1 : Rat) - y0) (by grind)]
    have e2 : -((y1 : Rat) - y0) / 64 = ((y0 : Rat) - y1) / 64 := by grind
    rw [e2]
    refine Rat.le_trans (rle_eq ?_) (key h)
    refine sumN_congr fun k _ => ?_
    have a1 := ph_cases k y0
    have a2 := ph_cases k y1
    have hd : dph k ((x0, y0), (x1, y1)) ≤ 0 := by unfold dph; simp only; omega
    have hd2 := castLe hd
    rw [cast_zero] at hd2
    rw [ab_of_nonpos (by grind)]
    unfold dph
    push_cast
    grind
section
variable {W H : Nat} {q : Rat} {δ len : Pt × Pt → Rat} {Ad : Pt × Pt → List (Nat × Nat)} {gs : List (Pt × Pt)}
  (hE : ∀ e ∈ gs, EG W H e (δ e) (len e) (Ad e)) (hq : ∀ e ∈ gs, ∀ r : Int, ab (dR (r - 1) e) + ab (dR r e) ≤ q)
/-- What is wrong of a mask's sums at most, besides the edges' own. -/
def totE (W H : Nat) (δ len : Pt × Pt → Rat) (lev : Nat → Int) (κ : Rat) (gs : List (Pt × Pt)) : Rat :=
  costE len lev gs 0 + (W * (sumE (fun e => hE' e / 2) gs) + (W * H : Nat) * (sumE δ gs + 2 * κ)) * (1 / 16777216) + (W * H : Nat) * (1 / 1000000000000000000000000000000)
include hE
theorem sum_bd (hclosed : ∀ r, sumE (dR r) gs = 0) {X Y : Nat} (hX : X < W) (hY : Y < H) :
    ab (sumE (fun e => sumR (valL (Ad e)) (Y * W + X)) gs - areaR gs X Y) ≤ sumE δ gs ∧ ab (sumE (fun e => sumR (valL (Ad e)) (Y * W + X)) gs) ≤ 1 / 2 * sumE (fun e => ab (dR Y e)) gs + sumE δ gs := by
  have n1 := sumE_near2 (s := gs) fun e he => (hE e he).cum X Y hX hY
  rw [sumE_add] at n1
  have hr : sumE (fun e => rowsR (fun r => (dph r e : Rat) / 64) 0 Y) gs = 0 := by
    rw [sumE_rows (fun e r => (dph r e : Rat) / 64)]
    exact rowsR_zero fun r _ _ => hclosed r
  have ha : sumE (fun e => areaE X Y e) gs = areaR gs X Y := rfl
  rw [hr, ha] at n1
  have e1 : (0 : Rat) + areaR gs X Y = areaR gs X Y := by grind
  rw [e1] at n1
  refine ⟨n1, ?_⟩
  have h1 : areaR gs X Y = sumE (fun e => dR Y e * (mEdge X Y e - 1 / 2)) gs := by
    have h2 : sumE (fun e => dR Y e * (mEdge X Y e - 1 / 2) + 1 / 2 * dR Y e) gs = areaR gs X Y := by
      unfold areaR
      exact sumE_congr fun e _ => by unfold areaE dR; grind
    rw [sumE_add, sumE_mul, hclosed] at h2
    grind
  have h3 : ab (areaR gs X Y) ≤ sumE (fun e => 1 / 2 * ab (dR Y e)) gs := by
    rw [h1]
    refine sumE_ab fun e _ => ?_
    have hb := mEdge_bd X Y e
    have := ab_mul_le (x := dR Y e) (y := mEdge X Y e - 1 / 2) Rat.le_refl (ab_le (y := 1 / 2) (by grind) (by grind))
    grind
  rw [sumE_mul] at h3
  have k := ab_add_le (sumE (fun e => sumR (valL (Ad e)) (Y * W + X)) gs - areaR gs X Y) (areaR gs X Y)
  have e2 : sumE (fun e => sumR (valL (Ad e)) (Y * W + X)) gs - areaR gs X Y + areaR gs X Y = sumE (fun e => sumR (valL (Ad e)) (Y * W + X)) gs := by grind
  rw [e2] at k
  grind
include hq
theorem gacc (hW : 0 < W) (hH : 0 < H) {lev : Nat → Int} {κ Δ : Rat} (hκ0 : 0 ≤ κ) (hκ1 : κ ≤ 1) (hwin : ∀ pre t : List (Pt × Pt), pre ++ t = gs → ∀ r, ab (sumE (dR r) pre) ≤ 1) (hclosed : ∀ r, sumE (dR r) gs = 0) (hδ : sumE δ gs ≤ Δ) (hΔ : Δ ≤ 100) (hn : gs.length ≤ 100)
    (hlev : ∀ j, j < gs.length → (q * j + 2) / 2 + 2 * Δ + (q * (10003 / 10000) + 1 / 1000000000000000000) + κ ≤ p2 (lev j) ∧ -120 ≤ lev j ∧ lev j ≤ 100) (hb : totE W H δ len lev κ gs ≤ κ) {X Y : Nat} (hX : X < W) (hY : Y < H) :
    ∃ a, (floBytes 0 (fadds (gs.flatMap Ad) (List.replicate (W * H) 0)))[Y * W + X]? = some (floByte a) ∧ F32 a ∧ ab (V a - areaR gs X Y) ≤ totE W H δ len lev κ gs + sumE δ gs := by
  have hp : Y * W + X < H * W := by
    have h1 : (Y + 1) * W ≤ H * W := Nat.mul_le_mul_right W hY
    rw [Nat.add_mul, Nat.one_mul] at h1
    omega
  have hp' : Y * W + X < W * H := by rw [Nat.mul_comm W H]; exact hp
  have hlen0 : ∀ e' ∈ gs, 0 ≤ len e' := fun e' he' => Rat.le_trans (by exact_mod_cast Nat.zero_le _) (hE e' he').len
  have hδ0 : ∀ e' ∈ gs, 0 ≤ δ e' := fun e' he' => Rat.le_trans (ab_nonneg _) ((hE e' he').cum 0 0 hW hH)
  have hδs : 0 ≤ sumE δ gs := by
    have h3 := sumE_le (s := gs) (f := fun _ => (0 : Rat)) (g := δ) hδ0
    rw [sumE_const] at h3
    grind
  have hhs : 0 ≤ sumE (fun e => hE' e / 2) gs := by
    have h3 := sumE_le (s := gs) (f := fun _ => (0 : Rat)) (g := fun e => hE' e / 2) fun e _ => by
      unfold hE'
      have := ab_nonneg ((e.2.2 : Rat) - e.1.2)
      grind
    rw [sumE_const] at h3
    grind
  have hW0 : (0 : Rat) ≤ (W : Rat) := by exact_mod_cast Nat.zero_le W
  have hWH0 : (0 : Rat) ≤ ((W * H : Nat) : Rat) := by exact_mod_cast Nat.zero_le _
  have hoff0 : offL (List.replicate (W * H) 0) [] (W * H) = 0 := by
    have h1 : offL (List.replicate (W * H) 0) [] (W * H) = sumN (fun _ => 0) (W * H) := by
      unfold offL
      refine sumN_congr fun k hk => ?_
      have : fAt (List.replicate (W * H) 0) k = 0 := by unfold fAt; simp [List.getD, hk]
      rw [this, fzero.2]
      show ab (0 - 0) = 0
      decide +kernel
    rw [h1, sumN_const]
    grind
  have m1 := Rat.mul_nonneg hW0 hhs
  have m2 := Rat.mul_nonneg hWH0 (show 0 ≤ sumE δ gs + 2 * κ by grind)
  have m3 := Rat.mul_nonneg hWH0 (show (0 : Rat) ≤ 1 / 1000000000000000000000000000000 by decide +kernel)
  have hcost : costE len lev gs 0 ≤ κ := by
    refine Rat.le_trans ?_ hb
    unfold totE
    grind
  have hcells := cells_H hE hq hW hH hwin hδ hlev gs [] (List.replicate (W * H) 0) 0 rfl (CellsBd.zero _) (by simp) (by show offL _ [] _ ≤ 0; rw [hoff0]; exact Rat.le_refl) Rat.le_refl (by simp only [List.length_nil]; grind)
  simp only [List.length_nil] at hcells
  obtain ⟨l, hl⟩ : ∃ l, l = fadds (gs.flatMap Ad) (List.replicate (W * H) 0) := ⟨_, rfl⟩
  obtain ⟨s, hs⟩ : ∃ s, s = valL (gs.flatMap Ad) := ⟨_, rfl⟩
  rw [← hl, ← hs] at hcells
  have hlb : CellsBd l := by
    rw [hl]
    refine (fadds_ok _ _ (CellsBd.zero _) fun p hp => ?_).2
    obtain ⟨e, he, hpe⟩ := List.mem_flatMap.1 hp
    exact (hE e he).bd p hpe
  have hll : l.length = W * H := by rw [hl, length_fadds]; simp
  obtain ⟨T, hT⟩ : ∃ T : Nat → Rat, T = fun k => sumN (cellR s) (if k ≤ W * H then k else W * H) := ⟨_, rfl⟩
  have hTk : ∀ k, k ≤ W * H → T k = sumN (cellR s) k := fun k hk => by rw [hT]; simp only; rw [if_pos hk]
  have hTS : ∀ k, k < W * H → ab (T (k + 1)) ≤ 1 / 2 * sumE (fun e => ab (dR ((k / W : Nat) : Int) e)) gs + sumE δ gs := by
    intro k hk
    rw [hTk (k + 1) (by omega), sumN_cellR, hs, sumR_flat]
    have hkW : k / W < H := by
      rw [Nat.div_lt_iff_lt_mul (by omega), Nat.mul_comm]
      exact hk
    have h1 := (sum_bd hE hclosed (X := k % W) (Y := k / W) (Nat.mod_lt _ (by omega)) hkW).2
    have h2 : k / W * W + k % W = k := by rw [Nat.mul_comm]; exact Nat.div_add_mod k W
    rw [h2] at h1
    exact h1
  have hG1 : ∀ Y : Nat, 1 / 2 * sumE (fun e => ab (dR (Y : Int) e)) gs + sumE δ gs ≤ 200 := by
    intro Y
    have h1 := sumE_le (s := gs) (f := fun e => ab (dR (Y : Int) e)) (g := fun _ => 1) fun e he => dph_le Y e
    rw [sumE_const] at h1
    have : (gs.length : Rat) ≤ 100 := by exact_mod_cast hn
    grind
  have hT1000 : ∀ k, ab (T k) ≤ 1000 := by
    intro k
    by_cases hk0 : k = 0
    · rw [hk0, hTk 0 (by omega)]
      simp only [sumN]
      decide +kernel
    · have h1 : ∃ j, j < W * H ∧ T k = T (j + 1) := by
        by_cases hk : k ≤ W * H
        · exact ⟨k - 1, by omega, by rw [show k - 1 + 1 = k by omega]⟩
        · refine ⟨W * H - 1, by have := hp'; omega, ?_⟩
          rw [hT]
          simp only
          rw [if_neg hk, if_pos (by omega), show W * H - 1 + 1 = W * H by have := hp'; omega]
      obtain ⟨j, hj, e⟩ := h1
      rw [e]
      exact Rat.le_trans (hTS j hj) (Rat.le_trans (hG1 _) (by decide +kernel))
  have hsum : sumN (fun i => ab (V (fAt l (0 + i)) - cellR s (0 + i)) + ((ab (T (0 + i + 1)) + 2 * κ) * (1 / 16777216) + 1 / 1000000000000000000000000000000)) (Y * W + X + 1) ≤ totE W H δ len lev κ gs := by
    have h1 : sumN (fun i => ab (V (fAt l (0 + i)) - cellR s (0 + i)) + ((ab (T (0 + i + 1)) + 2 * κ) * (1 / 16777216) + 1 / 1000000000000000000000000000000)) (Y * W + X + 1) ≤
        sumN (fun i => ab (V (fAt l (0 + i)) - cellR s (0 + i)) + ((ab (T (0 + i + 1)) + 2 * κ) * (1 / 16777216) + 1 / 1000000000000000000000000000000)) (H * W) := by
      refine sumN_mono (fun i => ?_) (by omega)
      have a1 := ab_nonneg (V (fAt l (0 + i)) - cellR s (0 + i))
      have a2 := ab_nonneg (T (0 + i + 1))
      grind
    refine Rat.le_trans h1 ?_
    have h2 : sumN (fun i => ab (V (fAt l (0 + i)) - cellR s (0 + i)) + ((ab (T (0 + i + 1)) + 2 * κ) * (1 / 16777216) + 1 / 1000000000000000000000000000000)) (H * W) ≤
        sumN (fun i => ab (V (fAt l i) - cellR s i) + ((1 / 16777216) * (1 / 2 * sumE (fun e => ab (dR ((i / W : Nat) : Int) e)) gs) + ((sumE δ gs + 2 * κ) * (1 / 16777216) + 1 / 1000000000000000000000000000000))) (H * W) := by
      refine sumN_le fun i hi => ?_
      have a2 := hTS i (by rw [Nat.mul_comm]; exact hi)
      rw [Nat.zero_add]
      grind
    refine Rat.le_trans h2 ?_
    rw [sumN_add, sumN_add, sumN_mul, sumN_rows (fun Y => 1 / 2 * sumE (fun e => ab (dR ((Y : Nat) : Int) e)) gs) W (by omega) H, sumN_const, sumN_mul, sumN_sumE (fun e Y => ab (dR ((Y : Nat) : Int) e))]
    have h3 : sumN (fun i => ab (V (fAt l i) - cellR s i)) (H * W) = offL l s (W * H) := by unfold offL; rw [Nat.mul_comm]
    rw [h3]
    have h4 : sumE (fun e => sumN (fun Y => ab (dR ((Y : Nat) : Int) e)) H) gs ≤ sumE (fun e => 2 * (hE' e / 2)) gs := sumE_le fun e _ => by
      have := heights2 e H
      grind
    rw [sumE_mul] at h4
    have h5 := Rat.mul_le_mul_of_nonneg_left (show 1 / 2 * sumE (fun e => sumN (fun Y => ab (dR ((Y : Nat) : Int) e)) H) gs ≤ sumE (fun e => hE' e / 2) gs by grind) hW0
    unfold totE
    have h6 : H * W = W * H := Nat.mul_comm _ _
    rw [h6]
    generalize (W : Rat) * (1 / 2 * sumE (fun e => sumN (fun Y => ab (dR ((Y : Nat) : Int) e)) H) gs) = z1 at *
    generalize (W : Rat) * sumE (fun e => hE' e / 2) gs = z2 at *
    generalize ((W * H : Nat) : Rat) = z3 at *
    have e9 : z3 * ((sumE δ gs + 2 * κ) * (1 / 16777216) + 1 / 1000000000000000000000000000000) = z3 * (sumE δ gs + 2 * κ) * (1 / 16777216) + z3 * (1 / 1000000000000000000000000000000) := by grind
    rw [e9]
    grind
  obtain ⟨r1, r2⟩ := acc_near hκ0 hκ1 T (fun k => ab (V (fAt l k) - cellR s k)) (fun k => ab_nonneg _) l 0 0 (Y * W + X) 0 hlb fzero.1 (fun i hi => by
    rw [hll] at hi
    rw [Nat.zero_add, hTk (i + 1) (by omega), hTk i (by omega)]
    have : sumN (cellR s) (i + 1) - sumN (cellR s) i = cellR s i := by rw [sumN]; grind
    rw [this]
    exact Rat.le_refl) hT1000 (by rw [hTk 0 (by omega), fzero.2]; simp only [sumN]; decide +kernel) Rat.le_refl (by rw [hll]; exact hp') (by
      have e : ∀ z : Rat, 0 + z = z := fun z => by grind
      rw [e]
      exact Rat.le_trans hsum hb)
  refine ⟨accTo 0 l (Y * W + X), ?_, r1, ?_⟩
  · rw [← hl]
    exact floBytes_at l 0 _ (by rw [hll]; exact hp')
  · have e : ∀ z : Rat, 0 + z = z := fun z => by grind
    have e2 : sumN (cellR s) (Y * W + X + 1) = sumE (fun e => sumR (valL (Ad e)) (Y * W + X)) gs := by rw [sumN_cellR, hs, sumR_flat]
    rw [e, Nat.zero_add, hTk _ (by omega), e2] at r2
    have k1 := Rat.le_trans r2 hsum
    have k2 := (sum_bd hE hclosed hX hY).1
    have e3 : V (accTo 0 l (Y * W + X)) - areaR gs X Y = (V (accTo 0 l (Y * W + X)) - sumE (fun e => sumR (valL (Ad e)) (Y * W + X)) gs) + (sumE (fun e => sumR (valL (Ad e)) (Y * W + X)) gs - areaR gs X Y) := by grind
    rw [e3]
    have := ab_add_le (V (accTo 0 l (Y * W + X)) - sumE (fun e => sumR (valL (Ad e)) (Y * W + X)) gs) (sumE (fun e => sumR (valL (Ad e)) (Y * W + X)) gs - areaR gs X Y)
    grind
end
/-- The edges of a closed path, up to one: how far down they have come. -/
theorem win_from (g : Int → Int) : ∀ (tl : List Pt) (first cur : Pt) (pre t : List (Pt × Pt)), pre ++ t = edgesFrom first cur tl → ∃ y, zsum (fun e => g e.2.2 - g e.1.2) pre = g y - g cur.2
  | [], first, cur, [], t, _ => ⟨cur.2, by simp [zsum]⟩
  | [], first, cur, e :: pre, t, h => by
    rw [edgesFrom, List.cons_append] at h
    injection h with h1 h2
    have : pre = [] := (List.append_eq_nil_iff.1 h2).1
    subst this
    subst h1
    exact ⟨first.2, by simp [zsum]⟩
  | q :: tl, first, cur, [], t, _ => ⟨cur.2, by simp [zsum]⟩
  | q :: tl, first, cur, e :: pre, t, h => by
    rw [edgesFrom, List.cons_append] at h
    injection h with h1 h2
    obtain ⟨y, hy⟩ := win_from g tl first q pre t h2
    subst h1
    refine ⟨y, ?_⟩
    unfold zsum at hy ⊢
    rw [List.map_cons, List.sum_cons, hy]
    simp only
    omega
theorem win_path {p : List Pt} (pre t : List (Pt × Pt)) (h : pre ++ t = edges p) (r : Int) : ab (sumE (dR r) pre) ≤ 1 := by
  have h1 : sumE (dR r) pre = (1 / 64) * ((zsum (fun e => dph r e) pre : Int) : Rat) := by
    rw [zsum_sumE, ← sumE_mul]
    exact sumE_congr fun e _ => by unfold dR; grind
  rw [h1]
  cases p with
  | nil =>
    rw [edges] at h
    have : pre = [] := (List.append_eq_nil_iff.1 h).1
    subst this
    show ab (1 / 64 * (((0 : Int)) : Rat)) ≤ 1
    decide +kernel
  | cons a tl =>
    rw [edges] at h
    obtain ⟨y, hy⟩ := win_from (ph r) tl a a pre t h
    have hz : zsum (fun e => dph r e) pre = ph r y - ph r a.2 := hy
    rw [hz]
    have a1 := ph_cases r y
    have a2 := ph_cases r a.2
    have c1 := castLe (show ph r y - ph r a.2 ≤ 64 by omega)
    have c2 := castLe (show -64 ≤ ph r y - ph r a.2 by omega)
    push_cast at c1 c2 ⊢
    exact ab_le (by grind) (by grind)
theorem closed_path (p : List Pt) (r : Int) : sumE (dR r) (edges p) = 0 := by
  have h1 : sumE (dR r) (edges p) = (1 / 64) * ((zsum (fun e => dph r e) (edges p) : Int) : Rat) := by
    rw [zsum_sumE, ← sumE_mul]
    exact sumE_congr fun e _ => by unfold dR; grind
  have h2 : zsum (fun e => dph r e) (edges p) = 0 := dph_edges (ph r) p
  rw [h1, h2, cast_zero]
  grind
end Go.Proofs.Ytmgcbodlolnheaa

namespace Go.Proofs.Ytmgcbodlolnheaa
open Flt Go.RowKit
set_option linter.unusedVariables false

/-! ### level lines -/
theorem floLine_level (W : Nat) (H : Int) {px py qx qy : Nat} (h1 : F32 px) (h2 : F32 py) (h3 : F32 qx) (h4 : F32 qy) (hy : V py = V qy) (hb : ab (V py) ≤ 100000) (b1 : ab (V px) ≤ 100000) (b2 : ab (V qx) ≤ 100000) :
    floLine W H px py qx qy = [] ∧ FloOk H px py qx qy := by
  have hz : V qy - V py = 0 := by rw [hy]; grind
  have hg : ¬ fgt py qy = true := by rw [fgt_iff h2 h4, hy]; grind
  obtain ⟨q, r⟩ := fsub_ok h4 h2 (by rw [hz]; exact big126 (by decide +kernel))
  rw [hz] at r
  have v := r.eq (n := 0) (q := 0) (by rw [p2_zero, cast_zero]; grind) (by decide) (by decide) (by decide)
  have hle : fle (fop .sub qy py) 897988541 = true := by
    rw [fle_iff r.fin cTiny.1, v]
    have := cTiny.2.1
    grind
  unfold floLine FloOk
  rw [if_neg hg, if_neg hg]
  unfold floUp FloUpOk
  rw [if_pos hle]
  refine ⟨rfl, q, fun hc => ?_⟩
  rw [hle] at hc
  cases hc
def Level (px py qx qy : Nat) : Prop := F32 px ∧ F32 py ∧ F32 qx ∧ F32 qy ∧ V py = V qy ∧ ab (V py) ≤ 100000 ∧ ab (V px) ≤ 100000 ∧ ab (V qx) ≤ 100000
theorem poly_level (W : Nat) (H : Int) : ∀ (l : List (Nat × Nat)) (px py : Nat), ChainR Level l px py → polyF W H l px py = [] ∧ PolyOk H l px py
  | [], _, _, _ => ⟨rfl, trivial⟩
  | (qx, qy) :: t, px, py, h => by
    obtain ⟨⟨h1, h2, h3, h4, h5, h6, h7, h8⟩, hr⟩ := h
    obtain ⟨k1, k2⟩ := floLine_level W H h1 h2 h3 h4 h5 h6 h7 h8
    obtain ⟨k3, k4⟩ := poly_level W H t qx qy hr
    exact ⟨by rw [polyF, k1, k3]; rfl, k2, k4⟩

/-! ### a straight cubic curve -/
theorem wqV {n : Int} (h : -100000 ≤ n ∧ n ≤ 100000) : F32 (wq n) ∧ V (wq n) = (n : Rat) / 64 ∧ Grid (-6) (V (wq n)) := by
  have hq := (wq_ok (n := n) (by omega) (by omega)).2
  exact ⟨hq.1, hq.2, hq.grid⟩
/-- What a point of it is, one coordinate. -/
def PtOk (a b : Int) (E : Rat) (t : Nat) : Prop :=
    CubeAtOk (wq (3 * a)) (wq (2 * a + b)) (wq (a + 2 * b)) (wq (3 * b)) t ∧ F32 (cubeAt (wq (3 * a)) (wq (2 * a + b)) (wq (a + 2 * b)) (wq (3 * b)) t) ∧
    ab (V (cubeAt (wq (3 * a)) (wq (2 * a + b)) (wq (a + 2 * b)) (wq (3 * b)) t) - stC a b (V t)) ≤ E ∧ Grid (-99) (V (cubeAt (wq (3 * a)) (wq (2 * a + b)) (wq (a + 2 * b)) (wq (3 * b)) t)) ∧
    (a = b → V (cubeAt (wq (3 * a)) (wq (2 * a + b)) (wq (a + 2 * b)) (wq (3 * b)) t) = 3 * (a : Rat) / 64)
/-- A point of it, one coordinate. -/
theorem cube_pt {a b : Int} (ha : In160 a) (hb : In160 b) {Mv ρv Md ρd : Rat} (hv : Rnd Mv ρv) (hd : Rnd Md ρd) (hA : ab (3 * (a : Rat) / 64) ≤ Mv - 1) (hB : ab (3 * (b : Rat) / 64) ≤ Mv - 1) (hδ : ab (((b : Rat) - a) / 64) + 1 ≤ Md) (hMv : Mv ≤ 1000000) (hMd : Md ≤ 1000000)
    (hρv : 0 ≤ ρv) (hρd : 0 ≤ ρd) (hs : 8 * ρv + 16 * ρd ≤ 1) {t : Nat} (ht : F32 t) (t0 : 0 ≤ V t) (t1 : V t ≤ 1) (gt : Grid (-30) (V t)) : PtOk a b (3 * ρv + 6 * ρd) t := by
  unfold In160 at ha hb
  obtain ⟨f0, v0, g0⟩ := wqV (n := 3 * a) (by omega)
  obtain ⟨f1, v1, g1⟩ := wqV (n := 2 * a + b) (by omega)
  obtain ⟨f2, v2, g2⟩ := wqV (n := a + 2 * b) (by omega)
  obtain ⟨f3, v3, g3⟩ := wqV (n := 3 * b) (by omega)
  have bnd : ∀ n : Int, -30720 ≤ n → n ≤ 30720 → ab ((n : Rat) / 64) ≤ 480 := by
    intro n h1 h2
    have k1 := castLe h1
    have k2 := castLe h2
    push_cast at k1 k2
    exact ab_le (by grind) (by grind)
  obtain ⟨c1, c2, c3⟩ := cubeE (A := 3 * (a : Rat) / 64) (δ := ((b : Rat) - a) / 64) hv hd ht f0 f1 f2 f3 t0 t1 (by rw [v0]; push_cast; rfl) (by rw [v1]; push_cast; grind) (by rw [v2]; push_cast; grind) (by rw [v3]; push_cast; grind) hA
    (by rw [show 3 * (a : Rat) / 64 + 3 * (((b : Rat) - a) / 64) = 3 * (b : Rat) / 64 by grind]; exact hB) hδ hMv hMd hρd hρv hs
  refine ⟨c1, c2, ?_, ?_, fun hab => ?_⟩
  · have e : 3 * (a : Rat) / 64 + 3 * (V t * (((b : Rat) - a) / 64)) = stC a b (V t) := by unfold stC; grind
    rw [e] at c3
    exact c3
  · exact (cube_grid (M := 480) ht f0 f1 f2 f3 t0 t1 gt (by decide) (by decide) (by rw [v0]; exact bnd _ (by omega) (by omega)) (by rw [v1]; exact bnd _ (by omega) (by omega)) (by rw [v2]; exact bnd _ (by omega) (by omega)) (by rw [v3]; exact bnd _ (by omega) (by omega)) g0 g1 g2 g3).up (by decide)
  · subst hab
    have := cube_same (M := 480) ht f0 f1 f2 f3 t0 t1 (by decide) (by decide) (by rw [v0]; exact bnd _ (by omega) (by omega)) (by rw [v0, v1]; push_cast; grind) (by rw [v1, v2]; push_cast; grind) (by rw [v2, v3]; push_cast; grind)
    rw [this, v0]
    push_cast
    rfl
/-- The greater of two sizes. -/
def mxS (x y : Rat) : Rat := if ab x ≤ ab y then ab y else ab x
theorem mxS_le (x y : Rat) : ab x ≤ mxS x y ∧ ab y ≤ mxS x y := by unfold mxS; split <;> constructor <;> grind
theorem mxS_of {x y M : Rat} (h1 : ab x ≤ M) (h2 : ab y ≤ M) : mxS x y ≤ M := by unfold mxS; split <;> assumption
def exS : Rat := 9 / 65536
/-- How far off the heights are. -/
def eyS (a b : Int) : Rat := 3 * ((mxS (3 * (a : Rat) / 64) (3 * (b : Rat) / 64) + 1) * (1 / 16777216) + 1 / 1000000000000000000000000000000) + 6 * ((ab (((b : Rat) - a) / 64) + 1) * (1 / 16777216) + 1 / 1000000000000000000000000000000)
theorem In160.diff {a b : Int} (ha : In160 a) (hb : In160 b) : ab (((b : Rat) - a) / 64) ≤ 320 := by
  have h1 := castLe ha.1
  have h2 := castLe ha.2
  have h3 := castLe hb.1
  have h4 := castLe hb.2
  push_cast at h1 h2 h3 h4
  exact ab_le (by grind) (by grind)
theorem eyS_bd {a b : Int} (ha : In160 a) (hb : In160 b) : 0 ≤ eyS a b ∧ eyS a b ≤ 1 / 4500 := by
  have h1 := mxS_of ha.third hb.third
  have h2 := (mxS_le (3 * (a : Rat) / 64) (3 * (b : Rat) / 64)).1
  have h3 := ab_nonneg (3 * (a : Rat) / 64)
  have h4 := ha.diff hb
  have h5 := ab_nonneg (((b : Rat) - a) / 64)
  unfold eyS
  constructor <;> grind
theorem p2_m16q : p2 (-16) = 1 / 65536 := by have := p2_neg 16; push_cast at this ⊢; grind
theorem p2_9 : p2 9 = 512 := by have := p2_val 9; simpa using this
theorem pt_x {a b : Int} (ha : In160 a) (hb : In160 b) {t : Nat} (ht : F32 t) (t0 : 0 ≤ V t) (t1 : V t ≤ 1) (gt : Grid (-30) (V t)) : PtOk a b (3 * (1 / 65536) + 6 * (1 / 65536)) t := by
  have hr : Rnd 512 (1 / 65536) := by
    have := Rnd.pow (e := 9) (by decide) (by decide)
    rw [p2_9, show (9 : Int) - 25 = -16 by decide, p2_m16q] at this
    exact this
  have h1 := ha.third
  have h2 := hb.third
  have h3 := ha.diff hb
  exact cube_pt ha hb hr hr (by grind) (by grind) (by grind) (by decide) (by decide) (by decide +kernel) (by decide +kernel) (by decide +kernel) ht t0 t1 gt
theorem pt_y {a b : Int} (ha : In160 a) (hb : In160 b) {t : Nat} (ht : F32 t) (t0 : 0 ≤ V t) (t1 : V t ≤ 1) (gt : Grid (-30) (V t)) : PtOk a b (eyS a b) t := by
  have h1 := mxS_of ha.third hb.third
  obtain ⟨h2, h3⟩ := mxS_le (3 * (a : Rat) / 64) (3 * (b : Rat) / 64)
  have h4 := ha.diff hb
  have h5 := ab_nonneg (((b : Rat) - a) / 64)
  have h6 := ab_nonneg (3 * (a : Rat) / 64)
  exact cube_pt ha hb (Rnd.rel (m := mxS (3 * (a : Rat) / 64) (3 * (b : Rat) / 64) + 1) (by grind)) (Rnd.rel (m := ab (((b : Rat) - a) / 64) + 1) (by grind)) (by grind) (by grind) (by grind) (by grind) (by grind) (by grind) (by grind) (by grind) ht t0 t1 gt
/-- The words of a straight cubic curve. -/
def cubW (a b : Pt) : List (Nat × Nat) := cubePts (wq (3 * a.1)) (wq (3 * a.2)) (wq (2 * a.1 + b.1)) (wq (2 * a.2 + b.2)) (wq (a.1 + 2 * b.1)) (wq (a.2 + 2 * b.2)) (wq (3 * b.1)) (wq (3 * b.2))
def CubWOk (a b : Pt) : Prop := CubeOk (wq (3 * a.1)) (wq (3 * a.2)) (wq (2 * a.1 + b.1)) (wq (2 * a.2 + b.2)) (wq (a.1 + 2 * b.1)) (wq (a.2 + 2 * b.2)) (wq (3 * b.1)) (wq (3 * b.2))
/-- How far a straight curve is from a line, one coordinate. -/
theorem dev_st {x y z : Int} (hx : -30720 ≤ x ∧ x ≤ 30720) (hy : -30720 ≤ y ∧ y ≤ 30720) (hz : -30720 ≤ z ∧ z ≤ 30720) :
    FdevOk (wq x) (wq y) (wq z) ∧ F32 (fop .mul (fdev (wq x) (wq y) (wq z)) (fdev (wq x) (wq y) (wq z))) ∧ R32 (((x - 2 * y + z : Int) : Rat) / 64 * (((x - 2 * y + z : Int) : Rat) / 64)) (fop .mul (fdev (wq x) (wq y) (wq z)) (fdev (wq x) (wq y) (wq z))) := by
  have qx := (wq_ok (n := x) (by omega) (by omega)).2
  have qy := (wq_ok (n := y) (by omega) (by omega)).2
  have qz := (wq_ok (n := z) (by omega) (by omega)).2
  have bd : ∀ {a : Nat} {n : Int}, Q64 a n → -200000 ≤ n → n ≤ 200000 → ab (V a) ≤ 5000 := by
    intro a n h h1 h2
    have c1 := castLe h1
    have c2 := castLe h2
    push_cast at c1 c2
    rw [h.2]
    exact ab_le (by grind) (by grind)
  have e2 : Ex 0 1073741824 2 := ⟨c2.1.fin, by rw [c2.2, p2_zero]; push_cast; grind⟩
  have e2y : Ex (0 + -6) (fop .mul 1073741824 (wq y)) (2 * y) := Ex.mul e2 qy.ex (by omega) (by omega) (by decide) (by decide)
  have q2y : Q64 (fop .mul 1073741824 (wq y)) (2 * y) := Ex.q64 e2y
  have b1 := bd qy (by omega) (by omega)
  obtain ⟨k1, _⟩ := fmul_ok c2.1.fin qy.1 (big126 (by
    rw [c2.2]
    have : ab (2 * V (wq y)) ≤ 2 * 5000 := ab_mul_le (a := 2) (b := 5000) (by decide +kernel) b1
    grind))
  obtain ⟨k2, s2⟩ := qx.sub q2y (by omega) (by omega)
  have s3 : Q64 (fop .add (fop .sub (wq x) (fop .mul 1073741824 (wq y))) (wq z)) (x - 2 * y + z) := Ex.q64 (Ex.add s2.ex qz.ex (by omega) (by omega) (by decide) (by decide))
  have b2 := bd s2 (by omega) (by omega)
  have b3 := bd qz (by omega) (by omega)
  obtain ⟨k3, _⟩ := fadd_ok s2.1 qz.1 (big126 (by have := ab_add_le (V (fop .sub (wq x) (fop .mul 1073741824 (wq y)))) (V (wq z)); grind))
  have hdef : fdev (wq x) (wq y) (wq z) = fop .add (fop .sub (wq x) (fop .mul 1073741824 (wq y))) (wq z) := rfl
  rw [← hdef] at s3
  have b4 := bd s3 (by omega) (by omega)
  obtain ⟨k4, r4⟩ := fmul_ok s3.1 s3.1 (big126 (by
    have : ab (V (fdev (wq x) (wq y) (wq z)) * V (fdev (wq x) (wq y) (wq z))) ≤ 5000 * 5000 := ab_mul_le b4 b4
    grind))
  rw [s3.2] at r4
  exact ⟨⟨k1, k2, k3, k4⟩, r4.fin, r4⟩
theorem sq_le {x m : Rat} (h : ab x ≤ m) : 0 ≤ x * x ∧ x * x ≤ m * m := by
  have h1 := ab_mul_le h h
  exact ⟨sq_nn x, Rat.le_trans (le_ab _) h1⟩
theorem devSq_st {x0 x1 x2 y0 y1 y2 : Int} (h0 : -30720 ≤ x0 ∧ x0 ≤ 30720) (h1 : -30720 ≤ x1 ∧ x1 ≤ 30720) (h2 : -30720 ≤ x2 ∧ x2 ≤ 30720) (h3 : -30720 ≤ y0 ∧ y0 ≤ 30720) (h4 : -30720 ≤ y1 ∧ y1 ≤ 30720) (h5 : -30720 ≤ y2 ∧ y2 ≤ 30720)
    (hx : -20480 ≤ x0 - 2 * x1 + x2 ∧ x0 - 2 * x1 + x2 ≤ 20480) (hy : -20480 ≤ y0 - 2 * y1 + y2 ∧ y0 - 2 * y1 + y2 ≤ 20480) :
    FdevSqOk (wq x0) (wq y0) (wq x1) (wq y1) (wq x2) (wq y2) ∧ Bd (fdevSq (wq x0) (wq y0) (wq x1) (wq y1) (wq x2) (wq y2)) 18 ∧ 0 ≤ V (fdevSq (wq x0) (wq y0) (wq x1) (wq y1) (wq x2) (wq y2)) ∧
    (x0 - 2 * x1 + x2 = 0 → y0 - 2 * y1 + y2 = 0 → V (fdevSq (wq x0) (wq y0) (wq x1) (wq y1) (wq x2) (wq y2)) = 0) := by
  obtain ⟨a1, a2, a3⟩ := dev_st h0 h1 h2
  obtain ⟨b1, b2, b3⟩ := dev_st h3 h4 h5
  have bnd : ∀ n : Int, -20480 ≤ n ∧ n ≤ 20480 → ab ((n : Rat) / 64) ≤ 320 := by
    intro n h
    have c1 := castLe h.1
    have c2 := castLe h.2
    push_cast at c1 c2
    exact ab_le (by grind) (by grind)
  obtain ⟨s1, s2⟩ := sq_le (bnd _ hx)
  obtain ⟨s3, s4⟩ := sq_le (bnd _ hy)
  have u1 := a3.nonneg s1
  have u2 := a3.leInt (n := 102400) (by push_cast; grind) (by decide) (by decide)
  have u3 := b3.nonneg s3
  have u4 := b3.leInt (n := 102400) (by push_cast; grind) (by decide) (by decide)
  push_cast at u2 u4
  obtain ⟨q, r⟩ := fadd_ok a2 b2 (big126 (ab_le (by grind) (by grind)))
  have e18 : p2 18 = 262144 := by have := p2_val 18; simpa using this
  have hdef : fdevSq (wq x0) (wq y0) (wq x1) (wq y1) (wq x2) (wq y2) = fop .add (fop .mul (fdev (wq x0) (wq x1) (wq x2)) (fdev (wq x0) (wq x1) (wq x2))) (fop .mul (fdev (wq y0) (wq y1) (wq y2)) (fdev (wq y0) (wq y1) (wq y2))) := rfl
  rw [hdef]
  refine ⟨⟨a1, b1, q⟩, r.bd (by rw [e18]; exact ab_le (by grind) (by grind)) (by decide), r.nonneg (by grind), fun z1 z2 => ?_⟩
  rw [z1, cast_zero] at a3
  rw [z2, cast_zero] at b3
  have w1 := a3.eq (n := 0) (q := 0) (by rw [p2_zero, cast_zero]; grind) (by decide) (by decide) (by decide)
  have w2 := b3.eq (n := 0) (q := 0) (by rw [p2_zero, cast_zero]; grind) (by decide) (by decide) (by decide)
  have e : V (fop .mul (fdev (wq x0) (wq x1) (wq x2)) (fdev (wq x0) (wq x1) (wq x2))) + V (fop .mul (fdev (wq y0) (wq y1) (wq y2)) (fdev (wq y0) (wq y1) (wq y2))) = 0 := by
    rw [w1, w2]; grind
  rw [e] at r
  exact r.eq (n := 0) (q := 0) (by rw [p2_zero, cast_zero]; grind) (by decide) (by decide) (by decide)
/-- A curve's lines, whatever holds from point to point. -/
theorem cube_lines_gen {ax ay bx qy cx cy dx dy : Nat} {P : Rat → Nat → Nat → Prop} {R : Nat → Nat → Nat → Nat → Prop} (d1 : FdevSqOk ax ay bx qy dx dy) (e1 : FdevSqOk ax ay cx cy dx dy)
    (hD : Bd (cubeD ax ay bx qy cx cy dx dy) 18 ∧ 0 ≤ V (cubeD ax ay bx qy cx cy dx dy))
    (hpt : ∀ t, F32 t → 0 ≤ V t → V t ≤ 1 → Grid (-30) (V t) → (CubeAtOk ax bx cx dx t ∧ CubeAtOk ay qy cy dy t) ∧ P (V t) (cubeAt ax bx cx dx t) (cubeAt ay qy cy dy t)) (hstart : P 0 ax ay) (hend : P 1 dx dy)
    (hR : ∀ t t' px py qx qy, 0 ≤ t → 1 / 50 ≤ t' - t → t' ≤ 1 → P t px py → P t' qx qy → R px py qx qy) :
    CubeOk ax ay bx qy cx cy dx dy ∧ ChainR R (cubePts ax ay bx qy cx cy dx dy) ax ay ∧ ∃ qx qy' tl, cubePts ax ay bx qy cx cy dx dy = (qx, qy') :: tl ∧ lastG tl qx qy' = (dx, dy) ∧ tl.length + 1 ≤ 33 := by
  unfold CubeOk cubePts
  generalize cubeD ax ay bx qy cx cy dx dy = D at *
  by_cases hf : fge D 1051361018 = true
  · obtain ⟨p1, p2', p3⟩ := parts_33 hD.1 hD.2
    have hst := steps_all (ok := fun t => CubeAtOk ax bx cx dx t ∧ CubeAtOk ay qy cy dy t) (pt := fun t => (cubeAt ax bx cx dx t, cubeAt ay qy cy dy t)) (P := P) (R := R) (N := parts D - 1) (dx := dx) (dy := dy) (by omega) (by omega)
      hpt hend hR (parts D - 1).toNat 0 0 ax ay fzero.1 (by rw [fzero.2]; exact Rat.le_refl) (by rw [fzero.2]; exact ⟨0, by rw [cast_zero]; grind⟩) (by push_cast; grind)
      (fun iv hiv => by rw [fzero.2]; push_cast; grind) (by rw [fzero.2]; exact hstart) (by omega)
    have eN : 1 + (parts D - 1) = parts D := by omega
    rw [eN] at hst
    rw [if_pos hf]
    obtain ⟨l, hl⟩ : ∃ l, l = steps (fun t => (cubeAt ax bx cx dx t, cubeAt ay qy cy dy t)) (fop .quo 1065353216 (floatOfInt .f32 (parts D))) (parts D - 1).toNat 0 ++ [(dx, dy)] := ⟨_, rfl⟩
    have hlen : l.length = (parts D - 1).toNat + 1 := by
      rw [hl, List.length_append, length_steps]; rfl
    have hlast : ∀ px py, lastG l px py = (dx, dy) := fun px py => by rw [hl]; exact lastG_snoc _ _ _ _ _
    rw [← hl] at hst ⊢
    refine ⟨⟨d1, e1, fun _ => ⟨p1, hst.1⟩⟩, hst.2, ?_⟩
    cases l with
    | nil => simp at hlen
    | cons q tl =>
      refine ⟨q.1, q.2, tl, rfl, ?_, ?_⟩
      · have := hlast 0 0
        obtain ⟨qx, qy'⟩ := q
        exact this
      · rw [List.length_cons] at hlen
        omega
  · rw [if_neg hf]
    exact ⟨⟨d1, e1, fun h => absurd h hf⟩, ⟨hR 0 1 _ _ _ _ Rat.le_refl (by decide +kernel) Rat.le_refl hstart hend, trivial⟩, _, _, [], rfl, rfl, by decide⟩
/-- Its lines, whatever holds from point to point. -/
theorem cube_lines {a b : Pt} (ha1 : In160 a.1) (ha2 : In160 a.2) (hb1 : In160 b.1) (hb2 : In160 b.2) {R : Nat → Nat → Nat → Nat → Prop}
    (hR : ∀ t t' px py qx qy, 0 ≤ t → 1 / 50 ≤ t' - t → t' ≤ 1 → (PtS a.1 a.2 b.1 b.2 exS (eyS a.2 b.2) t px py ∧ (a.2 = b.2 → V py = 3 * (a.2 : Rat) / 64)) → (PtS a.1 a.2 b.1 b.2 exS (eyS a.2 b.2) t' qx qy ∧ (a.2 = b.2 → V qy = 3 * (a.2 : Rat) / 64)) → R px py qx qy) :
    CubWOk a b ∧ ChainR R (cubW a b) (wq (3 * a.1)) (wq (3 * a.2)) ∧ ∃ qx qy tl, cubW a b = (qx, qy) :: tl ∧ lastG tl qx qy = (wq (3 * b.1), wq (3 * b.2)) ∧ tl.length + 1 ≤ 33 := by
  obtain ⟨a1, a2⟩ := a
  obtain ⟨b1, b2⟩ := b
  simp only at *
  have A1 := ha1
  have A2 := ha2
  have B1 := hb1
  have B2 := hb2
  unfold In160 at A1 A2 B1 B2
  obtain ⟨d1, d2, d3, _⟩ := devSq_st (x0 := 3 * a1) (x1 := 2 * a1 + b1) (x2 := 3 * b1) (y0 := 3 * a2) (y1 := 2 * a2 + b2) (y2 := 3 * b2) (by omega) (by omega) (by omega) (by omega) (by omega) (by omega) (by omega) (by omega)
  obtain ⟨e1, e2, e3, _⟩ := devSq_st (x0 := 3 * a1) (x1 := a1 + 2 * b1) (x2 := 3 * b1) (y0 := 3 * a2) (y1 := a2 + 2 * b2) (y2 := 3 * b2) (by omega) (by omega) (by omega) (by omega) (by omega) (by omega) (by omega) (by omega)
  have hD : Bd (cubeD (wq (3 * a1)) (wq (3 * a2)) (wq (2 * a1 + b1)) (wq (2 * a2 + b2)) (wq (a1 + 2 * b1)) (wq (a2 + 2 * b2)) (wq (3 * b1)) (wq (3 * b2))) 18 ∧ 0 ≤ V (cubeD (wq (3 * a1)) (wq (3 * a2)) (wq (2 * a1 + b1)) (wq (2 * a2 + b2)) (wq (a1 + 2 * b1)) (wq (a2 + 2 * b2)) (wq (3 * b1)) (wq (3 * b2))) := by
    unfold cubeD
    split
    · exact ⟨e2, e3⟩
    · exact ⟨d2, d3⟩
  have hex0 : (0 : Rat) ≤ exS := by unfold exS; decide +kernel
  obtain ⟨hey0, hey1⟩ := eyS_bd ha2 hb2
  have z : ∀ x : Rat, ab (x - x) ≤ 0 := fun x => by have : x - x = 0 := by grind
                                                    rw [this]; decide +kernel
  obtain ⟨f0, v0, g0⟩ := wqV (n := 3 * a1) (by omega)
  obtain ⟨f1, v1, g1⟩ := wqV (n := 3 * a2) (by omega)
  obtain ⟨f2, v2, g2⟩ := wqV (n := 3 * b1) (by omega)
  obtain ⟨f3, v3, g3⟩ := wqV (n := 3 * b2) (by omega)
  have hstart : PtS a1 a2 b1 b2 exS (eyS a2 b2) 0 (wq (3 * a1)) (wq (3 * a2)) ∧ (a2 = b2 → V (wq (3 * a2)) = 3 * (a2 : Rat) / 64) := by
    refine ⟨⟨f0, f1, ?_, ?_, g0.up (by decide), fun _ => by rw [v0]; push_cast; rfl⟩, fun _ => by rw [v1]; push_cast; rfl⟩
    · have e : stC a1 b1 0 = V (wq (3 * a1)) := by rw [v0]; unfold stC; push_cast; grind
      rw [e]
      exact Rat.le_trans (z _) hex0
    · have e : stC a2 b2 0 = V (wq (3 * a2)) := by rw [v1]; unfold stC; push_cast; grind
      rw [e]
      exact Rat.le_trans (z _) hey0
  have hend : PtS a1 a2 b1 b2 exS (eyS a2 b2) 1 (wq (3 * b1)) (wq (3 * b2)) ∧ (a2 = b2 → V (wq (3 * b2)) = 3 * (a2 : Rat) / 64) := by
    refine ⟨⟨f2, f3, ?_, ?_, g2.up (by decide), fun h => by rw [v2, ← h]; push_cast; rfl⟩, fun h => by rw [v3, ← h]; push_cast; rfl⟩
    · have e : stC a1 b1 1 = V (wq (3 * b1)) := by rw [v2]; unfold stC; push_cast; grind
      rw [e]
      exact Rat.le_trans (z _) hex0
    · have e : stC a2 b2 1 = V (wq (3 * b2)) := by rw [v3]; unfold stC; push_cast; grind
      rw [e]
      exact Rat.le_trans (z _) hey0
  exact cube_lines_gen (P := fun t px py => PtS a1 a2 b1 b2 exS (eyS a2 b2) t px py ∧ (a2 = b2 → V py = 3 * (a2 : Rat) / 64)) d1 e1 hD
    (fun t ht t0 t1 gt => by
      obtain ⟨x1, x2, x3, x4, x5⟩ := pt_x ha1 hb1 ht t0 t1 gt
      obtain ⟨y1, y2, y3, y4, y5⟩ := pt_y ha2 hb2 ht t0 t1 gt
      refine ⟨⟨x1, y1⟩, ⟨x2, y2, ?_, y3, x4, x5⟩, y5⟩
      refine Rat.le_trans x3 ?_
      unfold exS
      decide +kernel) hstart hend (fun t t' px py qx qy h1 h2 h3 h4 h5 => hR t t' px py qx qy h1 h2 h3 h4 h5)
end Go.Proofs.Ytmgcbodlolnheaa

namespace Go.Proofs.Ytmgcbodlolnheaa
open Flt Go.RowKit
set_option linter.unusedVariables false

/-- The width of an edge, in pixels. -/
def wE (e : Pt × Pt) : Rat := ab ((e.2.1 : Rat) - e.1.1) / 64
/-- How much a shift counts: all of it, or less where an edge is wide. -/
def rhoE (e : Pt × Pt) : Rat := if wE e ≤ hE' e then 1 else hE' e / wE e
def dE (e : Pt × Pt) : Rat := (hE' e * 26 + 492 + ((2304 + 482 * (hE' e + 4)) * rhoE e + 615 + 11 * hE' e)) * (1 / 16777216) + 1 / 100000000000000000
def lE (e : Pt × Pt) : Rat := wE e * (1000001 / 1000000) + (hE' e + 34) * (3 + 1 / 10000)
theorem wE_nonneg (e : Pt × Pt) : 0 ≤ wE e := by unfold wE; have := ab_nonneg ((e.2.1 : Rat) - e.1.1); grind
theorem hE'_nonneg (e : Pt × Pt) : 0 ≤ hE' e := by unfold hE'; have := ab_nonneg ((e.2.2 : Rat) - e.1.2); grind
theorem rhoE_bd (e : Pt × Pt) : 0 ≤ rhoE e ∧ rhoE e ≤ 1 ∧ rhoE e * wE e ≤ hE' e := by
  have h0 := wE_nonneg e
  have h1 := hE'_nonneg e
  unfold rhoE
  split
  · exact ⟨by decide, Rat.le_refl, by grind⟩
  · rename_i h
    have hw : 0 < wE e := by grind
    have e1 : hE' e / wE e * wE e = hE' e := Rat.div_mul_cancel (by grind)
    refine ⟨?_, ?_, by rw [e1]; exact Rat.le_refl⟩
    · rw [Rat.div_def]; exact Rat.mul_nonneg h1 (Rat.le_of_lt (Rat.inv_pos.2 hw))
    · refine Rat.le_of_mul_le_mul_right (c := wE e) ?_ hw
      rw [e1]; grind
/-- With the slope. -/
theorem rhoE_slope {e : Pt × Pt} {s : Rat} (hh : 0 < hE' e) (hs : ab s * hE' e = wE e) : ab s * rhoE e ≤ 1 ∧ (1 ≤ rhoE e ∨ 1 ≤ rhoE e * ab s) := by
  have h0 := wE_nonneg e
  unfold rhoE
  split
  · rename_i h
    refine ⟨?_, .inl Rat.le_refl⟩
    refine Rat.le_of_mul_le_mul_right (c := hE' e) ?_ hh
    grind
  · rename_i h
    have hw : 0 < wE e := by grind
    have e1 : hE' e / wE e * wE e = hE' e := Rat.div_mul_cancel (by grind)
    have e2 : ab s * (hE' e / wE e) = 1 := by
      have e3 : (ab s * (hE' e / wE e)) * hE' e = 1 * hE' e := by
        have : (ab s * (hE' e / wE e)) * hE' e = (hE' e / wE e) * (ab s * hE' e) := by grind
        rw [this, hs, e1]; grind
      have k1 := Rat.le_of_mul_le_mul_right (c := hE' e) (a := ab s * (hE' e / wE e)) (b := 1) (by rw [e3]; exact Rat.le_refl) hh
      have k2 := Rat.le_of_mul_le_mul_right (c := hE' e) (a := 1) (b := ab s * (hE' e / wE e)) (by rw [e3]; exact Rat.le_refl) hh
      grind
    exact ⟨by rw [e2]; exact Rat.le_refl, .inr (by rw [Rat.mul_comm, e2]; exact Rat.le_refl)⟩
theorem EG.mono {W H : Nat} {e : Pt × Pt} {δ len δ' len' : Rat} {L : List (Nat × Nat)} (h : EG W H e δ len L) (h1 : δ ≤ δ') (h2 : len ≤ len') : EG W H e δ' len' L :=
  ⟨h.bd, Rat.le_trans h.len h2, h.cell, fun X Y hX hY => Rat.le_trans (h.cum X Y hX hY) h1⟩
/-- A level edge adds nothing. -/
theorem EG.flat {W H : Nat} {e : Pt × Pt} {δ len : Rat} (hy : e.1.2 = e.2.2) (h1 : 0 ≤ δ) (h2 : 0 ≤ len) : EG W H e δ len [] := by
  have hz : ∀ r, dph r e = 0 := by intro r; unfold dph; rw [hy]; omega
  refine ⟨fun p hp => by simp at hp, by simpa using h2, fun c => ?_, fun X Y hX hY => ?_⟩
  · have : cellA (valL []) c = 0 := rfl
    rw [this, hz, hz]
    decide +kernel
  · have e1 : rowsR (fun r => (dph r e : Rat) / 64) 0 Y = 0 := rowsR_zero fun r _ _ => by rw [hz, cast_zero]; grind
    have e2 : areaE X Y e = 0 := by unfold areaE; rw [hz, cast_zero]; grind
    have e3 : sumR (valL []) (Y * W + X) = 0 := rfl
    rw [e1, e2, e3]
    have : ab ((0 : Rat) - (0 + 0)) = 0 := by decide +kernel
    rw [this]
    exact h1
theorem eq_of_mul {p q c : Rat} (hc : c ≠ 0) (h : p * c = q * c) : p = q := by
  have : (p - q) * c = 0 := by grind
  rcases Rat.mul_eq_zero.1 this with k | k
  · grind
  · exact absurd k hc
theorem slopeR_eq {m1 m2 m3 m4 : Int} {s : Rat} (hlt : m2 < m4) (h : s * ((m4 : Rat) - m2) = (m3 : Rat) - m1) : slopeR m1 m2 m3 m4 = s := by
  have hc := castLt hlt
  have hne : ((m4 - m2 : Int) : Rat) ≠ 0 := by push_cast; grind
  refine eq_of_mul hne ?_
  unfold slopeR
  rw [Rat.div_mul_cancel hne]
  push_cast
  grind
/-- Where an edge has a part of a row of the mask, its heights are near. -/
theorem touch_near {m2 m4 : Int} {Y : Nat} (hY : Y < 200) (h : ph Y m4 - ph Y m2 ≠ 0) (hlt : m2 < m4) : -(64 * 200 + (m4 - m2)) ≤ m2 ∧ m2 ≤ 64 * 200 + (m4 - m2) ∧ -(64 * 200 + (m4 - m2)) ≤ m4 ∧ m4 ≤ 64 * 200 + (m4 - m2) := by
  have a1 := ph_cases Y m2
  have a2 := ph_cases Y m4
  omega
theorem epsrho_rat {ex ey s ρ w h ε D u : Rat} (hu : u = 1 / 16777216) (hε : ε = ex + s * ey + (w + 1) * (6 * u) + (h + 4) * (482 * u)) (hs : s * ρ ≤ 1) (hey : 0 ≤ ey) (hex : ex ≤ 2304 * u) (hρ0 : 0 ≤ ρ) (hρ1 : ρ ≤ 1) (hw : ρ * w ≤ h) (heyb : ey ≤ (609 + 5 * h) * u + 1 / 10000000000000000000)
    (hD : D = ((2304 + 482 * (h + 4)) * ρ + 615 + 11 * h) * u + 1 / 1000000000000000000) : ε * ρ ≤ D := by
  have m1 := Rat.mul_le_mul_of_nonneg_right hex hρ0
  have m2 := Rat.mul_le_mul_of_nonneg_right hs hey
  have hu0 : 0 < u := by subst hu; decide +kernel
  have m3 := Rat.mul_le_mul_of_nonneg_right hw (Rat.le_of_lt hu0)
  have m4 := Rat.mul_le_mul_of_nonneg_right hρ1 (Rat.le_of_lt hu0)
  subst hε hD
  have e1 : (ex + s * ey + (w + 1) * (6 * u) + (h + 4) * (482 * u)) * ρ = ex * ρ + s * ρ * ey + 6 * (ρ * w * u) + 6 * (ρ * u) + (h + 4) * (482 * u) * ρ := by grind
  have e2 : ((2304 + 482 * (h + 4)) * ρ + 615 + 11 * h) * u + 1 / 1000000000000000000 = 2304 * u * ρ + (h + 4) * (482 * u) * ρ + 615 * u + 11 * (h * u) + 1 / 1000000000000000000 := by grind
  rw [e1, e2]
  have e3 : (609 + 5 * h) * u + 1 / 10000000000000000000 = 609 * u + 5 * (h * u) + 1 / 10000000000000000000 := by grind
  rw [e3] at heyb
  generalize (h + 4) * (482 * u) * ρ = z1 at *
  generalize s * ρ * ey = z2 at *
  generalize ex * ρ = z3 at *
  generalize ρ * w * u = z4 at *
  generalize ρ * u = z5 at *
  generalize h * u = z6 at *
  grind
theorem eyS_near {a b : Int} {h : Rat} (hb1 : ab (3 * (a : Rat) / 64) ≤ 200 + h) (hb2 : ab (3 * (b : Rat) / 64) ≤ 200 + h) (hh : ab (((b : Rat) - a) / 64) = h / 3) : eyS a b ≤ (609 + 5 * h) * (1 / 16777216) + 1 / 10000000000000000000 := by
  have := mxS_of hb1 hb2
  unfold eyS
  rw [hh]
  grind
theorem abs_sg {a b : Int} : sgI a b * ((b : Rat) - a) = ab ((b : Rat) - a) := by
  unfold sgI
  split
  · rename_i h
    have := castLt h
    rw [ab_of_nonneg (by grind)]; grind
  · rename_i h
    have := castLe (show b ≤ a by omega)
    rw [ab_of_nonpos (by grind)]; grind
theorem ab_third (x : Rat) : ab (3 * x / 64) = 3 * ab x / 64 := by
  have : 3 * x / 64 = (3 / 64) * x := by grind
  rw [this, ab_mul, ab_of_nonneg (x := (3 / 64 : Rat)) (by decide +kernel)]
  grind
theorem ab_64 (x : Rat) : ab (x / 64) = ab x / 64 := by
  have : x / 64 = (1 / 64) * x := by grind
  rw [this, ab_mul, ab_of_nonneg (x := (1 / 64 : Rat)) (by decide +kernel)]
  grind
set_option maxHeartbeats 1000000 in
/-- A straight cubic curve. -/
theorem cube_EG {W H : Nat} (hW : 0 < W) (hH : H ≤ 200) {a b : Pt} (ha1 : In160 a.1) (ha2 : In160 a.2) (hb1 : In160 b.1) (hb2 : In160 b.2) :
    CubWOk a b ∧ PolyOk H (cubW a b) (wq (3 * a.1)) (wq (3 * a.2)) ∧ EG W H ((3 * a.1, 3 * a.2), (3 * b.1, 3 * b.2)) (dE ((3 * a.1, 3 * a.2), (3 * b.1, 3 * b.2))) (lE ((3 * a.1, 3 * a.2), (3 * b.1, 3 * b.2))) (polyF W H (cubW a b) (wq (3 * a.1)) (wq (3 * a.2))) := by
  obtain ⟨e, he⟩ : ∃ e : Pt × Pt, e = ((3 * a.1, 3 * a.2), (3 * b.1, 3 * b.2)) := ⟨_, rfl⟩
  rw [← he]
  have hh0 := hE'_nonneg e
  have hw0 := wE_nonneg e
  obtain ⟨r0, r1, r2⟩ := rhoE_bd e
  have hd0 : 0 ≤ dE e := by
    unfold dE
    have := Rat.mul_nonneg (show 0 ≤ 2304 + 482 * (hE' e + 4) by grind) r0
    grind
  have hl0 : 0 ≤ lE e := by unfold lE; grind
  by_cases hy : a.2 = b.2
  · obtain ⟨k1, k2, _⟩ := cube_lines ha1 ha2 hb1 hb2 (R := Level) (fun t t' px py qx qy t0 ht t1 hp hq => by
      have e1 := hp.2 hy
      have e2 := hq.2 hy
      have A2 := ha2.third
      have b1 : ∀ {t : Rat} {x y : Nat}, 0 ≤ t → t ≤ 1 → PtS a.1 a.2 b.1 b.2 exS (eyS a.2 b.2) t x y → ab (V x) ≤ 100000 := by
        intro t x y h0 h1 hps
        have k1 := stC_ab h0 h1 ha1.third hb1.third
        have k2 := ab_add_le (V x - stC a.1 b.1 t) (stC a.1 b.1 t)
        have k3 := hps.nx
        have e3 : V x - stC a.1 b.1 t + stC a.1 b.1 t = V x := by grind
        rw [e3] at k2
        unfold exS at k3
        grind
      refine ⟨hp.1.fx, hp.1.fy, hq.1.fx, hq.1.fy, by rw [e1, e2], by rw [e1]; grind, b1 t0 (by grind) hp.1, b1 (by grind) t1 hq.1⟩)
    obtain ⟨l1, l2⟩ := poly_level W H _ _ _ k2
    rw [l1]
    exact ⟨k1, l2, EG.flat (by rw [he]; simp only; omega) hd0 hl0⟩
  · obtain ⟨hey0, hey1⟩ := eyS_bd ha2 hb2
    have hex1 : exS ≤ 1 / 4500 := by unfold exS; decide +kernel
    have hex0 : (0 : Rat) ≤ exS := by unfold exS; decide +kernel
    have hwE : ab (3 * ((b.1 : Rat) - a.1) / 64) = wE e := by
      rw [ab_third, he]
      unfold wE
      simp only
      have : (((3 * b.1 : Int) : Rat) - ((3 * a.1 : Int) : Rat)) = 3 * ((b.1 : Rat) - a.1) := by push_cast; grind
      rw [this, ab_mul, ab_of_nonneg (x := (3 : Rat)) (by decide)]
    have hhE : ab (3 * ((b.2 : Rat) - a.2) / 64) = hE' e := by
      rw [ab_third, he]
      unfold hE'
      simp only
      have : (((3 * b.2 : Int) : Rat) - ((3 * a.2 : Int) : Rat)) = 3 * ((b.2 : Rat) - a.2) := by push_cast; grind
      rw [this, ab_mul, ab_of_nonneg (x := (3 : Rat)) (by decide)]
    obtain ⟨ε, hε⟩ : ∃ ε, ε = exS + ab (slS a.1 a.2 b.1 b.2) * eyS a.2 b.2 + (wE e + 1) * (6 * (1 / 16777216)) + (hE' e + 4) * (482 * (1 / 16777216)) := ⟨_, rfl⟩
    have hε0 : 0 ≤ ε := by
      have := Rat.mul_nonneg (ab_nonneg (slS a.1 a.2 b.1 b.2)) hey0
      rw [hε]
      grind
    obtain ⟨k1, k2, qx, qy, tl, k3, k4, k5⟩ := cube_lines ha1 ha2 hb1 hb2 (R := StepG 482 (exS + ab (slS a.1 a.2 b.1 b.2) * eyS a.2 b.2) ε (3 * (a.1 : Rat) / 64 - slS a.1 a.2 b.1 b.2 * (3 * (a.2 : Rat) / 64)) (slS a.1 a.2 b.1 b.2) (sgI a.2 b.2) (sgI a.1 b.1))
      (fun t t' px py qx qy t0 ht t1 hp hq => PtS.step ha1 ha2 hb1 hb2 hy hex1 hey1 hp.1 hq.1 t0 ht t1 (by rw [hwE, hhE, hε]; grind))
    have hch := chainR_G _ _ _ k2
    refine ⟨k1, ?_⟩
    rw [k3] at hch ⊢
    have hmul := slS_mul (a0 := a.1) (b0 := b.1) hy
    have hd2 : (0 : Rat) < hE' e := by
      rw [← hhE, ab_third]
      have : ab ((b.2 : Rat) - a.2) ≠ 0 := by
        intro h0
        have h1 := (ab_iff.1 (show ab ((b.2 : Rat) - a.2) ≤ 0 by rw [h0]; exact Rat.le_refl))
        apply hy
        have : (a.2 : Rat) = b.2 := by grind
        exact Rat.intCast_inj.1 this
      have := ab_nonneg ((b.2 : Rat) - a.2)
      grind
    have hsh : ab (slS a.1 a.2 b.1 b.2) * hE' e = wE e := by
      rw [← hwE, ← hhE, ab_third, ab_third, ← hmul, ab_mul]
      grind
    obtain ⟨rs1, rs2⟩ := rhoE_slope hd2 hsh
    obtain ⟨D, hD⟩ : ∃ D, D = ((2304 + 482 * (hE' e + 4)) * rhoE e + 615 + 11 * hE' e) * (1 / 16777216) + 1 / 1000000000000000000 := ⟨_, rfl⟩
    have hD0 : 0 ≤ D := by
      have := Rat.mul_nonneg (show 0 ≤ 2304 + 482 * (hE' e + 4) by grind) r0
      rw [hD]
      grind
    have hval : V (wq (3 * a.1)) = ((3 * a.1 : Int) : Rat) / 64 ∧ V (wq (3 * a.2)) = ((3 * a.2 : Int) : Rat) / 64 ∧ V (wq (3 * b.1)) = ((3 * b.1 : Int) : Rat) / 64 ∧ V (wq (3 * b.2)) = ((3 * b.2 : Int) : Rat) / 64 := by
      unfold In160 at ha1 ha2 hb1 hb2
      exact ⟨(wqV (by omega)).2.1, (wqV (by omega)).2.1, (wqV (by omega)).2.1, (wqV (by omega)).2.1⟩
    obtain ⟨v1, v2, v3, v4⟩ := hval
    have hwx : sgI a.1 b.1 * (((3 * b.1 : Int) : Rat) / 64 - ((3 * a.1 : Int) : Rat) / 64) = wE e := by
      rw [← hwE, ab_third, ← abs_sg]
      push_cast
      grind
    have hnear : ∀ {m2 m4 : Int}, m2 < m4 → (((m4 : Rat) - m2) / 64 = hE' e) → (3 * a.2 = m2 ∧ 3 * b.2 = m4 ∨ 3 * b.2 = m2 ∧ 3 * a.2 = m4) → ∀ Y : Nat, Y < H → ph Y m4 - ph Y m2 ≠ 0 → ε * rhoE e ≤ D := by
      intro m2 m4 hlt hm hor Y hY hne
      obtain ⟨t1, t2, t3, t4⟩ := touch_near (show Y < 200 by omega) hne hlt
      have c1 := castLe t1
      have c2 := castLe t2
      have c3 := castLe t3
      have c4 := castLe t4
      push_cast at c1 c2 c3 c4
      have hB : ab (3 * (a.2 : Rat) / 64) ≤ 200 + hE' e ∧ ab (3 * (b.2 : Rat) / 64) ≤ 200 + hE' e := by
        rcases hor with ⟨o1, o2⟩ | ⟨o1, o2⟩
        · have p1 : 3 * (a.2 : Rat) = m2 := by rw [← o1]; push_cast; rfl
          have p2' : 3 * (b.2 : Rat) = m4 := by rw [← o2]; push_cast; rfl
          rw [p1, p2']
          exact ⟨ab_le (by grind) (by grind), ab_le (by grind) (by grind)⟩
        · have p1 : 3 * (b.2 : Rat) = m2 := by rw [← o1]; push_cast; rfl
          have p2' : 3 * (a.2 : Rat) = m4 := by rw [← o2]; push_cast; rfl
          rw [p1, p2']
          exact ⟨ab_le (by grind) (by grind), ab_le (by grind) (by grind)⟩
      have hey3 := eyS_near hB.1 hB.2 (by rw [ab_64]; rw [ab_third] at hhE; grind)
      refine epsrho_rat (s := ab (slS a.1 a.2 b.1 b.2)) (ex := exS) (ey := eyS a.2 b.2) (w := wE e) (h := hE' e) rfl hε rs1 hey0 ?_ r0 r1 r2 hey3 hD
      unfold exS
      decide +kernel
    have hnl : (tl.length + 1 : Nat) ≤ 200 := by omega
    have hnR : ((tl.length + 1 : Nat) : Rat) ≤ 33 := by exact_mod_cast k5
    rcases Int.lt_or_le a.2 b.2 with hlt | hle
    · have hsg : sgI a.2 b.2 = 1 := by unfold sgI; rw [if_pos hlt]
      rw [hsg] at hch
      obtain ⟨p1, p2'⟩ := poly_down (H := H) hW (by decide) (by decide) (sgI_or _ _) tl qx qy _ _ hch
      refine ⟨p1, ?_⟩
      rw [k4] at p2'
      simp only at p2'
      rw [v1, v2, v3, v4, hwx] at p2'
      have hsl : slopeR (3 * a.1) (3 * a.2) (3 * b.1) (3 * b.2) = slS a.1 a.2 b.1 b.2 := slopeR_eq (by omega) (by push_cast; grind)
      have hg : 3 * (a.1 : Rat) / 64 - slS a.1 a.2 b.1 b.2 * (3 * (a.2 : Rat) / 64) = (((3 * a.1 : Int) : Rat) - slopeR (3 * a.1) (3 * a.2) (3 * b.1) (3 * b.2) * ((3 * a.2 : Int) : Rat)) / 64 := by rw [hsl]; push_cast; grind
      rw [hg, ← hsl] at p2'
      have hc := castLt hlt
      have hm : (((3 * b.2 : Int) : Rat) - ((3 * a.2 : Int) : Rat)) / 64 = hE' e := by
        rw [← hhE, ab_of_nonneg (by grind)]; push_cast; grind
      have hEG := PF.toEG (e := e) (ρ := rhoE e) (D := D) (by decide) hD0 (hnear (by omega) hm (.inl ⟨rfl, rfl⟩)) (show 3 * a.2 < 3 * b.2 by omega) (.inl rfl) hε0 r0 hnl p2'
        (fun r => by rw [he]; unfold dph; simp only; push_cast; grind) (fun X Y => by rw [he]; unfold mEdge; simp only; rw [if_pos (by omega)]) (by rw [hsl]; exact rs2)
      refine hEG.mono ?_ ?_
      · have e9 : ((3 * b.2 - 3 * a.2 : Int) : Rat) / 64 = hE' e := by rw [← hm]; push_cast; grind
        rw [e9, hD]
        unfold dE
        grind
      · unfold lE
        have h1 := castLe (show (3 * b.2 + 63) / 64 - 3 * a.2 / 64 ≤ (3 * b.2 - 3 * a.2) / 64 + 2 by omega)
        have h2 := castLe (show 64 * ((3 * b.2 - 3 * a.2) / 64) ≤ 3 * b.2 - 3 * a.2 by omega)
        push_cast at h1 h2 hm hnR ⊢
        grind
    · have hlt : b.2 < a.2 := by omega
      have hsg : sgI a.2 b.2 = -1 := by unfold sgI; rw [if_neg (by omega)]
      rw [hsg] at hch
      obtain ⟨p1, p2'⟩ := poly_up (H := H) hW (by decide) (by decide) (sgI_or _ _) tl qx qy _ _ hch
      refine ⟨p1, ?_⟩
      rw [k4] at p2'
      simp only at p2'
      rw [v1, v2, v3, v4, hwx] at p2'
      have hsl : slopeR (3 * b.1) (3 * b.2) (3 * a.1) (3 * a.2) = slS a.1 a.2 b.1 b.2 := slopeR_eq (by omega) (by push_cast; grind)
      have hg : 3 * (a.1 : Rat) / 64 - slS a.1 a.2 b.1 b.2 * (3 * (a.2 : Rat) / 64) = (((3 * b.1 : Int) : Rat) - slopeR (3 * b.1) (3 * b.2) (3 * a.1) (3 * a.2) * ((3 * b.2 : Int) : Rat)) / 64 := by rw [hsl]; push_cast; grind
      rw [hg, ← hsl] at p2'
      have hc := castLt hlt
      have hm : (((3 * a.2 : Int) : Rat) - ((3 * b.2 : Int) : Rat)) / 64 = hE' e := by
        rw [← hhE, ab_of_nonpos (by grind)]; push_cast; grind
      have hEG := PF.toEG (e := e) (ρ := rhoE e) (D := D) (by decide) hD0 (hnear (by omega) hm (.inr ⟨rfl, rfl⟩)) (show 3 * b.2 < 3 * a.2 by omega) (.inr rfl) hε0 r0 hnl p2'
        (fun r => by rw [he]; unfold dph; simp only; push_cast; grind) (fun X Y => by rw [he]; unfold mEdge; simp only; rw [if_neg (by omega)]) (by rw [hsl]; exact rs2)
      refine hEG.mono ?_ ?_
      · have e9 : ((3 * a.2 - 3 * b.2 : Int) : Rat) / 64 = hE' e := by rw [← hm]; push_cast; grind
        rw [e9, hD]
        unfold dE
        grind
      · unfold lE
        have h1 := castLe (show (3 * a.2 + 63) / 64 - 3 * b.2 / 64 ≤ (3 * a.2 - 3 * b.2) / 64 + 2 by omega)
        have h2 := castLe (show 64 * ((3 * a.2 - 3 * b.2) / 64) ≤ 3 * a.2 - 3 * b.2 by omega)
        push_cast at h1 h2 hm hnR ⊢
        grind
end Go.Proofs.Ytmgcbodlolnheaa

namespace Go.Proofs.Ytmgcbodlolnheaa
open Go.ChangeShapes Go.WideShapes Go.ChangeAt Go.RowKit Go.Deep Flt
set_option linter.unusedVariables false

/-- Edges at most 31000 from the beginning, in 64ths. -/
def Edge31 (e : Pt × Pt) : Prop := (-31000 ≤ e.1.1 ∧ e.1.1 ≤ 31000) ∧ (-31000 ≤ e.1.2 ∧ e.1.2 ≤ 31000) ∧ (-31000 ≤ e.2.1 ∧ e.2.1 ≤ 31000) ∧ (-31000 ≤ e.2.2 ∧ e.2.2 ≤ 31000)
theorem rowsE_bd31 {e : Pt × Pt} (h : Edge31 e) : 1 ≤ rowsE e ∧ rowsE e ≤ 970 ∧ (e.1.2 ≠ e.2.2 → 2 ≤ rowsE e) := by
  obtain ⟨_, h1, _, h2⟩ := h
  unfold rowsE imax
  split <;> omega
theorem rowsAll_bd31 {es : List (Pt × Pt)} (h : ∀ e ∈ es, Edge31 e) : 0 ≤ rowsAll es 0 ∧ rowsAll es 0 ≤ 970 :=
  ⟨rowsAll_ge es 0, rowsAll_le (by omega) fun e he => (rowsE_bd31 (h e he)).2.1⟩
theorem slack_val31 {es : List (Pt × Pt)} (h : ∀ e ∈ es, Edge31 e) (hn : es.length ≤ 200) : F64 (slackW es) ∧ VV (slackW es) = 4 + (rowsAll es 0 : Rat) * es.length := by
  obtain ⟨r0, r1⟩ := rowsAll_bd31 h
  have hb : 0 ≤ rowsAll es 0 * (es.length : Int) ∧ rowsAll es 0 * (es.length : Int) ≤ 970 * 200 := ⟨Int.mul_nonneg r0 (by omega), by
    have a1 := Int.mul_le_mul_of_nonneg_right r1 (show (0 : Int) ≤ es.length by omega)
    omega⟩
  obtain ⟨f1, f2⟩ := int64w (n := 4 + rowsAll es 0 * es.length) (by omega) (by omega)
  refine ⟨f1, ?_⟩
  unfold slackW
  rw [f2]
  push_cast
  rfl
theorem drift_num31 {es : List (Pt × Pt)} (h : ∀ e ∈ es, Edge31 e) (hn : es.length ≤ 200) : DriftOk es ∧ F64 (driftW es) ∧
    ab (VV (driftW es) - (2 + (rowsAll es 0 : Rat) * es.length / 100)) ≤ 1 / 100000000000 ∧ ((2 + rowsAll es 0 * es.length / 100 : Int) : Rat) ≤ VV (driftW es) := by
  obtain ⟨s1, s2⟩ := slack_val31 h hn
  obtain ⟨r0, r1⟩ := rowsAll_bd31 h
  obtain ⟨M, hM⟩ : ∃ M : Int, M = rowsAll es 0 * es.length := ⟨_, rfl⟩
  have hM0 : 0 ≤ M := by rw [hM]; exact Int.mul_nonneg r0 (by omega)
  have hM1 : M ≤ 194000 := by
    rw [hM]
    have a1 := Int.mul_le_mul_of_nonneg_right r1 (show (0 : Int) ≤ es.length by omega)
    omega
  have hMR : (rowsAll es 0 : Rat) * es.length = (M : Rat) := by rw [hM]; push_cast; rfl
  rw [hMR] at s2 ⊢
  rw [← hM]
  have hc0 := castLe hM0
  have hc1 := castLe hM1
  rw [cast_zero] at hc0
  push_cast at hc1
  obtain ⟨c1, c2⟩ := c4d
  obtain ⟨d1, d2⟩ := c100d
  obtain ⟨t1, t2⟩ := two64
  have h1022 : (1000000000000000000000000000000 : Rat) ≤ p2 1022 := big1022 Rat.le_refl
  have h1021 : (1000000000000000000000000000000 : Rat) ≤ p2 1021 := big1021 Rat.le_refl
  obtain ⟨o1, q1⟩ := fsub64_ok s1 c1 (by rw [s2, c2]; exact Rat.le_trans (ab_le (y := 1000000) (by grind) (by grind)) (by grind))
  rw [s2, c2] at q1
  have e1 : 4 + (M : Rat) - 4 = (M : Rat) := by grind
  rw [e1] at q1
  have v1 := q1.ofIntEq rfl (by omega) (by omega)
  have hq1 := q1.fin
  obtain ⟨o2, q2⟩ := fquo64_ok hq1 d1 (by rw [d2]; decide) (by
    rw [d2, v1, ab_of_nonneg hc0]
    have e : ab (100 : Rat) = 100 := ab_of_nonneg (by grind)
    rw [e]
    grind)
  rw [v1, d2] at q2
  have hF := castLe (show 100 * (M / 100) ≤ M by omega)
  push_cast at hF
  have g2 := q2.geInt (n := M / 100) (by grind) (by omega) (by omega)
  have n2 := q2.near2 (M := 4000) (ab_le (by grind) (by grind))
  have hq2 := q2.fin
  obtain ⟨o3, q3⟩ := fadd64_ok t1 hq2 (by
    rw [t2]
    obtain ⟨a, b⟩ := ab_iff.1 n2
    exact Rat.le_trans (ab_le (y := 10000) (by grind) (by grind)) (by grind))
  rw [t2] at q3
  have g3 := q3.geInt (n := 2 + M / 100) (by push_cast; grind) (by omega) (by omega)
  have n3 := q3.near2 (M := 5000) (by obtain ⟨a, b⟩ := ab_iff.1 n2; exact ab_le (by grind) (by grind))
  refine ⟨⟨o1, o2, o3⟩, q3.fin, ?_, g3⟩
  obtain ⟨a, b⟩ := ab_iff.1 n2
  obtain ⟨a2, b2⟩ := ab_iff.1 n3
  unfold driftW
  exact ab_le (by grind) (by grind)
@[local go_sem ↓] theorem run_maxS31 {P : Program} {w : World} (ts : Array TypeId) (t : TypeId) (k k1 : IntKind) (x y : Int) : (Builtin.max_ ts t #[.int k x, .int k1 y]).run P w = .ok (.int k (imax x y)) w := by
  have e : imax x y = if x < y then y else x := by unfold imax; split <;> split <;> omega
  rw [e]
  simp [Builtin.max_, Builtin.max2]
set_option maxHeartbeats 1000000 in
set_option maxRecDepth 100000 in
theorem slack_cons31 (l : List Edge) (g off cap : Nat) (w : World) (hpos : 0 < l.length) (hlen : l.length ≤ 1000) (hp : EdgesCells w w.heap.size g off l) (hnear : ∀ e ∈ l, Edge31 e) :
    Calls Try.prog 30 #[.slice (some ⟨g, off, none⟩) l.length cap] w fun e w' => e = .returned (.float .f64 (slackW l)) ∧ Same w w' := by
  have HP := hid hp
  have HNE := hid hnear
  have hbw : 0 ≤ rowsAll l 0 * (l.length : Int) ∧ rowsAll l 0 * (l.length : Int) ≤ 970 * 1000 := by
    obtain ⟨r0, r1⟩ := rowsAll_bd31 hnear
    refine ⟨Int.mul_nonneg r0 (by omega), ?_⟩
    have a1 := Int.mul_le_mul_of_nonneg_right r1 (show (0 : Int) ≤ l.length by omega)
    omega
  obtain ⟨hb1, hb2⟩ := hbw
  clear hp hnear
  go_enter Try.func30, Try.ntmps30
  go_wp2_with fail
  go_loopw [3, 8] (fun r i wr => ∃ k : Nat, k ≤ l.length ∧ i = .int .i64 k ∧ r = .int .i64 (rowsAll (l.take k) 0) ∧ Same w wr) (fun _ i _ => l.length - (intOf i).toNat)
  case atStart => exact ⟨0, Nat.zero_le _, rfl, rfl, Kept.refl _ _⟩
  case round =>
    obtain ⟨k, hk, rfl, rfl, q2⟩ := hrel
    by_cases hlt : k < l.length
    · have hpc := HP.out.kept q2 (Nat.le_refl _) (fun _ _ hf => hf)
      obtain ⟨c0, c1, c2, c3⟩ := hpc.2 k hlt
      have hg : g < wr.heap.size := Nat.lt_of_lt_of_le hpc.1 q2.size
      have hN := HNE.out _ (List.getElem_mem hlt)
      have hnext : rowsAll (l.take (k + 1)) 0 = imax (rowsAll (l.take k) 0) (rowsE l[k]) := by rw [List.take_succ_eq_append_getElem hlt, rowsAll_snoc]
      have hbd := rowsAll_bd31 (es := l.take k) fun e he => HNE.out e (List.mem_of_mem_take he)
      generalize l[k] = e at c0 c1 c2 c3 hN hnext
      generalize rowsAll (l.take k) 0 = r at hnext hbd
      obtain ⟨⟨x0, y0⟩, ⟨x1, y1⟩⟩ := e
      obtain ⟨⟨n1, n2⟩, ⟨n3, n4⟩, ⟨n5, n6⟩, ⟨n7, n8⟩⟩ := hN
      simp only at c0 c1 c2 c3 n1 n2 n3 n4 n5 n6 n7 n8
      have hm0 : 0 ≤ imax (y0 - y1) (y1 - y0) ∧ imax (y0 - y1) (y1 - y0) ≤ 62000 := by unfold imax; split <;> omega
      obtain ⟨m1, m2⟩ := hm0
      have htd : (imax (y0 - y1) (y1 - y0) + 63).tdiv 64 = (imax (y0 - y1) (y1 - y0) + 63) / 64 := Int.tdiv_eq_ediv_of_nonneg (by omega)
      have hN2 : rowsAll (l.take (k + 1)) 0 = imax r ((imax (y0 - y1) (y1 - y0) + 63).tdiv 64 + 1) := by rw [htd]; exact hnext
      have htb : 0 ≤ (imax (y0 - y1) (y1 - y0) + 63).tdiv 64 ∧ (imax (y0 - y1) (y1 - y0) + 63).tdiv 64 ≤ 1000 := by rw [htd]; omega
      obtain ⟨b1, b2⟩ := htb
      obtain ⟨r1, r2⟩ := hbd
      have HN := hid hN2
      have Q2 := hid q2
      clear hpc hnext q2 hN2 htd
      go_wp2_with fail
      go_roundw
      case measure => simp [intOf]; omega
      case rel => exact ⟨k + 1, by omega, by go_num, by rw [HN.out], Q2.out.alloc _⟩
    · obtain rfl : k = l.length := by omega
      rw [List.take_of_length_le (Nat.le_refl _)]
      have Q2 := hid q2
      clear q2
      go_wp2_with fail
      go_ret
      exact ⟨rfl, Q2.out⟩
theorem slack_own31 (es : List Edge) (v : Value) {D : Nat} (w : World) (hlen : es.length ≤ 1000) (hp : w.ownsRow D 78 4 v es.length (edgeCells es)) (hnear : ∀ e ∈ es, Edge31 e) :
    Calls Try.prog 30 #[v] w fun e w' => e = .returned (.float .f64 (slackW es)) ∧ Same w w' := by
  rcases Nat.eq_zero_or_pos es.length with h0 | h0
  · have he := List.length_eq_zero_iff.1 h0
    subst he
    rcases hp.2 with ⟨rfl, _⟩ | ⟨g, cap, cur, rfl, _⟩
    · exact slack_none none 0 w
    · exact slack_none _ cap w
  · obtain ⟨g, cap, rfl, _, _⟩ := hp.form h0
    exact slack_cons31 es g 0 cap w h0 hlen (edges_own hp rfl h0) hnear

set_option maxRecDepth 100000 in
theorem drift_own31 (es : List Edge) (v : Value) {D : Nat} (w : World) (hlen : es.length ≤ 1000) (hp : w.ownsRow D 78 4 v es.length (edgeCells es)) (hnear : ∀ e ∈ es, Edge31 e) (hok : DriftOk es) :
    Calls Try.prog 31 #[v] w fun e w' => e = .returned (.float .f64 (driftW es)) ∧ Same w w' := by
  have HS := hid (slack_own31 es v w hlen hp hnear)
  obtain ⟨o1, o2, o3⟩ := hok
  unfold driftW
  clear hp hnear hlen
  generalize slackW es = s at *
  go_enter Try.func31, Try.ntmps31
  go_wp2_with fail
  refine HS.out.mono ?_
  rintro e w' ⟨rfl, t⟩
  have T := hid t
  clear t
  go_wp2_with fail
  go_ret
  exact ⟨rfl, T.out⟩
end Go.Proofs.Ytmgcbodlolnheaa

namespace Go.Proofs.Ytmgcbodlolnheaa
open Flt Go.RowKit
set_option linter.unusedVariables false

/-! ### a line between points in 64ths -/
/-- At most 480 pixels from the beginning, in 64ths. -/
def In480 (n : Int) : Prop := -30720 ≤ n ∧ n ≤ 30720
theorem In480.px {n : Int} (h : In480 n) : ab ((n : Rat) / 64) ≤ 480 := by
  have h1 := castLe h.1
  have h2 := castLe h.2
  push_cast at h1 h2
  exact ab_le (by grind) (by grind)
set_option maxHeartbeats 1000000 in
theorem line_EG {W H : Nat} (hW : 0 < W) {x0 y0 x1 y1 : Int} (h0 : In480 x0) (h1 : In480 y0) (h2 : In480 x1) (h3 : In480 y1) :
    FloOk H (wq x0) (wq y0) (wq x1) (wq y1) ∧ EG W H ((x0, y0), (x1, y1)) (dE ((x0, y0), (x1, y1))) (lE ((x0, y0), (x1, y1))) (floLine W H (wq x0) (wq y0) (wq x1) (wq y1)) := by
  obtain ⟨e, he⟩ : ∃ e : Pt × Pt, e = ((x0, y0), (x1, y1)) := ⟨_, rfl⟩
  rw [← he]
  have hh0 := hE'_nonneg e
  have hw0 := wE_nonneg e
  obtain ⟨r0, r1, r2⟩ := rhoE_bd e
  have hd0 : 0 ≤ dE e := by
    unfold dE
    have := Rat.mul_nonneg (show 0 ≤ 2304 + 482 * (hE' e + 4) by grind) r0
    grind
  have hl0 : 0 ≤ lE e := by unfold lE; grind
  have b0 := h0.px
  have b1 := h1.px
  have b2 := h2.px
  have b3 := h3.px
  obtain ⟨f0, v0, g0⟩ := wqV (n := x0) (by unfold In480 at h0; omega)
  obtain ⟨f1, v1, g1⟩ := wqV (n := y0) (by unfold In480 at h1; omega)
  obtain ⟨f2, v2, g2⟩ := wqV (n := x1) (by unfold In480 at h2; omega)
  obtain ⟨f3, v3, g3⟩ := wqV (n := y1) (by unfold In480 at h3; omega)
  by_cases hy : y0 = y1
  · obtain ⟨k1, k2⟩ := floLine_level W H f0 f1 f2 f3 (by rw [v1, v3, hy]) (by rw [v1]; grind) (by rw [v0]; grind) (by rw [v2]; grind)
    rw [k1]
    exact ⟨k2, EG.flat (by rw [he]; exact hy) hd0 hl0⟩
  · have hyc : ((y1 : Rat) - y0) ≠ 0 := by
      intro hc
      apply hy
      have : (y0 : Rat) = y1 := by grind
      exact Rat.intCast_inj.1 this
    obtain ⟨s, hs⟩ : ∃ s, s = ((x1 : Rat) - x0) / ((y1 : Rat) - y0) := ⟨_, rfl⟩
    have hmul : s * ((y1 : Rat) - y0) = (x1 : Rat) - x0 := by rw [hs, Rat.div_mul_cancel hyc]
    have hwE : ab (((x1 : Rat) - x0) / 64) = wE e := by rw [ab_64, he]; rfl
    have hhE : ab (((y1 : Rat) - y0) / 64) = hE' e := by rw [ab_64, he]; rfl
    have hd2 : (0 : Rat) < hE' e := by
      rw [← hhE, ab_64]
      have : ab ((y1 : Rat) - y0) ≠ 0 := by
        intro hz
        have h1 := (ab_iff.1 (show ab ((y1 : Rat) - y0) ≤ 0 by rw [hz]; exact Rat.le_refl))
        apply hyc
        grind
      have := ab_nonneg ((y1 : Rat) - y0)
      grind
    have hsh : ab s * hE' e = wE e := by
      rw [← hwE, ← hhE, ab_64, ab_64, ← hmul, ab_mul]
      grind
    obtain ⟨rs1, rs2⟩ := rhoE_slope hd2 hsh
    obtain ⟨ε, hε⟩ : ∃ ε, ε = 0 + ab s * 0 + (wE e + 1) * (6 * (1 / 16777216)) + (hE' e + 4) * (482 * (1 / 16777216)) := ⟨_, rfl⟩
    have hε0 : 0 ≤ ε := by rw [hε]; grind
    obtain ⟨D, hD⟩ : ∃ D, D = ((2304 + 482 * (hE' e + 4)) * rhoE e + 615 + 11 * hE' e) * (1 / 16777216) + 1 / 1000000000000000000 := ⟨_, rfl⟩
    have hD0 : 0 ≤ D := by
      have := Rat.mul_nonneg (show 0 ≤ 2304 + 482 * (hE' e + 4) by grind) r0
      rw [hD]
      grind
    have hεD : ε * rhoE e ≤ D := epsrho_rat (s := ab s) (ex := 0) (ey := 0) (w := wE e) (h := hE' e) rfl hε rs1 (by decide) (by decide +kernel) r0 r1 r2 (by grind) hD
    have z : ∀ x : Rat, ab (x - x) ≤ 0 := fun x => by have : x - x = 0 := by grind
                                                      rw [this]; decide +kernel
    have gapX : V (wq x1) = V (wq x0) ∨ (1 / 5000 ≤ ab (V (wq x1) - V (wq x0)) ∧ 1 / 5000 ≤ ab (V (wq x0) - V (wq x1))) := by
      rw [v0, v2]
      by_cases hx : x0 = x1
      · left; rw [hx]
      · right
        rcases Int.lt_or_le x0 x1 with c | c
        · have := castLe (show x0 + 1 ≤ x1 by omega)
          push_cast at this
          exact ⟨by rw [ab_of_nonneg (by grind)]; grind, by rw [ab_of_nonpos (by grind)]; grind⟩
        · have := castLe (show x1 + 1 ≤ x0 by omega)
          push_cast at this
          exact ⟨by rw [ab_of_nonpos (by grind)]; grind, by rw [ab_of_nonneg (by grind)]; grind⟩
    have dev0 : ab (V (wq x0) - (((x0 : Rat) / 64 - s * ((y0 : Rat) / 64)) + s * V (wq y0))) ≤ 0 := by
      rw [v0, v1, show (x0 : Rat) / 64 - s * ((y0 : Rat) / 64) + s * ((y0 : Rat) / 64) = (x0 : Rat) / 64 by grind]; exact z _
    have dev1 : ab (V (wq x1) - (((x0 : Rat) / 64 - s * ((y0 : Rat) / 64)) + s * V (wq y1))) ≤ 0 := by
      rw [v2, v3, show (x0 : Rat) / 64 - s * ((y0 : Rat) / 64) + s * ((y1 : Rat) / 64) = (x1 : Rat) / 64 by grind]; exact z _
    have hsx : 0 ≤ sgI x0 x1 * (V (wq x1) - V (wq x0)) := by
      rw [v0, v2]
      have h1 := abs_sg (a := x0) (b := x1)
      have h2 := ab_nonneg ((x1 : Rat) - x0)
      have : sgI x0 x1 * ((x1 : Rat) / 64 - (x0 : Rat) / 64) = (sgI x0 x1 * ((x1 : Rat) - x0)) / 64 := by grind
      rw [this, h1]
      grind
    have hdx : ab (V (wq x1) - V (wq x0)) = wE e := by rw [v0, v2, ← hwE]; congr 1; grind
    have hdy : ab (V (wq y1) - V (wq y0)) = hE' e := by rw [v1, v3, ← hhE]; congr 1; grind
    have hwx : sgI x0 x1 * (V (wq x1) - V (wq x0)) = wE e := by
      rw [← hdx]
      rcases sgI_or x0 x1 with c | c <;> rw [c] at hsx ⊢
      · rw [ab_of_nonneg (by grind)]; grind
      · rw [ab_of_nonpos (by grind)]; grind
    have hεe : 0 + ab (V (wq x1) - V (wq x0)) * (6 / 16777216) + (ab (V (wq y1) - V (wq y0)) + 3) * (482 / 16777216) ≤ ε := by
      rw [hdx, hdy, hε]
      grind
    rcases Int.lt_or_le y0 y1 with hlt | hle
    · have hc := castLe (show y0 + 1 ≤ y1 by omega)
      push_cast at hc
      have hst : StepG 482 0 ε ((x0 : Rat) / 64 - s * ((y0 : Rat) / 64)) s 1 (sgI x0 x1) (wq x0) (wq y0) (wq x1) (wq y1) := by
        refine ⟨.inl ⟨rfl, GSpan.of f0 f1 f2 f3 (by decide) (by rw [v0]; grind) (by rw [v2]; grind) (by rw [v1]; grind) (by rw [v3]; grind) (by rw [v1, v3]; grind) (g0.up (by decide)) ?_⟩, dev0, dev1, hsx, hεe⟩
        rcases gapX with h | h
        · exact .inl h
        · exact .inr h.1
      obtain ⟨p1, p2'⟩ := step_down (H := H) hW (by decide) (by decide) (sgI_or _ _) hst
      refine ⟨p1, ?_⟩
      have hsl : slopeR x0 y0 x1 y1 = s := slopeR_eq hlt hmul
      have hg : (x0 : Rat) / 64 - s * ((y0 : Rat) / 64) = ((x0 : Rat) - slopeR x0 y0 x1 y1 * (y0 : Rat)) / 64 := by rw [hsl]; grind
      rw [hwx, v1, v3, hg, ← hsl] at p2'
      have hm : ((y1 : Rat) - y0) / 64 = hE' e := by rw [← hhE, ab_of_nonneg (by grind)]
      have hEG := PF.toEG (e := e) (ρ := rhoE e) (D := D) (by decide) hD0 (fun Y _ _ => hεD) hlt (.inl rfl) hε0 r0 (by decide) p2'
        (fun r => by rw [he]; unfold dph; simp only; push_cast; grind) (fun X Y => by rw [he]; unfold mEdge; simp only; rw [if_pos hlt]) (by rw [hsl]; exact rs2)
      refine hEG.mono ?_ ?_
      · have e9 : ((y1 - y0 : Int) : Rat) / 64 = hE' e := by rw [← hm]; push_cast; grind
        rw [e9, hD]
        unfold dE
        grind
      · unfold lE
        have h1 := castLe (show (y1 + 63) / 64 - y0 / 64 ≤ (y1 - y0) / 64 + 2 by omega)
        have h2 := castLe (show 64 * ((y1 - y0) / 64) ≤ y1 - y0 by omega)
        push_cast at h1 h2 ⊢
        grind
    · have hlt : y1 < y0 := by omega
      have hc := castLe (show y1 + 1 ≤ y0 by omega)
      push_cast at hc
      have hst : StepG 482 0 ε ((x0 : Rat) / 64 - s * ((y0 : Rat) / 64)) s (-1) (sgI x0 x1) (wq x0) (wq y0) (wq x1) (wq y1) := by
        refine ⟨.inr ⟨rfl, GSpan.of f2 f3 f0 f1 (by decide) (by rw [v2]; grind) (by rw [v0]; grind) (by rw [v3]; grind) (by rw [v1]; grind) (by rw [v1, v3]; grind) (g2.up (by decide)) ?_⟩, dev0, dev1, hsx, hεe⟩
        rcases gapX with h | h
        · exact .inl h.symm
        · exact .inr h.2
      obtain ⟨p1, p2'⟩ := step_up (H := H) hW (by decide) (by decide) (sgI_or _ _) hst
      refine ⟨p1, ?_⟩
      have hsl : slopeR x1 y1 x0 y0 = s := slopeR_eq hlt (by grind)
      have hg : (x0 : Rat) / 64 - s * ((y0 : Rat) / 64) = ((x1 : Rat) - slopeR x1 y1 x0 y0 * (y1 : Rat)) / 64 := by rw [hsl]; grind
      rw [hwx, v1, v3, hg, ← hsl] at p2'
      have hm : ((y0 : Rat) - y1) / 64 = hE' e := by rw [← hhE, ab_of_nonpos (by grind)]; grind
      have hEG := PF.toEG (e := e) (ρ := rhoE e) (D := D) (by decide) hD0 (fun Y _ _ => hεD) hlt (.inr rfl) hε0 r0 (by decide) p2'
        (fun r => by rw [he]; unfold dph; simp only; push_cast; grind) (fun X Y => by rw [he]; unfold mEdge; simp only; rw [if_neg (by omega)]) (by rw [hsl]; exact rs2)
      refine hEG.mono ?_ ?_
      · have e9 : ((y0 - y1 : Int) : Rat) / 64 = hE' e := by rw [← hm]; push_cast; grind
        rw [e9, hD]
        unfold dE
        grind
      · unfold lE
        have h1 := castLe (show (y0 + 63) / 64 - y1 / 64 ≤ (y0 - y1) / 64 + 2 by omega)
        have h2 := castLe (show 64 * ((y0 - y1) / 64) ≤ y0 - y1 by omega)
        push_cast at h1 h2 ⊢
        grind
/-- A straight curve of three points is one line. -/
theorem quad_line {a b : Pt} (ha1 : In160 a.1) (ha2 : In160 a.2) (hb1 : In160 b.1) (hb2 : In160 b.2) :
    QuadOk (wq (2 * a.1)) (wq (2 * a.2)) (wq (a.1 + b.1)) (wq (a.2 + b.2)) (wq (2 * b.1)) (wq (2 * b.2)) ∧ quadPts (wq (2 * a.1)) (wq (2 * a.2)) (wq (a.1 + b.1)) (wq (a.2 + b.2)) (wq (2 * b.1)) (wq (2 * b.2)) = [(wq (2 * b.1), wq (2 * b.2))] := by
  unfold In160 at ha1 ha2 hb1 hb2
  obtain ⟨d1, d2, d3, d4⟩ := devSq_st (x0 := 2 * a.1) (x1 := a.1 + b.1) (x2 := 2 * b.1) (y0 := 2 * a.2) (y1 := a.2 + b.2) (y2 := 2 * b.2) (by omega) (by omega) (by omega) (by omega) (by omega) (by omega) (by omega) (by omega)
  have hv := d4 (by omega) (by omega)
  have hf : ¬ fge (fdevSq (wq (2 * a.1)) (wq (2 * a.2)) (wq (a.1 + b.1)) (wq (a.2 + b.2)) (wq (2 * b.1)) (wq (2 * b.2))) 1051361018 = true := by
    rw [fge_iff d2.fin cThird.1, hv]
    have := cThird.2
    grind
  refine ⟨⟨d1, fun h => absurd h hf⟩, ?_⟩
  unfold quadPts
  rw [if_neg hf]

/-! ### the calls, and what they leave -/
def kS (c : Bool) : Int := if c then 3 else 2
def scP (k : Int) (q : Pt) : Pt := (k * q.1, k * q.2)
/-- A straight curve along an edge. -/
def strOp (c : Bool) (e : Pt × Pt) : Int × List Int :=
  if c then (3, [2 * e.1.1 + e.2.1, 2 * e.1.2 + e.2.2, e.1.1 + 2 * e.2.1, e.1.2 + 2 * e.2.2, 3 * e.2.1, 3 * e.2.2]) else (2, [e.1.1 + e.2.1, e.1.2 + e.2.2, 2 * e.2.1, 2 * e.2.2])
def strOps (c : Bool) : List Pt → List (Int × List Int)
  | [] => []
  | a :: t => (0, [kS c * a.1, kS c * a.2]) :: ((edges (a :: t)).map (strOp c) ++ [(4, [])])
/-- What it adds. -/
def adS (c : Bool) (W : Nat) (H : Int) (e : Pt × Pt) : List (Nat × Nat) :=
  if c then polyF W H (cubW e.1 e.2) (wq (3 * e.1.1)) (wq (3 * e.1.2)) else floLine W H (wq (2 * e.1.1)) (wq (2 * e.1.2)) (wq (2 * e.2.1)) (wq (2 * e.2.2))
def In160P (q : Pt) : Prop := In160 q.1 ∧ In160 q.2
def bigE (c : Bool) (e : Pt × Pt) : Pt × Pt := (scP (kS c) e.1, scP (kS c) e.2)
theorem adS_EG (c : Bool) {W H : Nat} (hW : 0 < W) (hH : H ≤ 200) {e : Pt × Pt} (h1 : In160P e.1) (h2 : In160P e.2) : EG W H (bigE c e) (dE (bigE c e)) (lE (bigE c e)) (adS c W H e) := by
  obtain ⟨⟨a0, a1⟩, ⟨b0, b1⟩⟩ := e
  cases c
  · obtain ⟨k1, k2⟩ := h1
    obtain ⟨k3, k4⟩ := h2
    unfold In160 at k1 k2 k3 k4
    exact (line_EG hW (x0 := 2 * a0) (y0 := 2 * a1) (x1 := 2 * b0) (y1 := 2 * b1) (by unfold In480; simp only at *; omega) (by unfold In480; simp only at *; omega) (by unfold In480; simp only at *; omega) (by unfold In480; simp only at *; omega)).2
  · exact (cube_EG hW hH (a := (a0, a1)) (b := (b0, b1)) h1.1 h1.2 h2.1 h2.2).2.2
theorem step_str (c : Bool) (W : Nat) (H : Nat) (e : Pt × Pt) (fx fy : Nat) (l : List Nat) (h1 : In160P e.1) (h2 : In160P e.2) :
    stepOp W H (strOp c e) ⟨fx, fy, wq (kS c * e.1.1), wq (kS c * e.1.2), .flo l⟩ = ⟨fx, fy, wq (kS c * e.2.1), wq (kS c * e.2.2), .flo (fadds (adS c W H e) l)⟩ := by
  cases c
  · have hq := (quad_line h1.1 h1.2 h2.1 h2.2).2
    have e1 : stepOp W H (strOp false e) ⟨fx, fy, wq (kS false * e.1.1), wq (kS false * e.1.2), .flo l⟩ = ⟨fx, fy, wq (2 * e.2.1), wq (2 * e.2.2), linesB W H (quadPts (wq (2 * e.1.1)) (wq (2 * e.1.2)) (wq (e.1.1 + e.2.1)) (wq (e.1.2 + e.2.2)) (wq (2 * e.2.1)) (wq (2 * e.2.2))) (wq (2 * e.1.1)) (wq (2 * e.1.2)) (.flo l)⟩ := rfl
    rw [e1, hq]
    rfl
  · have e1 : stepOp W H (strOp true e) ⟨fx, fy, wq (kS true * e.1.1), wq (kS true * e.1.2), .flo l⟩ = ⟨fx, fy, wq (3 * e.2.1), wq (3 * e.2.2), linesB W H (cubW e.1 e.2) (wq (3 * e.1.1)) (wq (3 * e.1.2)) (.flo l)⟩ := rfl
    rw [e1, linesB_flo]
    rfl
theorem stepOk_str (c : Bool) {W H : Nat} (hW : 0 < W) (hH : H ≤ 200) (e : Pt × Pt) (fx fy : Nat) (l : List Nat) (hl : CellsBd l) (h1 : In160P e.1) (h2 : In160P e.2) :
    StepOk W H (strOp c e) ⟨fx, fy, wq (kS c * e.1.1), wq (kS c * e.1.2), .flo l⟩ := by
  have hEG := adS_EG c hW hH h1 h2
  have hb := hEG.bd
  obtain ⟨⟨a0, a1⟩, ⟨b0, b1⟩⟩ := e
  obtain ⟨k1, k2⟩ := h1
  obtain ⟨k3, k4⟩ := h2
  have K1 := k1
  have K2 := k2
  have K3 := k3
  have K4 := k4
  unfold In160 at K1 K2 K3 K4
  simp only at *
  have at1 : ∀ n : Int, -100000 ≤ n → n ≤ 100000 → Fok .quo (floatOfInt .f32 n) 1115684864 := fun n n1 n2 => (quo64 (by omega) (by omega)).1
  cases c
  · obtain ⟨q1, q2⟩ := quad_line (a := (a0, a1)) (b := (b0, b1)) k1 k2 k3 k4
    have lk := (line_EG (H := H) hW (x0 := 2 * a0) (y0 := 2 * a1) (x1 := 2 * b0) (y1 := 2 * b1) (by unfold In480; omega) (by unfold In480; omega) (by unfold In480; omega) (by unfold In480; omega)).1
    unfold StepOk
    refine ⟨?_, fun h => absurd h (by simp [strOp]), fun _ => ⟨q1, ?_⟩, fun h => absurd h (by simp [strOp]), fun h => absurd h (by simp [strOp])⟩
    · intro p hp
      have hp' : p ∈ [a0 + b0, a1 + b1, 2 * b0, 2 * b1] := hp
      simp only [List.mem_cons, List.not_mem_nil, or_false] at hp'
      have hp := hp'
      rcases hp with rfl | rfl | rfl | rfl <;> exact at1 _ (by omega) (by omega)
    · show LinesOk W H (quadPts (wq (2 * a0)) (wq (2 * a1)) (wq (a0 + b0)) (wq (a1 + b1)) (wq (2 * b0)) (wq (2 * b1))) (wq (2 * a0)) (wq (2 * a1)) (.flo l)
      simp only at q2
      rw [q2]
      exact ⟨⟨lk, (fadds_ok _ _ hl hb).1⟩, trivial⟩
  · obtain ⟨q1, q2, _⟩ := cube_EG (H := H) hW hH (a := (a0, a1)) (b := (b0, b1)) k1 k2 k3 k4
    unfold StepOk
    refine ⟨?_, fun h => absurd h (by simp [strOp]), fun h => absurd h (by simp [strOp]), fun _ => ⟨q1, ?_⟩, fun h => absurd h (by simp [strOp])⟩
    · intro p hp
      have hp' : p ∈ [2 * a0 + b0, 2 * a1 + b1, a0 + 2 * b0, a1 + 2 * b1, 3 * b0, 3 * b1] := hp
      simp only [List.mem_cons, List.not_mem_nil, or_false] at hp'
      have hp := hp'
      rcases hp with rfl | rfl | rfl | rfl | rfl | rfl <;> exact at1 _ (by omega) (by omega)
    · show LinesOk W H (cubW (a0, a1) (b0, b1)) (wq (3 * a0)) (wq (3 * a1)) (.flo l)
      exact linesOk_flo W H _ _ _ l hl hb q2
theorem run_str (c : Bool) {W H : Nat} (hW : 0 < W) (hH : H ≤ 200) (fx fy : Nat) (first : Pt) (hf : In160P first) : ∀ (tl : List Pt) (cur : Pt) (l : List Nat), In160P cur → (∀ q ∈ tl, In160P q) → CellsBd l →
    stepOps W H ((edgesFrom first cur tl).map (strOp c)) ⟨fx, fy, wq (kS c * cur.1), wq (kS c * cur.2), .flo l⟩ = ⟨fx, fy, wq (kS c * first.1), wq (kS c * first.2), .flo (fadds ((edgesFrom first cur tl).flatMap (adS c W H)) l)⟩ ∧
    StepsOpOk W H ((edgesFrom first cur tl).map (strOp c)) ⟨fx, fy, wq (kS c * cur.1), wq (kS c * cur.2), .flo l⟩ ∧ CellsBd (fadds ((edgesFrom first cur tl).flatMap (adS c W H)) l)
  | [], cur, l, hc, _, hl => by
    have h1 := step_str c W H (cur, first) fx fy l hc hf
    have h2 := stepOk_str c hW hH (cur, first) fx fy l hl hc hf
    have h3 := (fadds_ok _ _ hl (adS_EG c (H := H) hW hH (e := (cur, first)) hc hf).bd).2
    simp only [edgesFrom, List.map_cons, List.map_nil, stepOps, StepsOpOk, List.flatMap_cons, List.flatMap_nil, List.append_nil]
    exact ⟨h1, ⟨h2, trivial⟩, h3⟩
  | q :: tl, cur, l, hc, ht, hl => by
    have hq := ht q (by simp)
    have h1 := step_str c W H (cur, q) fx fy l hc hq
    have h2 := stepOk_str c hW hH (cur, q) fx fy l hl hc hq
    have h3 := (fadds_ok _ _ hl (adS_EG c (H := H) hW hH (e := (cur, q)) hc hq).bd).2
    obtain ⟨i1, i2, i3⟩ := run_str c hW hH fx fy first hf tl q (fadds (adS c W H (cur, q)) l) hq (fun q' h => ht q' (by simp [h])) h3
    simp only [edgesFrom, List.map_cons, stepOps, StepsOpOk, List.flatMap_cons]
    simp only at h1
    rw [h1, fadds_append]
    exact ⟨i1, ⟨h2, i2⟩, i3⟩
theorem wq_level (c : Bool) {q : Pt} (h : In160P q) (W : Nat) (H : Int) : floLine W H (wq (kS c * q.1)) (wq (kS c * q.2)) (wq (kS c * q.1)) (wq (kS c * q.2)) = [] ∧ FloOk H (wq (kS c * q.1)) (wq (kS c * q.2)) (wq (kS c * q.1)) (wq (kS c * q.2)) := by
  obtain ⟨h1, h2⟩ := h
  have b : ∀ n : Int, In160 n → F32 (wq (kS c * n)) ∧ ab (V (wq (kS c * n))) ≤ 100000 := by
    intro n hn
    unfold In160 at hn
    have hr : -30720 ≤ kS c * n ∧ kS c * n ≤ 30720 := by cases c <;> simp only [kS, if_true, Bool.false_eq_true, if_false] <;> omega
    obtain ⟨f, v, _⟩ := wqV (n := kS c * n) (by omega)
    have c1 := castLe hr.1
    have c2 := castLe hr.2
    rw [v]
    refine ⟨f, ?_⟩
    rw [ab_64]
    have : ab ((kS c * n : Int) : Rat) ≤ 30720 := by
      push_cast at c1 c2 ⊢
      exact ab_le (by grind) (by grind)
    grind
  obtain ⟨f1, b1⟩ := b _ h1
  obtain ⟨f2, b2⟩ := b _ h2
  exact floLine_level W H f1 f2 f1 f2 rfl b2 b1 b1
/-- The mask of a closed path of straight curves. -/
theorem maskR_str (c : Bool) {W H : Nat} (hW : 0 < W) (hH : H ≤ 200) {p : List Pt} (hne : p ≠ []) (hp : ∀ q ∈ p, In160P q) :
    maskR true W H (strOps c p) = floBytes 0 (fadds ((edges p).flatMap (adS c W H)) (List.replicate (W * H) 0)) ∧ MaskROk true W H (strOps c p) := by
  cases p with
  | nil => exact absurd rfl hne
  | cons a t =>
    have ha := hp a (by simp)
    obtain ⟨r1, r2, r3⟩ := run_str c (H := H) hW hH (wq (kS c * a.1)) (wq (kS c * a.2)) a ha t a (List.replicate (W * H) 0) ha (fun q hq => hp q (by simp [hq])) (CellsBd.zero _)
    obtain ⟨w1, w2⟩ := wq_level c ha W H
    have e0 : stepOp W H (0, [kS c * a.1, kS c * a.2]) (startS true (W * H)) = ⟨wq (kS c * a.1), wq (kS c * a.2), wq (kS c * a.1), wq (kS c * a.2), .flo (List.replicate (W * H) 0)⟩ := rfl
    have eE : edges (a :: t) = edgesFrom a a t := rfl
    have e4 : ∀ l, stepOp W H (4, []) ⟨wq (kS c * a.1), wq (kS c * a.2), wq (kS c * a.1), wq (kS c * a.2), .flo l⟩ = ⟨wq (kS c * a.1), wq (kS c * a.2), wq (kS c * a.1), wq (kS c * a.2), .flo l⟩ := by
      intro l
      have : stepOp W H (4, []) ⟨wq (kS c * a.1), wq (kS c * a.2), wq (kS c * a.1), wq (kS c * a.2), .flo l⟩ = ⟨wq (kS c * a.1), wq (kS c * a.2), wq (kS c * a.1), wq (kS c * a.2), .flo (fadds (floLine W H (wq (kS c * a.1)) (wq (kS c * a.2)) (wq (kS c * a.1)) (wq (kS c * a.2))) l)⟩ := rfl
      rw [this, w1]
      rfl
    have hst : stepOps W H (strOps c (a :: t)) (startS true (W * H)) = ⟨wq (kS c * a.1), wq (kS c * a.2), wq (kS c * a.1), wq (kS c * a.2), .flo (fadds ((edges (a :: t)).flatMap (adS c W H)) (List.replicate (W * H) 0))⟩ := by
      rw [strOps, stepOps, e0, stepOps_append, eE, r1]
      simp only [stepOps]
      exact e4 _
    refine ⟨by rw [maskR, hst]; rfl, ?_, ?_⟩
    · rw [strOps, StepsOpOk, e0, StepsOpOk_append, eE, r1]
      have hb : ∀ n : Int, In160 n → Fok .quo (floatOfInt .f32 (kS c * n)) 1115684864 := by
        intro n hn
        unfold In160 at hn
        have hr : -30720 ≤ kS c * n ∧ kS c * n ≤ 30720 := by cases c <;> simp only [kS, if_true, Bool.false_eq_true, if_false] <;> omega
        exact (quo64 (by omega) (by omega)).1
      unfold StepOk
      refine ⟨⟨?_, fun h => absurd h (by simp), fun h => absurd h (by simp), fun h => absurd h (by simp), fun h => absurd h (by simp)⟩, r2, ?_⟩
      · intro n hn
        simp only [List.mem_cons, List.not_mem_nil, or_false] at hn
        rcases hn with rfl | rfl
        · exact hb _ ha.1
        · exact hb _ ha.2
      · refine ⟨⟨fun n hn => by simp at hn, fun h => absurd h (by simp), fun h => absurd h (by simp), fun h => absurd h (by simp), fun _ => ⟨w2, ?_⟩⟩, trivial⟩
        show FaddsOk (floLine W H (wq (kS c * a.1)) (wq (kS c * a.2)) (wq (kS c * a.1)) (wq (kS c * a.2))) _
        rw [w1]
        trivial
    · rw [hst]
      exact floBytes_ok _ 0 r3 (bd_zero _)
theorem edges_map (f : Pt → Pt) (p : List Pt) : edges (p.map f) = (edges p).map fun e => (f e.1, f e.2) := by
  have key : ∀ (t : List Pt) (first cur : Pt), edgesFrom (f first) (f cur) (t.map f) = (edgesFrom first cur t).map fun e => (f e.1, f e.2) := by
    intro t
    induction t with
    | nil => intro first cur; rfl
    | cons q t ih => intro first cur; simp only [List.map_cons, edgesFrom]; rw [ih]
  cases p with
  | nil => rfl
  | cons a t => exact key t a a

/-! ### how near -/
def lev1 (j : Nat) : Int := if j ≤ 3 then 2 else 3
def lev2 (j : Nat) : Int := if j = 0 then 2 else if j ≤ 4 then 3 else 4
/-- What an edge may cost, in parts of 2 ^ 24. -/
def cc1 (j : Nat) : Rat := if j ≤ 3 then 4460 else 4860
def cc2 (j : Nat) : Rat := if j = 0 then 3080 else if j ≤ 4 then 3500 else 6320
def ccS (cc : Nat → Rat) : Nat → Nat → Rat
  | 0, _ => 0
  | n + 1, j => cc j + ccS cc n (j + 1)
theorem p2_lev : p2 ((2 : Int) - 25) = 2 * (1 / 16777216) ∧ p2 ((3 : Int) - 25) = 4 * (1 / 16777216) ∧ p2 ((4 : Int) - 25) = 8 * (1 / 16777216) := by
  have h23 : p2 (-23) = 1 / 8388608 := by have := p2_neg 23; push_cast at this ⊢; grind
  have h22 : p2 (-22) = 1 / 4194304 := by have := p2_neg 22; push_cast at this ⊢; grind
  have h21 : p2 (-21) = 1 / 2097152 := by have := p2_neg 21; push_cast at this ⊢; grind
  rw [show (2 : Int) - 25 = -23 by decide, show (3 : Int) - 25 = -22 by decide, show (4 : Int) - 25 = -21 by decide, h23, h22, h21]
  refine ⟨?_, ?_, ?_⟩ <;> grind
/-- One edge's cost, in parts of 2 ^ 24. -/
def costU (m w h ρ : Rat) : Rat := m * (1005 / 1000) * (w * (1000001 / 1000000) + (h + 34) * (3 + 1 / 10000)) + h * (1005 / 10) + (10025 / 10000) * (h * 26 + 492 + ((2304 + 482 * (h + 4)) * ρ + 615 + 11 * h))
theorem rho_cases {w h ρ : Rat} (h0 : 0 ≤ h) (w0 : 0 ≤ w) (w1 : w ≤ 960) (r0 : 0 ≤ ρ) (r1 : ρ ≤ 1) (rw' : ρ * w ≤ h) : (w ≤ 100 ∧ h * ρ ≤ h) ∨ (100 * ρ ≤ h ∧ h ≤ 20 ∧ h * ρ ≤ h / 5) ∨ (20 ≤ h ∧ h * ρ ≤ h) := by
  have k1 := Rat.mul_le_mul_of_nonneg_left r1 h0
  rcases Rat.le_total (a := w) (b := 100) with c | c
  · exact .inl ⟨c, by grind⟩
  · rcases Rat.le_total (a := h) (b := 20) with d | d
    · have k2 := Rat.mul_le_mul_of_nonneg_left c r0
      have k3 := Rat.mul_le_mul_of_nonneg_right d r0
      exact .inr (.inl ⟨by grind, d, by grind⟩)
    · exact .inr (.inr ⟨d, by grind⟩)
theorem cost2_rat {m w h ρ N : Rat} (h0 : 0 ≤ h) (w0 : 0 ≤ w) (w1 : w ≤ 960) (r0 : 0 ≤ ρ) (r1 : ρ ≤ 1) (rw' : ρ * w ≤ h) (hN : h ≤ N - 1) (hN3 : 3 ≤ N) :
    costU 2 w h ρ ≤ 3080 + 1315 * N ∧ costU 4 w h ρ ≤ 3500 + 1315 * N ∧ costU 8 w h ρ ≤ 6320 + 1315 * N := by
  unfold costU
  have e : (2304 + 482 * (h + 4)) * ρ = 4232 * ρ + 482 * (h * ρ) := by grind
  rw [e]
  rcases rho_cases h0 w0 w1 r0 r1 rw' with ⟨c1, c2⟩ | ⟨c1, c2, c3⟩ | ⟨c1, c2⟩
  · generalize h * ρ = z at *
    refine ⟨?_, ?_, ?_⟩ <;> grind
  · generalize h * ρ = z at *
    refine ⟨?_, ?_, ?_⟩ <;> grind
  · generalize h * ρ = z at *
    refine ⟨?_, ?_, ?_⟩ <;> grind
theorem cost1_rat {m w h ρ N : Rat} (h0 : 0 ≤ h) (w0 : 0 ≤ w) (w1 : w ≤ 960) (r0 : 0 ≤ ρ) (r1 : ρ ≤ 1) (rw' : ρ * w ≤ h) (hN : h ≤ N - 1) (hN3 : N ≤ 2) :
    costU 2 w h ρ ≤ 4460 + 1315 * N ∧ costU 4 w h ρ ≤ 4860 + 1315 * N := by
  unfold costU
  have e : (2304 + 482 * (h + 4)) * ρ = 4232 * ρ + 482 * (h * ρ) := by grind
  rw [e]
  rcases rho_cases h0 w0 w1 r0 r1 rw' with ⟨c1, c2⟩ | ⟨c1, c2, c3⟩ | ⟨c1, c2⟩
  · generalize h * ρ = z at *
    refine ⟨?_, ?_⟩ <;> grind
  · generalize h * ρ = z at *
    refine ⟨?_, ?_⟩ <;> grind
  · grind
/-- What all the edges cost. -/
theorem cost_sum {lev : Nat → Int} {cc : Nat → Rat} {N : Rat} (hc : ∀ j, j < 12 → ∀ e : Pt × Pt, wE e ≤ 960 → hE' e ≤ N - 1 → (1005 / 1000) * (lE e * p2 (lev j - 25)) + (1005 / 10) * (1 / 16777216) * hE' e + (10025 / 10000) * dE e ≤ (cc j + 1315 * N) * (1 / 16777216) + 1 / 10000000000000000) :
    ∀ (t : List (Pt × Pt)) (j : Nat), j + t.length ≤ 12 → (∀ e ∈ t, wE e ≤ 960 ∧ hE' e ≤ N - 1) →
      (1005 / 1000) * costE lE lev t j + (1005 / 10) * (1 / 16777216) * sumE hE' t + (10025 / 10000) * sumE dE t ≤ (ccS cc t.length j + 1315 * (t.length * N)) * (1 / 16777216) + t.length * (1 / 10000000000000000)
  | [], j, _, _ => by
    simp only [costE, sumE, List.length_nil, ccS]
    push_cast
    grind
  | e :: t, j, hj, he => by
    rw [List.length_cons] at hj
    have h1 := cost_sum hc t (j + 1) (by omega) fun e' he' => he e' (by simp [he'])
    obtain ⟨a, b⟩ := he e (by simp)
    have h2 := hc j (by omega) e a b
    rw [costE, sumE, sumE, List.length_cons, ccS]
    push_cast
    grind
theorem ccS_bd {cc : Nat → Rat} (h0 : ∀ j, 0 ≤ cc j) : ∀ (n m j : Nat), n ≤ m → ccS cc n j ≤ ccS cc m j
  | 0, m, j, _ => by
    induction m generalizing j with
    | zero => exact Rat.le_refl
    | succ m ih =>
      have := ih (j + 1) (Nat.zero_le _)
      have := h0 j
      simp only [ccS] at *
      grind
  | n + 1, 0, j, h => by omega
  | n + 1, m + 1, j, h => by
    have := ccS_bd h0 n m (j + 1) (by omega)
    simp only [ccS]
    grind
theorem ccS_12 : ccS cc1 12 0 = 56720 ∧ ccS cc2 12 0 = 61320 := by
  constructor <;> decide +kernel
theorem unit_rat {m l h d ρ w L P u C : Rat} (hu : u = 1 / 16777216) (hP : P = m * u) (hL : L = w * (1000001 / 1000000) + (h + 34) * (3 + 1 / 10000)) (hd : d = (h * 26 + 492 + ((2304 + 482 * (h + 4)) * ρ + 615 + 11 * h)) * u + 1 / 100000000000000000) (hc : costU m w h ρ ≤ C) :
    (1005 / 1000) * (L * P) + (1005 / 10) * u * h + (10025 / 10000) * d ≤ C * u + 1 / 10000000000000000 := by
  have hu0 : 0 < u := by subst hu; decide +kernel
  have k := Rat.mul_le_mul_of_nonneg_right hc (Rat.le_of_lt hu0)
  unfold costU at k
  subst hP hL hd
  generalize (2304 + 482 * (h + 4)) * ρ = z at *
  grind
theorem cost2_edge {N : Rat} (hN3 : 3 ≤ N) : ∀ j, j < 12 → ∀ e : Pt × Pt, wE e ≤ 960 → hE' e ≤ N - 1 → (1005 / 1000) * (lE e * p2 (lev2 j - 25)) + (1005 / 10) * (1 / 16777216) * hE' e + (10025 / 10000) * dE e ≤ (cc2 j + 1315 * N) * (1 / 16777216) + 1 / 10000000000000000 := by
  intro j hj e hw hh
  obtain ⟨r0, r1, r2⟩ := rhoE_bd e
  obtain ⟨k1, k2, k3⟩ := cost2_rat (m := 0) (hE'_nonneg e) (wE_nonneg e) hw r0 r1 r2 hh hN3
  obtain ⟨l1, l2, l3⟩ := p2_lev
  unfold lev2 cc2
  by_cases c0 : j = 0
  · rw [if_pos c0, if_pos c0]
    exact unit_rat (m := 2) (l := 0) rfl l1 rfl rfl k1
  · rw [if_neg c0, if_neg c0]
    by_cases c4 : j ≤ 4
    · rw [if_pos c4, if_pos c4]
      exact unit_rat (m := 4) (l := 0) rfl l2 rfl rfl k2
    · rw [if_neg c4, if_neg c4]
      exact unit_rat (m := 8) (l := 0) rfl l3 rfl rfl k3
theorem cost1_edge {N : Rat} (hN3 : N ≤ 2) : ∀ j, j < 12 → ∀ e : Pt × Pt, wE e ≤ 960 → hE' e ≤ N - 1 → (1005 / 1000) * (lE e * p2 (lev1 j - 25)) + (1005 / 10) * (1 / 16777216) * hE' e + (10025 / 10000) * dE e ≤ (cc1 j + 1315 * N) * (1 / 16777216) + 1 / 10000000000000000 := by
  intro j hj e hw hh
  obtain ⟨r0, r1, r2⟩ := rhoE_bd e
  obtain ⟨k1, k2⟩ := cost1_rat (m := 0) (hE'_nonneg e) (wE_nonneg e) hw r0 r1 r2 hh hN3
  obtain ⟨l1, l2, l3⟩ := p2_lev
  unfold lev1 cc1
  by_cases c4 : j ≤ 3
  · rw [if_pos c4, if_pos c4]
    exact unit_rat (m := 2) (l := 0) rfl l1 rfl rfl k1
  · rw [if_neg c4, if_neg c4]
    exact unit_rat (m := 4) (l := 0) rfl l2 rfl rfl k2
/-- From the parts to the whole. -/
theorem tot_rat {S0 Sh Sd Wh WH κ u T : Rat} (hu : u = 1 / 16777216) (hS0 : 0 ≤ S0) (hSh : 0 ≤ Sh) (hSd : 0 ≤ Sd) (hWh : Wh ≤ 100 * Sh) (hWH0 : 0 ≤ WH) (hWH : WH ≤ 40000) (hκ : κ = (1006 / 1000) * (S0 + 100 * Sh * u + 40000 * Sd * u) + 1 / 100000000)
    (hT : T = S0 + (Wh + WH * (Sd + 2 * κ)) * u + WH * (1 / 1000000000000000000000000000000)) : T ≤ κ ∧ T + Sd ≤ (1005 / 1000) * S0 + (1005 / 10) * u * Sh + (10025 / 10000) * Sd + 1 / 1000000000 := by
  have hκ0 : 0 ≤ κ := by subst hu; grind
  have k1 := Rat.mul_le_mul_of_nonneg_right hWH (show 0 ≤ Sd + 2 * κ by grind)
  subst hT
  generalize WH * (Sd + 2 * κ) = z at *
  subst hu
  constructor <;> grind
theorem rows_h {e : Pt × Pt} : hE' e ≤ (rowsE e : Rat) - 1 := by
  have h1 : ab ((e.2.2 : Rat) - e.1.2) = ((imax (e.1.2 - e.2.2) (e.2.2 - e.1.2) : Int) : Rat) := by
    rcases Int.le_total e.1.2 e.2.2 with h | h
    · have hc := castLe h
      rw [ab_of_nonneg (by grind)]
      have : imax (e.1.2 - e.2.2) (e.2.2 - e.1.2) = e.2.2 - e.1.2 := by unfold imax; split <;> omega
      rw [this]; push_cast; rfl
    · have hc := castLe h
      rw [ab_of_nonpos (by grind)]
      have : imax (e.1.2 - e.2.2) (e.2.2 - e.1.2) = e.1.2 - e.2.2 := by unfold imax; split <;> omega
      rw [this]; push_cast; grind
  unfold hE' rowsE
  rw [h1]
  generalize imax (e.1.2 - e.2.2) (e.2.2 - e.1.2) = d
  have h2 := castLe (show d ≤ 64 * ((d + 63) / 64) by omega)
  push_cast at h2 ⊢
  grind
theorem dR_two {e : Pt × Pt} (r : Int) : ab (dR (r - 1) e) + ab (dR r e) ≤ 2 := by
  have h1 := dph_le (r - 1) e
  have h2 := dph_le r e
  unfold dR
  grind
theorem dR_one {e : Pt × Pt} (h : rowsE e ≤ 2) (r : Int) : ab (dR (r - 1) e) + ab (dR r e) ≤ 1 := by
  obtain ⟨⟨x0, y0⟩, ⟨x1, y1⟩⟩ := e
  have hd : y0 - y1 ≤ 64 ∧ y1 - y0 ≤ 64 := by
    unfold rowsE imax at h
    simp only at h
    split at h <;> omega
  unfold dR dph
  simp only
  have a1 := ph_cases (r - 1) y0
  have a2 := ph_cases (r - 1) y1
  have a3 := ph_cases r y0
  have a4 := ph_cases r y1
  rw [ab_64, ab_64]
  rcases Int.le_total y0 y1 with c | c
  · have k1 := castLe (show 0 ≤ ph (r - 1) y1 - ph (r - 1) y0 by omega)
    have k2 := castLe (show 0 ≤ ph r y1 - ph r y0 by omega)
    have k3 := castLe (show ph (r - 1) y1 - ph (r - 1) y0 + (ph r y1 - ph r y0) ≤ 64 by omega)
    rw [cast_zero] at k1 k2
    push_cast at k3
    rw [ab_of_nonneg k1, ab_of_nonneg k2]
    push_cast at k3 ⊢
    grind
  · have k1 := castLe (show ph (r - 1) y1 - ph (r - 1) y0 ≤ 0 by omega)
    have k2 := castLe (show ph r y1 - ph r y0 ≤ 0 by omega)
    have k3 := castLe (show -64 ≤ ph (r - 1) y1 - ph (r - 1) y0 + (ph r y1 - ph r y0) by omega)
    rw [cast_zero] at k1 k2
    push_cast at k3
    rw [ab_of_nonpos k1, ab_of_nonpos k2]
    push_cast at k3 ⊢
    grind
theorem wE_bd {e : Pt × Pt} (h : Edge31 e) (h2 : -30720 ≤ e.1.1 ∧ e.1.1 ≤ 30720 ∧ -30720 ≤ e.2.1 ∧ e.2.1 ≤ 30720) : wE e ≤ 960 := by
  obtain ⟨a, b, c, d⟩ := h2
  have c1 := castLe a
  have c2 := castLe b
  have c3 := castLe c
  have c4 := castLe d
  push_cast at c1 c2 c3 c4
  unfold wE
  have : ab ((e.2.1 : Rat) - e.1.1) ≤ 61440 := ab_le (by grind) (by grind)
  grind

/-! ### the whole -/
/-- 'laws': how far the mask may be. -/
def farS (es : List (Pt × Pt)) : Nat := fop64 .sub (fop64 .mul 4611686018427387904 (driftW es)) 4611686018427387904
structure FarOk (es : List (Pt × Pt)) : Prop where
  o1 : Fok64 .mul 4611686018427387904 (driftW es)
  o2 : Fok64 .sub (fop64 .mul 4611686018427387904 (driftW es)) 4611686018427387904
theorem far_num {es : List (Pt × Pt)} (h : ∀ e ∈ es, Edge31 e) (hn : es.length ≤ 200) : DriftOk es ∧ FarOk es ∧ F64 (farS es) ∧ ab (VV (farS es) - (2 + (rowsAll es 0 : Rat) * es.length / 50)) ≤ 1 / 1000000000 := by
  obtain ⟨d1, d2, d3, _⟩ := drift_num31 h hn
  obtain ⟨r0, r1⟩ := rowsAll_bd31 h
  obtain ⟨t1, t2⟩ := two64
  have c0 := castLe r0
  have c1 := castLe r1
  rw [cast_zero] at c0
  push_cast at c1
  have hn' : (es.length : Rat) ≤ 200 := by exact_mod_cast hn
  have hn0 : (0 : Rat) ≤ es.length := by exact_mod_cast Nat.zero_le _
  have m0 := Rat.mul_nonneg c0 hn0
  have m1 := Rat.mul_le_mul_of_nonneg_right c1 hn0
  obtain ⟨a, b⟩ := ab_iff.1 d3
  have h1022 : (1000000000000000000000000000000 : Rat) ≤ p2 1022 := big1022 Rat.le_refl
  obtain ⟨o1, q1⟩ := fmul64_ok t1 d2 (by rw [t2]; exact Rat.le_trans (ab_le (y := 1000000) (by grind) (by grind)) (by grind))
  rw [t2] at q1
  have n1 := q1.near2 (M := 100000) (ab_le (by grind) (by grind))
  obtain ⟨e, f⟩ := ab_iff.1 n1
  obtain ⟨o2, q2⟩ := fsub64_ok q1.fin t1 (by rw [t2]; exact Rat.le_trans (ab_le (y := 1000000) (by grind) (by grind)) (by grind))
  rw [t2] at q2
  have n2 := q2.near2 (M := 100000) (ab_le (by grind) (by grind))
  obtain ⟨e2, f2⟩ := ab_iff.1 n2
  refine ⟨d1, ⟨o1, o2⟩, q2.fin, ?_⟩
  unfold farS
  exact ab_le (by grind) (by grind)
/-- The small edge of a great one. -/
def unE (c : Bool) (e : Pt × Pt) : Pt × Pt := ((e.1.1 / kS c, e.1.2 / kS c), (e.2.1 / kS c, e.2.2 / kS c))
theorem unE_big (c : Bool) (e : Pt × Pt) : unE c (bigE c e) = e := by
  obtain ⟨⟨a0, a1⟩, ⟨b0, b1⟩⟩ := e
  unfold unE bigE scP
  cases c
  · have h : ∀ x : Int, 2 * x / 2 = x := fun x => by omega
    simp [kS, h]
  · have h : ∀ x : Int, 3 * x / 3 = x := fun x => by omega
    simp [kS, h]
theorem big_bd (c : Bool) {e : Pt × Pt} (h1 : In160P e.1) (h2 : In160P e.2) : Edge31 (bigE c e) ∧ Edge16 (bigE c e) ∧ wE (bigE c e) ≤ 960 ∧ hE' (bigE c e) ≤ 960 := by
  obtain ⟨⟨a0, a1⟩, ⟨b0, b1⟩⟩ := e
  obtain ⟨k1, k2⟩ := h1
  obtain ⟨k3, k4⟩ := h2
  unfold In160 at k1 k2 k3 k4
  simp only at k1 k2 k3 k4
  have hr : ∀ n : Int, -10240 ≤ n ∧ n ≤ 10240 → -30720 ≤ kS c * n ∧ kS c * n ≤ 30720 := by
    intro n hn
    cases c <;> simp only [kS, if_true, Bool.false_eq_true, if_false] <;> omega
  have r1 := hr _ k1
  have r2 := hr _ k2
  have r3 := hr _ k3
  have r4 := hr _ k4
  have e31 : Edge31 (bigE c ((a0, a1), (b0, b1))) := by unfold Edge31 bigE scP; simp only; omega
  refine ⟨e31, by unfold Edge16 bigE scP; simp only; omega, wE_bd e31 (by unfold bigE scP; simp only; omega), ?_⟩
  have c1 := castLe r2.1
  have c2 := castLe r2.2
  have c3 := castLe r4.1
  have c4 := castLe r4.2
  unfold hE' bigE scP
  simp only
  have : ab (((kS c * b1 : Int) : Rat) - ((kS c * a1 : Int) : Rat)) ≤ 61440 := by
    push_cast at c1 c2 c3 c4 ⊢
    exact ab_le (by grind) (by grind)
  grind
theorem sumE_nonneg {f : Pt × Pt → Rat} {s : List (Pt × Pt)} (h : ∀ e ∈ s, 0 ≤ f e) : 0 ≤ sumE f s := by
  have := sumE_le (s := s) (f := fun _ => (0 : Rat)) (g := f) h
  rw [sumE_const] at this
  grind
theorem dE_bd {e : Pt × Pt} (hh : hE' e ≤ 960) : 0 ≤ dE e ∧ dE e ≤ 1 / 32 := by
  obtain ⟨r0, r1, _⟩ := rhoE_bd e
  have h0 := hE'_nonneg e
  have k1 := Rat.mul_nonneg (show 0 ≤ 2304 + 482 * (hE' e + 4) by grind) r0
  have k2 := Rat.mul_le_mul_of_nonneg_left r1 (show 0 ≤ 2304 + 482 * (hE' e + 4) by grind)
  unfold dE
  constructor <;> grind
theorem lev1_ok {j : Nat} (hj : j < 12) {Δ κ : Rat} (h : 2 * Δ + κ ≤ 4 / 10) : ((1 : Rat) * j + 2) / 2 + 2 * Δ + (1 * (10003 / 10000) + 1 / 1000000000000000000) + κ ≤ p2 (lev1 j) ∧ -120 ≤ lev1 j ∧ lev1 j ≤ 100 := by
  have h2 : p2 2 = 4 := by have := p2_val 2; simpa using this
  have h3 : p2 3 = 8 := by have := p2_val 3; simpa using this
  unfold lev1
  split
  · rename_i hc
    have : (j : Rat) ≤ 3 := by exact_mod_cast hc
    rw [h2]
    exact ⟨by grind, by decide, by decide⟩
  · have : (j : Rat) ≤ 11 := by exact_mod_cast (show j ≤ 11 by omega)
    rw [h3]
    exact ⟨by grind, by decide, by decide⟩
theorem lev2_ok {j : Nat} (hj : j < 12) {Δ κ : Rat} (h : 2 * Δ + κ ≤ 99 / 100) : ((2 : Rat) * j + 2) / 2 + 2 * Δ + (2 * (10003 / 10000) + 1 / 1000000000000000000) + κ ≤ p2 (lev2 j) ∧ -120 ≤ lev2 j ∧ lev2 j ≤ 100 := by
  have h2 : p2 2 = 4 := by have := p2_val 2; simpa using this
  have h3 : p2 3 = 8 := by have := p2_val 3; simpa using this
  have h4 : p2 4 = 16 := by have := p2_val 4; simpa using this
  unfold lev2
  split
  · rename_i hc
    subst hc
    rw [h2]
    push_cast
    exact ⟨by grind, by decide, by decide⟩
  · split
    · rename_i hc
      have : (j : Rat) ≤ 4 := by exact_mod_cast hc
      rw [h3]
      exact ⟨by grind, by decide, by decide⟩
    · have : (j : Rat) ≤ 11 := by exact_mod_cast (show j ≤ 11 by omega)
      rw [h4]
      exact ⟨by grind, by decide, by decide⟩
theorem costE_le {lev : Nat → Int} (hl : ∀ j, j < 12 → p2 (lev j - 25) ≤ 8 * (1 / 16777216)) : ∀ (t : List (Pt × Pt)) (j : Nat), j + t.length ≤ 12 → (∀ e ∈ t, 0 ≤ lE e ∧ lE e ≤ 4000) → costE lE lev t j ≤ t.length * (4000 * (8 * (1 / 16777216)))
  | [], _, _, _ => by
    simp only [costE, List.length_nil]
    push_cast
    grind
  | e :: t, j, hj, h => by
    rw [List.length_cons] at hj
    have h1 := costE_le hl t (j + 1) (by omega) fun e' he' => h e' (by simp [he'])
    obtain ⟨a, b⟩ := h e (by simp)
    have h2 := hl j (by omega)
    have h3 := Rat.mul_le_mul_of_nonneg_left h2 a
    have h4 := Rat.mul_le_mul_of_nonneg_right b (show (0 : Rat) ≤ 8 * (1 / 16777216) by decide +kernel)
    rw [costE, List.length_cons]
    push_cast
    grind
theorem lev_8 (j : Nat) : p2 (lev1 j - 25) ≤ 8 * (1 / 16777216) ∧ p2 (lev2 j - 25) ≤ 8 * (1 / 16777216) := by
  obtain ⟨l1, l2, l3⟩ := p2_lev
  unfold lev1 lev2
  constructor
  · split
    · rw [l1]; decide +kernel
    · rw [l2]; decide +kernel
  · split
    · rw [l1]; decide +kernel
    · split
      · rw [l2]; decide +kernel
      · rw [l3]; decide +kernel
theorem byte_straight {A v b E n N F : Rat} (h1 : ab (255 * capR v - b) ≤ 1 + 1 / 50000) (h2 : ab (v - A) ≤ E) (hE : E ≤ (61320 + 1315 * (n * N)) * (1 / 16777216) + 1 / 100000000) (hnN : 0 ≤ n * N) (hF : ab (F - (2 + N * n / 50)) ≤ 1 / 1000000000) : ab (255 * capR A - b) ≤ 1 + 1 / 50000 + 255 * E ∧ 1 + 1 / 50000 + 255 * E + 1 / 100 ≤ F := by
  have h3 := cap_near h2
  obtain ⟨a1, a2⟩ := ab_iff.1 h1
  obtain ⟨b1, b2⟩ := ab_iff.1 h3
  obtain ⟨c1, c2⟩ := ab_iff.1 hF
  refine ⟨ab_le (by grind) (by grind), ?_⟩
  have : N * n = n * N := by grind
  rw [this] at c1 c2
  generalize n * N = z at *
  grind
/-- Each pixel is near the area that the lines go round. -/
theorem str_all (c : Bool) {W H : Nat} (hW : 0 < W) (hW2 : W ≤ 200) (hH : H ≤ 200) {p : List Pt} (hne : p ≠ []) (hp : ∀ q ∈ p, In160P q) (hlen : p.length ≤ 12) :
    NearAll (maskR true W H (strOps c p)) W H (edges (p.map (scP (kS c)))) (farS (edges (p.map (scP (kS c))))) := by
  intro Y X hY hX
  have hH0 : 0 < H := by omega
  obtain ⟨gs, hgs⟩ : ∃ gs, gs = edges (p.map (scP (kS c))) := ⟨_, rfl⟩
  have hmap : gs = (edges p).map (bigE c) := by rw [hgs, edges_map]; rfl
  have hmem : ∀ g ∈ gs, ∃ e, In160P e.1 ∧ In160P e.2 ∧ g = bigE c e := by
    intro g hg
    rw [hmap] at hg
    obtain ⟨e, he, rfl⟩ := List.mem_map.1 hg
    obtain ⟨h1, h2⟩ := mem_edges he
    exact ⟨e, hp _ h1, hp _ h2, rfl⟩
  have hgl : gs.length = p.length := by rw [hgs, length_edges, List.length_map]
  have hE : ∀ g ∈ gs, EG W H g (dE g) (lE g) (adS c W H (unE c g)) := by
    intro g hg
    obtain ⟨e, h1, h2, rfl⟩ := hmem g hg
    rw [unE_big]
    exact adS_EG c hW hH h1 h2
  have hbd : ∀ g ∈ gs, Edge31 g ∧ Edge16 g ∧ wE g ≤ 960 ∧ hE' g ≤ 960 := by
    intro g hg
    obtain ⟨e, h1, h2, rfl⟩ := hmem g hg
    exact big_bd c h1 h2
  have hflat : (edges p).flatMap (adS c W H) = gs.flatMap fun g => adS c W H (unE c g) := by
    rw [hmap, List.flatMap_map]
    congr 1
    funext e
    rw [unE_big]
  have hwin : ∀ pre t : List (Pt × Pt), pre ++ t = gs → ∀ r, ab (sumE (dR r) pre) ≤ 1 := fun pre t h r => win_path (p := p.map (scP (kS c))) pre t (by rw [h, hgs]) r
  have hclosed : ∀ r, sumE (dR r) gs = 0 := fun r => by rw [hgs]; exact closed_path _ r
  have h31 : ∀ g ∈ gs, Edge31 g := fun g hg => (hbd g hg).1
  obtain ⟨_, _, f1, f2⟩ := far_num h31 (by omega)
  obtain ⟨r0, r1⟩ := rowsAll_bd31 h31
  obtain ⟨N, hN⟩ : ∃ N : Int, N = rowsAll gs 0 := ⟨_, rfl⟩
  rw [← hN] at f2 r0 r1
  have hNmem : ∀ g ∈ gs, rowsE g ≤ N := fun g hg => by rw [hN]; exact rowsAll_mem hg
  have hNR : ∀ g ∈ gs, hE' g ≤ (N : Rat) - 1 := fun g hg => by
    have h1 := castLe (hNmem g hg)
    have h2 := rows_h (e := g)
    grind
  -- sums
  have hl12 : (gs.length : Rat) ≤ 12 := by exact_mod_cast (show gs.length ≤ 12 by omega)
  have hl0 : (0 : Rat) ≤ gs.length := by exact_mod_cast Nat.zero_le _
  have hSd0 : 0 ≤ sumE dE gs := sumE_nonneg fun g hg => (dE_bd (hbd g hg).2.2.2).1
  have hSd1 : sumE dE gs ≤ 12 * (1 / 32) := by
    have := sumE_le (s := gs) (f := dE) (g := fun _ => 1 / 32) fun g hg => (dE_bd (hbd g hg).2.2.2).2
    rw [sumE_const] at this
    grind
  have hSh0 : 0 ≤ sumE hE' gs := sumE_nonneg fun g _ => hE'_nonneg g
  have hSh2 : sumE (fun e => hE' e / 2) gs = 1 / 2 * sumE hE' gs := by
    rw [← sumE_mul]
    exact sumE_congr fun e _ => by grind
  have hWR : (W : Rat) ≤ 200 := by exact_mod_cast hW2
  have hWh : (W : Rat) * sumE (fun e => hE' e / 2) gs ≤ 100 * sumE hE' gs := by
    rw [hSh2]
    have := Rat.mul_le_mul_of_nonneg_right hWR (show 0 ≤ 1 / 2 * sumE hE' gs by grind)
    grind
  have hWH0 : (0 : Rat) ≤ ((W * H : Nat) : Rat) := by exact_mod_cast Nat.zero_le _
  have hWH : ((W * H : Nat) : Rat) ≤ 40000 := by
    have : W * H ≤ 200 * 200 := Nat.mul_le_mul hW2 hH
    exact_mod_cast this
  have hlE0 : ∀ g ∈ gs, 0 ≤ lE g := fun g hg => Rat.le_trans (by exact_mod_cast Nat.zero_le _) (hE g hg).len
  have hN0 := castLe r0
  rw [cast_zero] at hN0
  have hnN := Rat.mul_nonneg hl0 hN0
  have hcast : (N : Rat) * gs.length = gs.length * N := by grind
  have h16 : ∀ e ∈ gs, Edge16 e := fun g hg => (hbd g hg).2.1
  -- the end, in both cases
  have finish : ∀ (q : Rat) (lev : Nat → Int) (cc : Nat → Rat), (∀ e ∈ gs, ∀ r : Int, ab (dR (r - 1) e) + ab (dR r e) ≤ q) → (∀ j, 0 ≤ cc j) → ccS cc 12 0 ≤ 61320 →
      (∀ j, j < 12 → ∀ e : Pt × Pt, wE e ≤ 960 → hE' e ≤ (N : Rat) - 1 → (1005 / 1000) * (lE e * p2 (lev j - 25)) + (1005 / 10) * (1 / 16777216) * hE' e + (10025 / 10000) * dE e ≤ (cc j + 1315 * N) * (1 / 16777216) + 1 / 10000000000000000) →
      (∀ j, j < 12 → p2 (lev j - 25) ≤ 8 * (1 / 16777216)) → (∀ κ : Rat, κ ≤ 11 / 100 → ∀ j, j < gs.length → (q * j + 2) / 2 + 2 * sumE dE gs + (q * (10003 / 10000) + 1 / 1000000000000000000) + κ ≤ p2 (lev j) ∧ -120 ≤ lev j ∧ lev j ≤ 100) →
      ∃ b, (maskR true W H (strOps c p))[Y * W + X]? = some b ∧ AreaOk gs X Y ∧ CloseOk b (areaW gs X Y) (farS gs) ∧ closeB b (areaW gs X Y) (farS gs) = true := by
    intro q lev cc hq hcc0 hcc12 hcost hlev8 hlev
    have hsum := cost_sum hcost gs 0 (by omega) fun g hg => ⟨(hbd g hg).2.2.1, hNR g hg⟩
    have hcS0 := costE_nonneg (len := lE) (lev := lev) gs 0 hlE0
    have hccn := Rat.le_trans (ccS_bd hcc0 gs.length 12 0 (by omega)) hcc12
    obtain ⟨κ, hκ⟩ : ∃ κ, κ = (1006 / 1000) * (costE lE lev gs 0 + 100 * sumE hE' gs * (1 / 16777216) + 40000 * sumE dE gs * (1 / 16777216)) + 1 / 100000000 := ⟨_, rfl⟩
    obtain ⟨T, hT⟩ : ∃ T, T = totE W H dE lE lev κ gs := ⟨_, rfl⟩
    obtain ⟨t1, t2⟩ := tot_rat (S0 := costE lE lev gs 0) (Sh := sumE hE' gs) (Sd := sumE dE gs) (Wh := (W : Rat) * sumE (fun e => hE' e / 2) gs) (WH := ((W * H : Nat) : Rat)) (κ := κ) (T := T) rfl hcS0 hSh0 hSd0 hWh hWH0 hWH hκ (by rw [hT]; rfl)
    have hκ0 : 0 ≤ κ := by rw [hκ]; grind
    have hbound : T + sumE dE gs ≤ (61320 + 1315 * (gs.length * (N : Rat))) * (1 / 16777216) + 1 / 100000000 := by grind
    have hcS1 := costE_le hlev8 gs 0 (by omega) fun g hg => ⟨hlE0 g hg, by
      have h1 := (hbd g hg).2.2.1
      have h2 := (hbd g hg).2.2.2
      unfold lE
      grind⟩
    have hSh1 : sumE hE' gs ≤ 12 * 960 := by
      have := sumE_le (s := gs) (f := hE') (g := fun _ => 960) fun g hg => (hbd g hg).2.2.2
      rw [sumE_const] at this
      grind
    have hκ2 : κ ≤ 11 / 100 := by rw [hκ]; grind
    have hκ1' : κ ≤ 1 := by grind
    obtain ⟨a, m1, m2, m3⟩ := gacc (H := H) hE hq hW hH0 (lev := lev) (κ := κ) (Δ := sumE dE gs) hκ0 hκ1' hwin hclosed Rat.le_refl (by grind) (by omega) (hlev κ hκ2) (by rw [← hT]; exact t1) hX hY
    rw [← hT] at m3
    obtain ⟨q1, q2, q3⟩ := floByte_near m2
    obtain ⟨b1, b2⟩ := byte_straight q3 m3 hbound hnN f2
    refine ⟨floByte a, ?_, pixel_near h16 (by omega) (by omega) (by omega) q1 q2 f1 rfl b1 b2⟩
    rw [(maskR_str c hW hH hne hp).1, hflat]
    exact m1
  rw [← hgs]
  by_cases hN2 : N ≤ 2
  · have hN2R := castLe hN2
    push_cast at hN2R
    have hSd2 : sumE dE gs ≤ 12 * (1 / 1000) := by
      have := sumE_le (s := gs) (f := dE) (g := fun _ => 1 / 1000) fun g hg => by
        obtain ⟨s0, s1, _⟩ := rhoE_bd g
        have s2 := hE'_nonneg g
        have s3 := hNR g hg
        have k2 := Rat.mul_le_mul_of_nonneg_left s1 (show 0 ≤ 2304 + 482 * (hE' g + 4) by grind)
        unfold dE
        grind
      rw [sumE_const] at this
      grind
    refine finish 1 lev1 cc1 (fun e he r => dR_one (by have := hNmem e he; omega) r) (fun j => by unfold cc1; split <;> decide) (by rw [ccS_12.1]; decide) (cost1_edge hN2R) (fun j _ => (lev_8 j).1) (fun κ hκ j hj => lev1_ok (by omega) ?_)
    grind
  · have hN3R := castLe (show 3 ≤ N by omega)
    push_cast at hN3R
    refine finish 2 lev2 cc2 (fun e he r => dR_two r) (fun j => by unfold cc2; split <;> (try split) <;> decide) (by rw [ccS_12.2]; exact Rat.le_refl) (cost2_edge hN3R) (fun j _ => (lev_8 j).2) (fun κ hκ j hj => lev2_ok (by omega) ?_)
    grind
end Go.Proofs.Ytmgcbodlolnheaa
