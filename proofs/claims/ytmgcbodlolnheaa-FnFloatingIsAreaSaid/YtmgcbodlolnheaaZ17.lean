/- The cells of a mask in floating point: the first cells of rows by half units of what is in them, the others in -/
import Derived.Test.YtmgcbodlolnheaaZ16
namespace Go.Proofs.Ytmgcbodlolnheaa
open Flt Go.RowKit
set_option linter.unusedVariables false
def sumL (f : Nat -> Rat) : List Nat -> Rat
 | [] => 0
 | k :: t => f k + sumL f t
theorem sumL_add (f g : Nat -> Rat) : ∀ l : List Nat, sumL (fun k => f k + g k) l = sumL f l + sumL g l
 | [] => by simp only [sumL]; grind
 | k :: t => by simp only [sumL]; rw [sumL_add f g t]; grind
theorem sumL_congr {f g : Nat -> Rat} : ∀ {l : List Nat}, (∀ k ∈ l, f k = g k) -> sumL f l = sumL g l
 | [], _ => rfl
 | k :: t, h => by simp only [sumL]; rw [h k (by simp), sumL_congr fun i hi => h i (by simp [hi])]
theorem sumL_one {v : Rat} (hv : 0 <= v) (i : Nat) : ∀ {l : List Nat}, l.Pairwise (· < ·) -> sumL (fun k => if i = k then v else 0) l <= v
 | [], _ => hv
 | k :: t, h => by
  obtain ⟨h1, h2⟩ := List.pairwise_cons.1 h
  simp only [sumL]
  by_cases c : i = k
  ·have e : sumL (fun k => if i = k then v else 0) t = sumL (fun _ => 0) t := sumL_congr fun j hj => by
    have := h1 j hj
    rw [if_neg (by omega)]
   have e0 : ∀ t : List Nat, sumL (fun _ => 0) t = 0 := fun t => by
    induction t with
    | nil => rfl
    | cons a t ih => simp only [sumL]; rw [ih]; grind
   rw [e, e0, if_pos c]
   grind
  ·have := sumL_one hv i h2
   rw [if_neg c]
   grind
theorem sumL_cellA : ∀ (s : List (Nat × Rat)) {l : List Nat}, l.Pairwise (· < ·) -> sumL (cellA s) l <= absR s
 | [], l, h => by
  have e0 : ∀ t : List Nat, sumL (cellA []) t = 0 := fun t => by
   induction t with
   | nil => rfl
   | cons a t ih => simp only [sumL]; rw [ih]; simp only [cellA]; grind
  rw [e0]
  exact Rat.le_refl
 | (i, v) :: s, l, h => by
  have h1 := sumL_cellA s h
  have h2 := sumL_one (ab_nonneg v) i h
  have e : sumL (cellA ((i, v) :: s)) l = sumL (fun k => (if i = k then ab v else 0) + cellA s k) l := sumL_congr fun k _ => by rw [cellA]
  rw [e, sumL_add, absR]
  have e2 : sumL (fun k => cellA s k) l = sumL (cellA s) l := rfl
  rw [e2]
  grind
theorem zcnt_cons (W : Nat) (p : Nat × Nat) (t : List (Nat × Nat)) : zcnt W (p :: t) = (if p.1 % W = 0 then 1 else 0) + zcnt W t := by
 unfold zcnt
 rw [List.map_cons, List.countP_cons]
 by_cases c : p.1 % W = 0
 ·have : (p.1 % W == 0) = true := by simpa using c
  rw [if_pos c, if_pos this]
  omega
 ·have : (p.1 % W == 0) = false := by simpa using c
  rw [if_neg c, if_neg (by rw [this]; decide)]
  omega
theorem nzL_cons (W : Nat) (p : Nat × Nat) (t : List (Nat × Nat)) : nzL W (p :: t) = if p.1 % W = 0 then nzL W t else p.1 :: nzL W t := by
 unfold nzL
 rw [List.map_cons]
 by_cases c : p.1 % W = 0
 ·have : (p.1 % W == 0) = true := by simpa using c
  rw [if_pos c, List.filter_cons, if_neg (by rw [this]; decide)]
 ·have : (p.1 % W == 0) = false := by simpa using c
  rw [if_neg c, List.filter_cons, if_pos (by rw [this]; rfl)]
theorem nzL_mem {W : Nat} {t : List (Nat × Nat)} {k : Nat} (h : k ∈ nzL W t) : k % W ≠ 0 := by
 unfold nzL at h
 have := (List.mem_filter.1 h).2
 simpa using this
theorem cells_edge {W n : Nat} {C κ : Rat} {e : Int} (he : -120 <= e) (he2 : e <= 100) (hlev : C + κ <= p2 e) (hκ0 : 0 <= κ) : ∀ (t : List (Nat × Nat)) (l : List Nat) (s : List (Nat × Rat)) (E : Rat), CellsBd l -> (∀ p ∈ t, Bd p.2 68) -> n <= l.length -> (nzL W t).Pairwise (· < ·) ->
  (∀ u p v, u ++ p :: v = t -> p.1 % W = 0 -> p.1 < n -> ab (cellR (s ++ valL u) p.1 + V p.2) <= C) -> offL l s n <= E -> 0 <= E ->
  E + (zcnt W t : Rat) * p2 (e - 25) + (sumL (cellA s) (nzL W t) + absR (valL t)) * (1 / 16777216) + t.length * (κ * (1 / 16777216) + 1 / 1000000000000000000000000000000) <= κ ->
  offL (fadds t l) (s ++ valL t) n <= E + (zcnt W t : Rat) * p2 (e - 25) + (sumL (cellA s) (nzL W t) + absR (valL t)) * (1 / 16777216) + t.length * (κ * (1 / 16777216) + 1 / 1000000000000000000000000000000)
 | [], l, s, E, hl, hv, hn, hz, hC, hE, hE0, hb => by
  simp only [fadds, valL, List.map_nil, List.append_nil, List.length_nil]
  have e1 : zcnt W [] = 0 := rfl
  have e2 : nzL W [] = [] := rfl
  rw [e1, e2]
  simp only [sumL, absR]
  push_cast
  grind
 | (k, v) :: t, l, s, E, hl, hv, hn, hz, hC, hE, hE0, hb => by
  have hv0 := hv (k, v) (by simp)
  simp only at hv0
  have hval : valL ((k, v) :: t) = (k, V v) :: valL t := rfl
  have hp := p2_pos (e - 25)
  have hnt : (0 : Rat) <= (t.length : Rat) := by exact_mod_cast Nat.zero_le _
  have hzt : (0 : Rat) <= (zcnt W t : Rat) := by exact_mod_cast Nat.zero_le _
  have htiny : 0 <= κ * (1 / 16777216) + 1 / 1000000000000000000000000000000 := by grind
  have q1 := Rat.mul_nonneg hnt htiny
  have q2 := Rat.mul_nonneg hzt (Rat.le_of_lt hp)
  have absT : ∀ s : List (Nat × Rat), 0 <= absR s := fun s => by
   induction s with
   | nil => exact Rat.le_refl
   | cons a s ih =>
    obtain ⟨i, x⟩ := a
    rw [absR]
    have := ab_nonneg x
    grind
  have sumT : ∀ (l : List Nat), 0 <= sumL (cellA s) l := fun l => by
   induction l with
   | nil => exact Rat.le_refl
   | cons a l ih =>
    simp only [sumL]
    have := cellA_nonneg s a
    grind
  have q3 := absT (valL t)
  have q4 := sumT (nzL W t)
  have q5 := ab_nonneg (V v)
  have e2 : s ++ (k, V v) :: valL t = (s ++ [(k, V v)]) ++ valL t := by simp
  have hsame : (∀ j ∈ nzL W t, k ≠ j) -> sumL (cellA (s ++ [(k, V v)])) (nzL W t) = sumL (cellA s) (nzL W t) := fun hne => sumL_congr fun j hj => by
   rw [cellA_append]
   simp only [cellA]
   rw [if_neg (hne j hj)]
   grind
  have hCt : ∀ u p w, u ++ p :: w = t -> p.1 % W = 0 -> p.1 < n -> ab (cellR ((s ++ [(k, V v)]) ++ valL u) p.1 + V p.2) <= C := by
   intro u p w huw h1 h2
   have := hC ((k, v) :: u) p w (by rw [<- huw]; rfl) h1 h2
   have e1 : s ++ valL ((k, v) :: u) = (s ++ [(k, V v)]) ++ valL u := by show s ++ (k, V v) :: valL u = _; simp
   rwa [e1] at this
  rw [hval, fadds, List.length_cons, e2]
  have hlen : ((t.length + 1 : Nat) : Rat) = (t.length : Rat) + 1 := by push_cast; rfl
  rw [hval, List.length_cons] at hb
  rw [hlen, zcnt_cons, nzL_cons] at hb ⊢
  rw [absR] at hb ⊢
  simp only at hb ⊢
  rw [nzL_cons] at hz
  simp only at hz
  by_cases hk : k % W = 0
  ·rw [if_pos hk] at hz
   rw [if_pos hk, if_pos hk] at hb ⊢
   have hne : ∀ j ∈ nzL W t, k ≠ j := fun j hj h => nzL_mem hj (by rw [<- h]; exact hk)
   have st := off_stepH (n := n) (C := C) (E := E) (e := e) (k := k) (v := v) (s := s) hl hv0 hn (fun hkn => by
    have := hC [] (k, v) t rfl hk hkn
    have e1 : s ++ valL [] = s := by show s ++ [] = s; simp
    rwa [e1] at this) hE (by push_cast at hb; grind) he he2
   have ih := cells_edge (W := W) he he2 hlev hκ0 t (fbump l k v) (s ++ [(k, V v)]) (E + p2 (e - 25)) (hl.bump hv0) (fun p hp => hv p (by simp [hp])) (by rw [length_fbump]; exact hn) hz hCt (by grind) (by grind) (by
    rw [hsame hne]
    push_cast at hb
    grind)
   rw [hsame hne] at ih
   push_cast
   grind
  ·rw [if_neg hk] at hz
   rw [if_neg hk, if_neg hk] at hb ⊢
   obtain ⟨z1, z2⟩ := List.pairwise_cons.1 hz
   have hne : ∀ j ∈ nzL W t, k ≠ j := fun j hj h => by have := z1 j hj; omega
   simp only [sumL] at hb ⊢
   have c0 := cellA_nonneg s k
   have cr : ab (cellR s k + V v) <= cellA s k + ab (V v) := by
    have := ab_add_le (cellR s k) (V v)
    have := cellR_ab s k
    grind
   have hEκ : E <= κ := by push_cast at hb; grind
   have st := off_step (n := n) (C := cellA s k + ab (V v)) (E := κ) (k := k) (v := v) (s := s) hl hv0 hn cr (Rat.le_trans hE hEκ) (by grind) hκ0
   have ih := cells_edge (W := W) he he2 hlev hκ0 t (fbump l k v) (s ++ [(k, V v)]) (E + ((cellA s k + ab (V v) + κ) * (1 / 16777216) + 1 / 1000000000000000000000000000000)) (hl.bump hv0) (fun p hp => hv p (by simp [hp])) (by rw [length_fbump]; exact hn) z2 hCt (by grind) (by grind) (by
    rw [hsame hne]
    push_cast at hb
    grind)
   rw [hsame hne] at ih
   push_cast
   grind
theorem sign_part {σ : Rat} (hσ : σ = 1 ∨ σ = -1) (k : Nat) : ∀ s : List (Nat × Rat), 0 <= absR s - σ * totR s /\ -(absR s - σ * totR s) <= σ * cellR s k
 | [] => by
  simp only [absR, totR, cellR]
  constructor <;> grind
 | (i, v) :: s => by
  obtain ⟨h1, h2⟩ := sign_part hσ k s
  rw [absR, totR, cellR]
  obtain ⟨a, b⟩ := ab_iff.1 (show ab v <= ab v from Rat.le_refl)
  have hv := ab_nonneg v
  have hsv : σ * v <= ab v /\ -(ab v) <= σ * v := by rcases hσ with e | e <;> rw [e] <;> constructor <;> grind
  refine ⟨by grind, ?_⟩
  split <;> grind
theorem part_bd {σ δ M A : Rat} (hσ : σ = 1 ∨ σ = -1) {s1 s2 : List (Nat × Rat)} {k : Nat} (hn : absR (s1 ++ s2) - σ * totR (s1 ++ s2) <= δ) (hA : ab A <= M) (hB : ab (A + cellR (s1 ++ s2) k) <= M) : ab (A + cellR s1 k) <= M + δ := by
 rw [absR_append, totR_append] at hn
 rw [cellR_append] at hB
 obtain ⟨p1, p2⟩ := sign_part hσ k s1
 obtain ⟨q1, q2⟩ := sign_part hσ k s2
 obtain ⟨a1, a2⟩ := ab_iff.1 hA
 obtain ⟨b1, b2⟩ := ab_iff.1 hB
 rcases hσ with e | e <;> rw [e] at hn p1 p2 q1 q2 <;> exact ab_le (by grind) (by grind)
def habsF (e : Pt × Pt) : Rat := hE' e * (10003 / 10000) + 1 / 100000000000000000000
def costF (W : Nat) (Ad : Pt × Pt -> List (Nat × Nat)) (len : Pt × Pt -> Rat) (lev : Nat -> Int) (κ : Rat) : List (Pt × Pt) -> Nat -> Rat -> Rat
 | [], _, _ => 0
 | e :: t, j, A => (zcnt W (Ad e) : Rat) * p2 (lev j - 25) + (A + habsF e) * (1 / 16777216) + len e * (κ * (1 / 16777216) + 1 / 1000000000000000000000000000000) + costF W Ad len lev κ t (j + 1) (A + habsF e)
theorem habsF_nonneg (e : Pt × Pt) : 0 <= habsF e := by
 have := hE'_nonneg e
 unfold habsF
 grind
theorem costF_nonneg {W : Nat} {Ad : Pt × Pt -> List (Nat × Nat)} {len : Pt × Pt -> Rat} {lev : Nat -> Int} {κ : Rat} (hκ : 0 <= κ) : ∀ (t : List (Pt × Pt)) (j : Nat) (A : Rat), (∀ e ∈ t, 0 <= len e) -> 0 <= A -> 0 <= costF W Ad len lev κ t j A
 | [], _, _, _, _ => Rat.le_refl
 | e :: t, j, A, h, hA => by
  have hh := habsF_nonneg e
  have h1 := costF_nonneg (W := W) (Ad := Ad) (lev := lev) hκ t (j + 1) (A + habsF e) (fun e he => h e (by simp [he])) (by grind)
  have h2 : (0 : Rat) <= (zcnt W (Ad e) : Rat) := by exact_mod_cast Nat.zero_le _
  have h3 := Rat.mul_nonneg h2 (Rat.le_of_lt (p2_pos (lev j - 25)))
  have h4 := Rat.mul_nonneg (h e (by simp)) (show 0 <= κ * (1 / 16777216) + 1 / 1000000000000000000000000000000 by grind)
  rw [costF]
  grind
section
variable {W H : Nat} {own len : Pt × Pt -> Rat} {R : Pt × Pt -> Int} {Ad : Pt × Pt -> List (Nat × Nat)} {gs : List (Pt × Pt)}
 (hE : ∀ e ∈ gs, FE W H e (own e) (R e) (Ad e)) (hlen : ∀ e ∈ gs, ((Ad e).length : Rat) <= len e)
include hE hlen
theorem cells_F (hW : 0 < W) {lev : Nat -> Int} {M : Nat -> Rat} {κ δ : Rat} (hκ0 : 0 <= κ) (hδ : ∀ e ∈ gs, hE' e * (3 / 10000) + 1 / 100000000000000000000 <= δ)
  (hcon : ∀ pre e t, pre ++ e :: t = gs -> ∀ r, r < H -> ab (cellR (valL (pre.flatMap Ad)) (r * W)) <= M pre.length /\ ab (cellR (valL (pre.flatMap Ad)) (r * W) + cellR (valL (Ad e)) (r * W)) <= M pre.length)
  (hlev : ∀ j, j < gs.length -> M j + δ + κ <= p2 (lev j) /\ -120 <= lev j /\ lev j <= 100) : ∀ (t pre : List (Pt × Pt)) (l : List Nat) (E A : Rat), pre ++ t = gs -> CellsBd l -> W * H <= l.length ->
   offL l (valL (pre.flatMap Ad)) (W * H) <= E -> 0 <= E -> absR (valL (pre.flatMap Ad)) <= A -> 0 <= A -> E + costF W Ad len lev κ t pre.length A <= κ ->
   offL (fadds (t.flatMap Ad) l) (valL (gs.flatMap Ad)) (W * H) <= E + costF W Ad len lev κ t pre.length A
 | [], pre, l, E, A, hg, hl, hn, hE', hE0, hA, hA0, hb => by
  rw [List.append_nil] at hg
  subst hg
  simp only [List.flatMap_nil, fadds, costF]
  grind
 | e :: t, pre, l, E, A, hg, hl, hn, hE', hE0, hA, hA0, hb => by
  have heg : e ∈ gs := by rw [<- hg]; simp
  have F := hE e heg
  have hj : pre.length < gs.length := by rw [<- hg]; simp
  obtain ⟨v1, v2, v3⟩ := hlev pre.length hj
  obtain ⟨σ, hσ, hneg⟩ := F.neg
  have hneg := Rat.le_trans hneg (hδ e heg)
  have hh := habsF_nonneg e
  have hlen0 : ∀ e' ∈ gs, 0 <= len e' := fun e' he' => Rat.le_trans (by exact_mod_cast Nat.zero_le _) (hlen e' he')
  have hcost0 := costF_nonneg (W := W) (Ad := Ad) (len := len) (lev := lev) hκ0 t (pre.length + 1) (A + habsF e) (fun e' he' => hlen0 e' (by rw [<- hg]; simp [he'])) (by grind)
  rw [costF] at hb ⊢
  have hsum := sumL_cellA (valL (pre.flatMap Ad)) F.nz
  have hab : absR (valL (Ad e)) <= habsF e := F.abs
  have hlk := Rat.mul_le_mul_of_nonneg_right (hlen e heg) (show 0 <= κ * (1 / 16777216) + 1 / 1000000000000000000000000000000 by grind)
  have hbd68 : ∀ p ∈ Ad e, Bd p.2 68 := fun p hp => (F.bd p hp).mono (by decide)
  have st := cells_edge (W := W) (n := W * H) (C := M pre.length + δ) (κ := κ) v2 v3 v1 hκ0 (Ad e) l (valL (pre.flatMap Ad)) E hl hbd68 hn F.nz
   (fun u p v huv hp hpn => by
    obtain ⟨r, hr⟩ : ∃ r, p.1 = r * W := ⟨p.1 / W, by have := Nat.div_add_mod p.1 W; rw [Nat.mul_comm]; omega⟩
    have hrH : r < H := by
     rw [hr, Nat.mul_comm W H] at hpn
     exact Nat.lt_of_mul_lt_mul_right hpn
    obtain ⟨c1, c2⟩ := hcon pre e t hg r hrH
    have e1 : valL (Ad e) = valL (u ++ [p]) ++ valL v := by
     rw [<- valL_append, <- huv]
     congr 1
     simp
    rw [e1] at hneg c2
    have P := part_bd hσ hneg c1 c2
    rw [valL_append, cellR_append] at P
    rw [hr, cellR_append]
    have e2 : cellR (valL [p]) (r * W) = V p.2 := by
     show cellR [(p.1, V p.2)] (r * W) = V p.2
     simp only [cellR]
     rw [if_pos hr]
     grind
    rw [e2] at P
    have e3 : cellR (valL (pre.flatMap Ad)) (r * W) + (cellR (valL u) (r * W) + V p.2) = cellR (valL (pre.flatMap Ad)) (r * W) + cellR (valL u) (r * W) + V p.2 := by grind
    rw [<- e3]
    exact P) hE' hE0 (by grind)
  have e4 : valL ((pre ++ [e]).flatMap Ad) = valL (pre.flatMap Ad) ++ valL (Ad e) := by rw [List.flatMap_append, valL_append]; simp
  have ih := cells_F hW hκ0 hδ hcon hlev t (pre ++ [e]) (fadds (Ad e) l) (E + (zcnt W (Ad e) : Rat) * p2 (lev pre.length - 25) + (A + habsF e) * (1 / 16777216) + len e * (κ * (1 / 16777216) + 1 / 1000000000000000000000000000000)) (A + habsF e)
   (by rw [<- hg]; simp) (fadds_ok _ _ hl hbd68).2 (by rw [length_fadds]; exact hn) (by
    rw [e4]
    grind) (by
    have h2 : (0 : Rat) <= (zcnt W (Ad e) : Rat) := by exact_mod_cast Nat.zero_le _
    have h3 := Rat.mul_nonneg h2 (Rat.le_of_lt (p2_pos (lev pre.length - 25)))
    have h4 := Rat.mul_nonneg (hlen0 e heg) (show 0 <= κ * (1 / 16777216) + 1 / 1000000000000000000000000000000 by grind)
    grind) (by
    rw [e4, absR_append]
    grind) (by grind) (by
    have h1 : (pre ++ [e]).length = pre.length + 1 := by simp
    rw [h1]
    grind)
  have h1 : (pre ++ [e]).length = pre.length + 1 := by simp
  rw [h1] at ih
  rw [List.flatMap_cons, fadds_append]
  grind
end
def totF (W H : Nat) (δ : Pt × Pt -> Rat) (Cst κ : Rat) (gs : List (Pt × Pt)) : Rat :=
 Cst + (W * (sumE (fun e => hE' e / 2) gs) + (W * H : Nat) * (sumE δ gs + 2 * κ)) * (1 / 16777216) + (W * H : Nat) * (1 / 1000000000000000000000000000000)
theorem gaccF {W H : Nat} {δ len : Pt × Pt -> Rat} {Ad : Pt × Pt -> List (Nat × Nat)} {gs : List (Pt × Pt)} (hE : ∀ e ∈ gs, EG W H e (δ e) (len e) (Ad e)) (hW : 0 < W) (hH : 0 < H) {Cst κ Δ : Rat} (hκ0 : 0 <= κ) (hκ1 : κ <= 1) (hclosed : ∀ r, sumE (dR r) gs = 0) (hδ : sumE δ gs <= Δ) (hΔ : Δ <= 100) (hn : gs.length <= 100)
  (hcells : offL (fadds (gs.flatMap Ad) (List.replicate (W * H) 0)) (valL (gs.flatMap Ad)) (W * H) <= Cst) (hb : totF W H δ Cst κ gs <= κ) {X Y : Nat} (hX : X < W) (hY : Y < H) :
  ∃ a, (floBytes 0 (fadds (gs.flatMap Ad) (List.replicate (W * H) 0)))[Y * W + X]? = some (floByte a) /\ F32 a /\ ab (V a - areaR gs X Y) <= totF W H δ Cst κ gs + sumE δ gs := by
 have hp : Y * W + X < H * W := by
  have h1 : (Y + 1) * W <= H * W := Nat.mul_le_mul_right W hY
  rw [Nat.add_mul, Nat.one_mul] at h1
  omega
 have hp' : Y * W + X < W * H := by rw [Nat.mul_comm W H]; exact hp
 have hlen0 : ∀ e' ∈ gs, 0 <= len e' := fun e' he' => Rat.le_trans (by exact_mod_cast Nat.zero_le _) (hE e' he').len
 have hδ0 : ∀ e' ∈ gs, 0 <= δ e' := fun e' he' => Rat.le_trans (ab_nonneg _) ((hE e' he').cum 0 0 hW hH)
 have hδs : 0 <= sumE δ gs := by
  have h3 := sumE_le (s := gs) (f := fun _ => (0 : Rat)) (g := δ) hδ0
  rw [sumE_const] at h3
  grind
 have hhs : 0 <= sumE (fun e => hE' e / 2) gs := by
  have h3 := sumE_le (s := gs) (f := fun _ => (0 : Rat)) (g := fun e => hE' e / 2) fun e _ => by
   unfold hE'
   have := ab_nonneg ((e.2.2 : Rat) - e.1.2)
   grind
  rw [sumE_const] at h3
  grind
 have hW0 : (0 : Rat) <= (W : Rat) := by exact_mod_cast Nat.zero_le W
 have hWH0 : (0 : Rat) <= ((W * H : Nat) : Rat) := by exact_mod_cast Nat.zero_le _
 have m1 := Rat.mul_nonneg hW0 hhs
 have m2 := Rat.mul_nonneg hWH0 (show 0 <= sumE δ gs + 2 * κ by grind)
 have m3 := Rat.mul_nonneg hWH0 (show (0 : Rat) <= 1 / 1000000000000000000000000000000 by decide +kernel)
 obtain ⟨l, hl⟩ : ∃ l, l = fadds (gs.flatMap Ad) (List.replicate (W * H) 0) := ⟨_, rfl⟩
 obtain ⟨s, hs⟩ : ∃ s, s = valL (gs.flatMap Ad) := ⟨_, rfl⟩
 rw [<- hl, <- hs] at hcells
 have hlb : CellsBd l := by
  rw [hl]
  refine (fadds_ok _ _ (CellsBd.zero _) fun p hp => ?_).2
  obtain ⟨e, he, hpe⟩ := List.mem_flatMap.1 hp
  exact (hE e he).bd p hpe
 have hll : l.length = W * H := by rw [hl, length_fadds]; simp
 obtain ⟨T, hT⟩ : ∃ T : Nat -> Rat, T = fun k => sumN (cellR s) (if k <= W * H then k else W * H) := ⟨_, rfl⟩
 have hTk : ∀ k, k <= W * H -> T k = sumN (cellR s) k := fun k hk => by rw [hT]; simp only; rw [if_pos hk]
 have hTS : ∀ k, k < W * H -> ab (T (k + 1)) <= 1 / 2 * sumE (fun e => ab (dR ((k / W : Nat) : Int) e)) gs + sumE δ gs := by
  intro k hk
  rw [hTk (k + 1) (by omega), sumN_cellR, hs, sumR_flat]
  have hkW : k / W < H := by
   rw [Nat.div_lt_iff_lt_mul (by omega), Nat.mul_comm]
   exact hk
  have h1 := (sum_bd hE hclosed (X := k % W) (Y := k / W) (Nat.mod_lt _ (by omega)) hkW).2
  have h2 : k / W * W + k % W = k := by rw [Nat.mul_comm]; exact Nat.div_add_mod k W
  rw [h2] at h1
  exact h1
 have hG1 : ∀ Y : Nat, 1 / 2 * sumE (fun e => ab (dR (Y : Int) e)) gs + sumE δ gs <= 200 := by
  intro Y
  have h1 := sumE_le (s := gs) (f := fun e => ab (dR (Y : Int) e)) (g := fun _ => 1) fun e he => dph_le Y e
  rw [sumE_const] at h1
  have : (gs.length : Rat) <= 100 := by exact_mod_cast hn
  grind
 have hT1000 : ∀ k, ab (T k) <= 1000 := by
  intro k
  by_cases hk0 : k = 0
  ·rw [hk0, hTk 0 (by omega)]
   simp only [sumN]
   decide +kernel
  ·have h1 : ∃ j, j < W * H /\ T k = T (j + 1) := by
    by_cases hk : k <= W * H
    ·exact ⟨k - 1, by omega, by rw [show k - 1 + 1 = k by omega]⟩
    ·refine ⟨W * H - 1, by have := hp'; omega, ?_⟩
     rw [hT]
     simp only
     rw [if_neg hk, if_pos (by omega), show W * H - 1 + 1 = W * H by have := hp'; omega]
   obtain ⟨j, hj, e⟩ := h1
   rw [e]
   exact Rat.le_trans (hTS j hj) (Rat.le_trans (hG1 _) (by decide +kernel))
 have hsum : sumN (fun i => ab (V (fAt l (0 + i)) - cellR s (0 + i)) + ((ab (T (0 + i + 1)) + 2 * κ) * (1 / 16777216) + 1 / 1000000000000000000000000000000)) (Y * W + X + 1) <= totF W H δ Cst κ gs := by
  have h1 : sumN (fun i => ab (V (fAt l (0 + i)) - cellR s (0 + i)) + ((ab (T (0 + i + 1)) + 2 * κ) * (1 / 16777216) + 1 / 1000000000000000000000000000000)) (Y * W + X + 1) <=
    sumN (fun i => ab (V (fAt l (0 + i)) - cellR s (0 + i)) + ((ab (T (0 + i + 1)) + 2 * κ) * (1 / 16777216) + 1 / 1000000000000000000000000000000)) (H * W) := by
   refine sumN_mono (fun i => ?_) (by omega)
   have a1 := ab_nonneg (V (fAt l (0 + i)) - cellR s (0 + i))
   have a2 := ab_nonneg (T (0 + i + 1))
   grind
  refine Rat.le_trans h1 ?_
  have h2 : sumN (fun i => ab (V (fAt l (0 + i)) - cellR s (0 + i)) + ((ab (T (0 + i + 1)) + 2 * κ) * (1 / 16777216) + 1 / 1000000000000000000000000000000)) (H * W) <=
    sumN (fun i => ab (V (fAt l i) - cellR s i) + ((1 / 16777216) * (1 / 2 * sumE (fun e => ab (dR ((i / W : Nat) : Int) e)) gs) + ((sumE δ gs + 2 * κ) * (1 / 16777216) + 1 / 1000000000000000000000000000000))) (H * W) := by
   refine sumN_le fun i hi => ?_
   have a2 := hTS i (by rw [Nat.mul_comm]; exact hi)
   rw [Nat.zero_add]
   grind
  refine Rat.le_trans h2 ?_
  rw [sumN_add, sumN_add, sumN_mul, sumN_rows (fun Y => 1 / 2 * sumE (fun e => ab (dR ((Y : Nat) : Int) e)) gs) W (by omega) H, sumN_const, sumN_mul, sumN_sumE (fun e Y => ab (dR ((Y : Nat) : Int) e))]
  have h3 : sumN (fun i => ab (V (fAt l i) - cellR s i)) (H * W) = offL l s (W * H) := by unfold offL; rw [Nat.mul_comm]
  rw [h3]
  have h4 : sumE (fun e => sumN (fun Y => ab (dR ((Y : Nat) : Int) e)) H) gs <= sumE (fun e => 2 * (hE' e / 2)) gs := sumE_le fun e _ => by
   have := heights2 e H
   grind
  rw [sumE_mul] at h4
  have h5 := Rat.mul_le_mul_of_nonneg_left (show 1 / 2 * sumE (fun e => sumN (fun Y => ab (dR ((Y : Nat) : Int) e)) H) gs <= sumE (fun e => hE' e / 2) gs by grind) hW0
  unfold totF
  have h6 : H * W = W * H := Nat.mul_comm _ _
  rw [h6]
  generalize (W : Rat) * (1 / 2 * sumE (fun e => sumN (fun Y => ab (dR ((Y : Nat) : Int) e)) H) gs) = z1 at *
  generalize (W : Rat) * sumE (fun e => hE' e / 2) gs = z2 at *
  generalize ((W * H : Nat) : Rat) = z3 at *
  have e9 : z3 * ((sumE δ gs + 2 * κ) * (1 / 16777216) + 1 / 1000000000000000000000000000000) = z3 * (sumE δ gs + 2 * κ) * (1 / 16777216) + z3 * (1 / 1000000000000000000000000000000) := by grind
  rw [e9]
  grind
 obtain ⟨r1, r2⟩ := acc_near hκ0 hκ1 T (fun k => ab (V (fAt l k) - cellR s k)) (fun k => ab_nonneg _) l 0 0 (Y * W + X) 0 hlb fzero.1 (fun i hi => by
  rw [hll] at hi
  rw [Nat.zero_add, hTk (i + 1) (by omega), hTk i (by omega)]
  have : sumN (cellR s) (i + 1) - sumN (cellR s) i = cellR s i := by rw [sumN]; grind
  rw [this]
  exact Rat.le_refl) hT1000 (by rw [hTk 0 (by omega), fzero.2]; simp only [sumN]; decide +kernel) Rat.le_refl (by rw [hll]; exact hp') (by
   have e : ∀ z : Rat, 0 + z = z := fun z => by grind
   rw [e]
   exact Rat.le_trans hsum hb)
 refine ⟨accTo 0 l (Y * W + X), ?_, r1, ?_⟩
 ·rw [<- hl]
  exact floBytes_at l 0 _ (by rw [hll]; exact hp')
 ·have e : ∀ z : Rat, 0 + z = z := fun z => by grind
  have e2 : sumN (cellR s) (Y * W + X + 1) = sumE (fun e => sumR (valL (Ad e)) (Y * W + X)) gs := by rw [sumN_cellR, hs, sumR_flat]
  rw [e, Nat.zero_add, hTk _ (by omega), e2] at r2
  have k1 := Rat.le_trans r2 hsum
  have k2 := (sum_bd hE hclosed hX hY).1
  have e3 : V (accTo 0 l (Y * W + X)) - areaR gs X Y = (V (accTo 0 l (Y * W + X)) - sumE (fun e => sumR (valL (Ad e)) (Y * W + X)) gs) + (sumE (fun e => sumR (valL (Ad e)) (Y * W + X)) gs - areaR gs X Y) := by grind
  rw [e3]
  have := ab_add_le (V (accTo 0 l (Y * W + X)) - sumE (fun e => sumR (valL (Ad e)) (Y * W + X)) gs) (sumE (fun e => sumR (valL (Ad e)) (Y * W + X)) gs - areaR gs X Y)
  grind
end Go.Proofs.Ytmgcbodlolnheaa
