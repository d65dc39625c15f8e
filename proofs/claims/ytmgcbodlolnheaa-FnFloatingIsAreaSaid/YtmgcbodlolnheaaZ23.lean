/- How many additions and how much error the edges of closed paths bring, by their widths; contents and levels of all masks at most 200 wide. Closed paths as the statement about floating numbers has them: what is in the first cells of rows, by simple counting or by a table of one rate. From levels to the sums of a mask: what is left is numbers. Masks whose contents grow at one rate. Masks whose -/
import Derived.Test.YtmgcbodlolnheaaZ21
import Derived.Test.YtmgcbodlolnheaaZ22
namespace Go.Proofs.Ytmgcbodlolnheaa
open Flt Go.RowKit
set_option linter.unusedVariables false
def lvT (t1 t2 t3 t4 t5 : Nat) (i : Nat) : Int := if i < t1 then 1 else if i < t2 then 2 else if i < t3 then 3 else if i < t4 then 4 else if i < t5 then 5 else 6
def kvT (t1 t2 t3 t4 t5 : Nat) (i : Nat) : Nat := if i < t1 then 1 else if i < t2 then 2 else if i < t3 then 4 else if i < t4 then 8 else if i < t5 then 16 else 32
def evT (t1 t2 t3 e1 e2 e4 : Nat) (i : Nat) : Nat := if i < t1 then e1 else if i < t2 then e2 else if i < t3 then e4 else 0
def sNat (f : Nat -> Nat) : Nat -> Nat
 | 0 => 0
 | n + 1 => sNat f n + f n
theorem sumN_sNat (f : Nat -> Nat) : ∀ n, sumN (fun i => (f i : Rat)) n = (sNat f n : Rat)
 | 0 => rfl
 | n + 1 => by rw [sumN, sNat, sumN_sNat f n]; push_cast; rfl
theorem lv_all (t1 t2 t3 t4 t5 e1 e2 e4 i : Nat) :
  (i < t1 /\ lvT t1 t2 t3 t4 t5 i = 1 /\ kvT t1 t2 t3 t4 t5 i = 1 /\ evT t1 t2 t3 e1 e2 e4 i = e1) ∨ (i < t2 /\ lvT t1 t2 t3 t4 t5 i = 2 /\ kvT t1 t2 t3 t4 t5 i = 2 /\ evT t1 t2 t3 e1 e2 e4 i = e2) ∨
  (i < t3 /\ lvT t1 t2 t3 t4 t5 i = 3 /\ kvT t1 t2 t3 t4 t5 i = 4 /\ evT t1 t2 t3 e1 e2 e4 i = e4) ∨ (i < t4 /\ lvT t1 t2 t3 t4 t5 i = 4 /\ kvT t1 t2 t3 t4 t5 i = 8) ∨
  (i < t5 /\ lvT t1 t2 t3 t4 t5 i = 5 /\ kvT t1 t2 t3 t4 t5 i = 16) ∨ (lvT t1 t2 t3 t4 t5 i = 6 /\ kvT t1 t2 t3 t4 t5 i = 32) := by
 unfold lvT kvT evT
 by_cases h1 : i < t1
 ·simp [h1]
 ·by_cases h2 : i < t2
  ·simp [h1, h2]
  ·by_cases h3 : i < t3
   ·simp [h1, h2, h3]
   ·by_cases h4 : i < t4
    ·simp [h1, h2, h3, h4]
    ·by_cases h5 : i < t5
     ·simp [h1, h2, h3, h4, h5]
     ·simp [h1, h2, h3, h4, h5]
theorem p2s : p2 1 = 2 /\ p2 2 = 4 /\ p2 3 = 8 /\ p2 4 = 16 /\ p2 5 = 32 /\ p2 6 = 64 /\ p2 (1 - 25) = 1 / 16777216 /\ p2 (2 - 25) = 2 * (1 / 16777216) /\ p2 (3 - 25) = 4 * (1 / 16777216) /\ p2 (4 - 25) = 8 * (1 / 16777216) /\ p2 (5 - 25) = 16 * (1 / 16777216) /\ p2 (6 - 25) = 32 * (1 / 16777216) := by decide +kernel
theorem flat_all {W H : Nat} {Ad : Pt × Pt -> List (Nat × Nat)} {gs : List (Pt × Pt)} {own : Pt × Pt -> Rat} {g : Rat} {m : Nat -> Rat} {t1 t2 t3 t4 t5 e1 e2 e4 K Et : Nat} {A O : Rat} (hn : gs.length <= 48)
  (hm : ∀ i j, i <= j -> m i <= m j) (hcon : ∀ pre t, pre ++ t = gs -> ∀ r, r < H -> ab (zcon W Ad pre r) <= m pre.length)
  (h1 : t1 = 0 ∨ m t1 + g <= 2) (h2 : t2 = 0 ∨ m t2 + g <= 4) (h3 : t3 = 0 ∨ m t3 + g <= 8) (h4 : m t4 + g <= 16) (h5 : m t5 + g <= 32) (h6 : m 48 + g <= 64)
  (hk : ∀ n, n < 49 -> 48 * sNat (kvT t1 t2 t3 t4 t5) n <= n * K /\ sNat (evT t1 t2 t3 e1 e2 e4) n <= Et)
  (hA : 0 <= A) (hO : 0 <= O) (hcl : ∀ e ∈ gs, (t1 = 0 ∨ (zcnt W (Ad e) : Rat) + own e <= A + O + e1) /\ 2 * (zcnt W (Ad e) : Rat) + own e <= 2 * A + O + e2 /\ 4 * (zcnt W (Ad e) : Rat) + own e <= 4 * A + O + e4 /\ 8 * (zcnt W (Ad e) : Rat) + own e <= 8 * A + O /\ (zcnt W (Ad e) : Rat) <= A) :
  LevOk W H Ad gs own g (gs.length * (A * K / 48 + O) + Et) := by
 obtain ⟨q1, q2, q3, q4, q5, q6, w1, w2, w3, w4, w5, w6⟩ := p2s
 refine lev_flat (m := m) (lev := lvT t1 t2 t3 t4 t5) (c := fun i => (A * (kvT t1 t2 t3 t4 t5 i : Rat) + O + (evT t1 t2 t3 e1 e2 e4 i : Rat)) * (1 / 16777216)) (fun j => hm _ _ (by omega)) hcon (fun j hj => ?_) (fun e he i => ?_) ?_
 ·have up : ∀ t : Nat, j < t -> m (j + 1) <= m t := fun t ht => hm _ _ ht
  have up6 := up 48 (by omega)
  rcases lv_all t1 t2 t3 t4 t5 e1 e2 e4 j with ⟨k, a, _⟩ | ⟨k, a, _⟩ | ⟨k, a, _⟩ | ⟨k, a, _⟩ | ⟨k, a, _⟩ | ⟨a, _⟩
  ·rw [a, q1]
   have u := up _ k
   refine ⟨?_, by decide, by decide⟩
   rcases h1 with h | h
   ·omega
   ·grind
  ·rw [a, q2]
   have u := up _ k
   refine ⟨?_, by decide, by decide⟩
   rcases h2 with h | h
   ·omega
   ·grind
  ·rw [a, q3]
   have u := up _ k
   refine ⟨?_, by decide, by decide⟩
   rcases h3 with h | h
   ·omega
   ·grind
  ·rw [a, q4]
   have u := up _ k
   exact ⟨by grind, by decide, by decide⟩
  ·rw [a, q5]
   have u := up _ k
   exact ⟨by grind, by decide, by decide⟩
  ·rw [a, q6]
   exact ⟨by grind, by decide, by decide⟩
 ·obtain ⟨c1, c2, c4, c8, cA⟩ := hcl e he
  have e0 : (0 : Rat) <= (evT t1 t2 t3 e1 e2 e4 i : Rat) := natNn _
  show (zcnt W (Ad e) : Rat) * p2 (lvT t1 t2 t3 t4 t5 i - 25) + own e * (1 / 16777216) <= (A * (kvT t1 t2 t3 t4 t5 i : Rat) + O + (evT t1 t2 t3 e1 e2 e4 i : Rat)) * (1 / 16777216)
  rcases lv_all t1 t2 t3 t4 t5 e1 e2 e4 i with ⟨k, a, b, d⟩ | ⟨k, a, b, d⟩ | ⟨k, a, b, d⟩ | ⟨k, a, b⟩ | ⟨k, a, b⟩ | ⟨a, b⟩
  ·rw [a, w1, b, d]
   have : ((1 : Nat) : Rat) = 1 := rfl
   rw [this]
   rcases c1 with h | h
   ·omega
   ·grind
  ·rw [a, w2, b, d]
   have : ((2 : Nat) : Rat) = 2 := rfl
   rw [this]
   grind
  ·rw [a, w3, b, d]
   have : ((4 : Nat) : Rat) = 4 := rfl
   rw [this]
   grind
  ·rw [a, w4, b]
   have : ((8 : Nat) : Rat) = 8 := rfl
   rw [this]
   grind
  ·rw [a, w5, b]
   have : ((16 : Nat) : Rat) = 16 := rfl
   rw [this]
   grind
  ·rw [a, w6, b]
   have : ((32 : Nat) : Rat) = 32 := rfl
   rw [this]
   grind
 ·obtain ⟨k1, k2⟩ := hk gs.length (by omega)
  have r1 := natLe k1
  have r2 := natLe k2
  push_cast at r1
  have e1 : sumN (fun i => (A * (kvT t1 t2 t3 t4 t5 i : Rat) + O + (evT t1 t2 t3 e1 e2 e4 i : Rat)) * (1 / 16777216)) gs.length = (A * (sNat (kvT t1 t2 t3 t4 t5) gs.length : Rat) + gs.length * O + (sNat (evT t1 t2 t3 e1 e2 e4) gs.length : Rat)) * (1 / 16777216) := by
   rw [<- sumN_sNat, <- sumN_sNat, <- sumN_const, <- sumN_mul, <- sumN_add, <- sumN_add, Rat.mul_comm _ (1 / 16777216), <- sumN_mul]
   exact sumN_congr fun i _ => by grind
  rw [e1]
  refine Rat.mul_le_mul_of_nonneg_right ?_ (by decide +kernel)
  have m := Rat.mul_le_mul_of_nonneg_left r1 hA
  grind
def dO (W : Nat) (e : Pt × Pt) : Rat := ownF W e * (1 / 16777216)
def lF (e : Pt × Pt) : Rat := wE e + 2 * (rowsE e : Rat) + 2
structure Fam (W H N : Nat) (ls : List (List Pt)) (gs : List (Pt × Pt)) (Ad : Pt × Pt -> List (Nat × Nat)) : Prop where
 hgs : gs = ls.flatMap edges
 hW : 0 < W
 hW2 : W <= 200
 hH0 : 0 < H
 hH : H <= 200
 n48 : gs.length <= 48
 pts : ∀ p ∈ ls, ∀ v ∈ p, PtIn W v
 rows : ∀ e ∈ gs, rowsE e <= N
 fe : ∀ e ∈ gs, FE W H e (ownF W e) (rowsE e) (Ad e)
 N2 : 2 <= N
 N529 : N <= 529
theorem sumE_flat0 {f : Pt × Pt -> Rat} : ∀ {ls : List (List Pt)}, (∀ p ∈ ls, sumE f (edges p) = 0) -> sumE f (ls.flatMap edges) = 0
 | [], _ => rfl
 | p :: ls, h => by
  rw [List.flatMap_cons, sumE_app, h p (by simp), sumE_flat0 fun q hq => h q (by simp [hq])]
  grind
section
variable {W H N : Nat} {ls : List (List Pt)} {gs : List (Pt × Pt)} {Ad : Pt × Pt -> List (Nat × Nat)} (F : Fam W H N ls gs Ad)
include F
theorem Fam.eg : ∀ e ∈ gs, EG W H e (dO W e) (lF e) (Ad e) := fun e he => ⟨fun p hp => ((F.fe e he).bd p hp).mono (by decide), (F.fe e he).len, (F.fe e he).cum⟩
theorem Fam.ends {e : Pt × Pt} (he : e ∈ gs) : PtIn W e.1 /\ PtIn W e.2 := by
 rw [F.hgs] at he
 obtain ⟨p, hp, h⟩ := List.mem_flatMap.1 he
 obtain ⟨h1, h2⟩ := mem_edges h
 exact ⟨F.pts p hp _ h1, F.pts p hp _ h2⟩
theorem Fam.h {e : Pt × Pt} (he : e ∈ gs) : hE' e <= (N : Rat) - 1 := by
 have h1 := castLe (F.rows e he)
 push_cast at h1
 have := rows_h (e := e)
 grind
theorem Fam.w {e : Pt × Pt} (he : e ∈ gs) : wE e <= 128 + 2 * (W : Rat) := by
 obtain ⟨h1, h2⟩ := F.ends he
 obtain ⟨a1, b1⟩ := h1.px
 obtain ⟨a2, b2⟩ := h2.px
 obtain ⟨_, l2, l3⟩ := lX_rX e
 rw [<- l3]
 rcases l2 with ⟨p, q⟩ | ⟨p, q⟩ <;> rw [p, q] <;> grind
theorem Fam.z {e : Pt × Pt} (he : e ∈ gs) : (zcnt W (Ad e) : Rat) <= 2 * N + wE e + 16 / 5 /\ (3 <= W -> (zcnt W (Ad e) : Rat) <= 2 * N + 130 + W) /\ (W < 3 -> (zcnt W (Ad e) : Rat) <= 2 * N + 136) := by
 have f := F.fe e he
 have r := castLe (F.rows e he)
 push_cast at r
 have z1 := z_wide f F.hW
 refine ⟨by grind, fun h3 => ?_, fun h3 => ?_⟩
 ·have z2 := z_max f h3 (F.ends he).1 (F.ends he).2
  grind
 ·have w := F.w he
  have : (W : Rat) <= 2 := by exact_mod_cast (show W <= 2 by omega)
  grind
theorem Fam.own {e : Pt × Pt} (he : e ∈ gs) : 0 <= ownF W e /\ ownF W e <= 291 + 280 * N /\ (wE e < 40 -> ownF W e <= 261 + 1431 / 10 * N + 30) /\
  ∀ k : Rat, 40 <= k -> k <= wE e -> ownF W e <= (276 + 265 * N) * (((N : Rat) - 1) / k) + 15 + 15 * N := by
 have h := F.h he
 have h0 := hE'_nonneg e
 have r := castLe (F.rows e he)
 push_cast at r
 obtain ⟨r0, r1, r2⟩ := rhoE_bd e
 have hN0 : (0 : Rat) <= N := natNn N
 have hN2 : (2 : Rat) <= N := by exact_mod_cast F.N2
 have hR0 : (0 : Rat) <= (rowsE e : Rat) := by
  have := (castLe (show 0 <= rowsE e by unfold rowsE imax; split <;> omega))
  rwa [cast_zero] at this
 have oE : ∀ κ ρ : Rat, 0 <= κ -> rhoE e <= ρ -> ownE κ (rowsE e) e <= (276 + N * κ) * ρ + 15 + 15 * N := by
  intro κ ρ hκ hρ
  have q1 := Rat.mul_le_mul_of_nonneg_right r hκ
  have q2 : (0 : Rat) <= N * κ := Rat.mul_nonneg hN0 hκ
  have q3 := Rat.mul_le_mul_of_nonneg_right (show 276 + ((rowsE e : Int) : Rat) * κ <= 276 + N * κ by grind) r0
  have q4 := Rat.mul_le_mul_of_nonneg_left hρ (show 0 <= 276 + (N : Rat) * κ by grind)
  unfold ownE
  grind
 have o0 : ∀ κ : Rat, 0 <= κ -> 0 <= ownE κ (rowsE e) e := by
  intro κ hκ
  have q1 := Rat.mul_nonneg hR0 hκ
  have q2 := Rat.mul_nonneg (show 0 <= 276 + ((rowsE e : Int) : Rat) * κ by grind) r0
  unfold ownE
  grind
 have a1 := oE (1281 / 10) 1 (by decide +kernel) r1
 have a2 := oE 265 1 (by decide +kernel) r1
 have b1 := o0 (1281 / 10) (by decide +kernel)
 have b2 := o0 265 (by decide +kernel)
 refine ⟨?_, ?_, fun hw => ?_, fun k hk hw => ?_⟩
 ·unfold ownF
  split
  ·grind
  ·split
   ·exact b1
   ·exact b2
 ·unfold ownF
  split
  ·grind
  ·split
   ·grind
   ·grind
 ·unfold ownF
  rw [if_pos hw]
  split
  ·grind
  ·grind
 ·have ρk := rho_wide (m := (N : Rat) - 1) (k := k) h (by grind) hw
  have a3 := oE 265 _ (by decide +kernel) ρk
  have p0 : 0 <= ((276 : Rat) + 265 * N) * (((N : Rat) - 1) / k) := Rat.mul_nonneg (by grind) (div_pos0 (by grind) (by grind))
  unfold ownF
  rw [if_neg (show ¬ wE e < 40 by grind)]
  split
  ·grind
  ·grind
theorem Fam.closed (r : Int) : sumE (dR r) gs = 0 := by
 rw [F.hgs]
 exact sumE_flat0 fun p _ => closed_path p r
theorem Fam.win {pre t : List (Pt × Pt)} (h : pre ++ t = gs) (r : Int) : ab (sumE (dR r) pre) <= 1 := by
 have k := tel_several (fun v => ((ph r v.2 : Int) : Rat) / 64) (lo := 0) (hi := 1) (by decide) ls pre t (fun p _ v _ => by
  have a := ph_cases r v.2
  have c1 := castLe (show ph r v.2 <= 64 by omega)
  have c2 := castLe (show 0 <= ph r v.2 by omega)
  push_cast at c1 c2
  constructor <;> grind) (by rw [h, F.hgs])
 have e : sumE (fun e => ((ph r e.2.2 : Int) : Rat) / 64 - ((ph r e.1.2 : Int) : Rat) / 64) pre = sumE (dR r) pre := sumE_congr fun e _ => by
  unfold dR dph
  push_cast
  grind
 rw [e] at k
 grind
theorem Fam.sumO {pre t : List (Pt × Pt)} (h : pre ++ t = gs) {ob : Rat} (hob : ∀ e ∈ gs, ownF W e <= ob) (hob0 : 0 <= ob) : 0 <= sumE (dO W) pre /\ sumE (dO W) pre <= 48 * (ob * (1 / 16777216)) /\ (pre.length : Rat) <= 48 := by
 have hmem : ∀ e ∈ pre, e ∈ gs := fun e he => by rw [<- h]; simp [he]
 have hl : pre.length <= 48 := by
  have := F.n48
  rw [<- h, List.length_append] at this
  omega
 have hlr : (pre.length : Rat) <= 48 := by exact_mod_cast hl
 refine ⟨sumE_nonneg fun e he => Rat.mul_nonneg (F.own (hmem e he)).1 (by decide +kernel), ?_, hlr⟩
 have s := sumE_le (s := pre) (f := dO W) (g := fun _ => ob * (1 / 16777216)) fun e he => Rat.mul_le_mul_of_nonneg_right (hob e (hmem e he)) (by decide +kernel)
 rw [sumE_const] at s
 have := Rat.mul_le_mul_of_nonneg_right hlr (show 0 <= ob * (1 / 16777216) by grind)
 grind
theorem Fam.con0 {pre t : List (Pt × Pt)} (h : pre ++ t = gs) : ab (zcon W Ad pre 0) <= ((pre.length : Rat) + 1) / 2 + 2 * sumE (dO W) pre := by
 have hmem : ∀ e ∈ pre, e ∈ gs := fun e he => by rw [<- h]; simp [he]
 unfold zcon
 rw [cellR_flat]
 have key : ∀ e ∈ pre, ab (cellR (valL (Ad e)) (0 * W) - dR 0 e * mEdge 0 0 e) <= 2 * dO W e := by
  intro e he
  obtain ⟨f, g, h1, h2, h3, h4, h5⟩ := edge_cell F.eg F.hW (hmem e he) (X := 0) (Y := 0) F.hW F.hH0
  rw [if_pos rfl] at h3
  rw [if_neg (by omega)] at h4
  rw [h3, h4, Nat.add_zero] at h5
  have z : ((0 : Nat) : Int) = 0 := rfl
  rw [z] at h5
  have e1 : dR 0 e * mEdge 0 0 e + dR (0 - 1) e * 0 = dR 0 e * mEdge 0 0 e := by grind
  rw [e1] at h5
  exact h5
 have n1 := sumE_near2 key
 rw [sumE_mul] at n1
 have w1 := window (D := dR 0) (fun e he => mEdge_bd 0 0 e) (F.win h 0)
 have hs : sumE (fun e => ab (dR 0 e)) pre <= pre.length := by
  have := sumE_le (s := pre) (f := fun e => ab (dR 0 e)) (g := fun _ => 1) fun e he => by
   have := dR_two (e := e) (0 + 1)
   have p := ab_nonneg (dR (0 + 1) e)
   have e1 : (0 : Int) + 1 - 1 = 0 := rfl
   rw [e1] at this
   have d := dph_le 0 e
   unfold dR
   grind
  rw [sumE_const] at this
  grind
 have k1 := ab_add_le (sumE (fun e => cellR (valL (Ad e)) (0 * W)) pre - sumE (fun e => dR 0 e * mEdge 0 0 e) pre) (sumE (fun e => dR 0 e * mEdge 0 0 e) pre)
 rw [show sumE (fun e => cellR (valL (Ad e)) (0 * W)) pre - sumE (fun e => dR 0 e * mEdge 0 0 e) pre + sumE (fun e => dR 0 e * mEdge 0 0 e) pre = sumE (fun e => cellR (valL (Ad e)) (0 * W)) pre by grind] at k1
 grind
theorem Fam.con_q {q τ ob : Rat} (hq : ∀ e ∈ gs, ∀ r : Int, ab (dR (r - 1) e) + ab (dR r e) <= q) (hob : ∀ e ∈ gs, ownF W e <= ob) (hob0 : 0 <= ob) (hτ : 96 * (ob * (1 / 16777216)) <= τ) {pre t : List (Pt × Pt)} (h : pre ++ t = gs) {r : Nat} (hr : r < H) :
  ab (zcon W Ad pre r) <= q / 2 * pre.length + (1 + τ) := by
 obtain ⟨s0, s1, s2⟩ := F.sumO h hob hob0
 have k := content F.eg hq F.hW (pre := pre) (fun e he => by rw [<- h]; simp [he]) (fun r => F.win h r) (X := 0) (Y := r) F.hW hr
 rw [Nat.add_zero] at k
 unfold zcon
 grind
theorem Fam.con_tab {T : Tab} (hT : TabOk T) {τ ob : Rat} (hb : T.P.beta = 4096) (hbR : T.P.betaR = 4096) (hH : T.P.H = 134217728) (hk : T.P.k1 = 0) (ho : T.P.own = 0) (hl : T.P.bLR = 0) (hba : T.P.base = 0) (hw0 : T.w0 + 1 <= W) (hw1 : W <= T.w1 + 1)
  (hD : 2048 <= T.P.D) (hR : 2048 * 4294967296 <= T.R)
  (hob : ∀ e ∈ gs, ownF W e <= ob) (hob0 : 0 <= ob) (hτ : 96 * (ob * (1 / 16777216)) + 1 / 1000000 <= τ) {pre t : List (Pt × Pt)} (h : pre ++ t = gs) {r : Nat} (hr : r < H) :
  ab (zcon W Ad pre r) <= (T.P.D : Rat) / 4096 * pre.length + ((T.R : Rat) / 17592186044416 + τ) := by
 obtain ⟨s0, s1, s2⟩ := F.sumO h hob hob0
 have hDr := natLe hD
 have hRr := natLe hR
 have pl0 : (0 : Rat) <= pre.length := natNn _
 have hDn := Rat.mul_le_mul_of_nonneg_right hDr pl0
 have c1 : ((2048 : Nat) : Rat) = 2048 := rfl
 have c2 : ((2048 * 4294967296 : Nat) : Rat) = 8796093022208 := by decide +kernel
 rw [c1] at hDn
 rw [c2] at hRr
 rcases Nat.eq_zero_or_pos r with rfl | hr0
 ·have k := F.con0 h
  grind
 ·have hmem : ∀ e ∈ pre, e ∈ gs := fun e he => by rw [<- h]; simp [he]
  have hw0r := natLe hw0
  have hw1r := natLe hw1
  push_cast at hw0r hw1r
  have k := content_tab F.eg F.hW F.hH hT (by grind) (by grind) hr (.inl ⟨hr0, by rw [hbR, hb]⟩) F.hgs F.pts h (fun e he => ⟨(F.ends (hmem e he)).1, (F.ends (hmem e he)).2, by
   have h1 := F.h (hmem e he)
   have h2 : (N : Rat) <= 529 := by exact_mod_cast F.N529
   have h3 : ((T.P.H : Nat) : Rat) = 134217728 := by rw [hH]; rfl
   rw [h3]
   grind⟩) (L := fun _ => (T.P.D : Rat)) (fun o ho0 ho1 e he => by
   have z1 : ((T.P.k1 : Nat) : Rat) = 0 := by rw [hk]; rfl
   have z2 : othX T.P ((W : Rat) - 1) (lX e - o) (rX e - o) = 0 := by
    have y1 : ((T.P.bLR : Nat) : Rat) = 0 := by rw [hl]; rfl
    have y2 : ((T.P.base : Nat) : Rat) = 0 := by rw [hba]; rfl
    have y3 : ((T.P.own : Nat) : Rat) = 0 := by rw [ho]; rfl
    have y4 : ∀ x, ownRq T.P x = 0 := fun x => by
     unfold ownRq
     rw [y3, ho, Nat.zero_mul]
     simp only [Nat.zero_div]
     have : ((0 : Nat) : Rat) = 0 := rfl
     rw [this]
     split <;> (try split) <;> (try split) <;> rfl
    unfold othX
    rw [y1, y2, y4]
    split
    ·rfl
    ·split
     ·rfl
     ·split
      ·rfl
      ·grind
   unfold limO
   rw [z1, z2]
   grind) (by rw [hb]; decide)
  have hbr : ((T.P.beta : Nat) : Rat) = 4096 := by rw [hb]; rfl
  rw [sumE_const, hbr] at k
  unfold zcon
  grind
end
def kapF (n N : Nat) : Rat := (65700 + 6579 / 10 * ((n : Rat) * N)) * (1 / 16777216)
def SumOk (W H N : Nat) (gs : List (Pt × Pt)) (Ad : Pt × Pt -> List (Nat × Nat)) : Prop :=
 ∀ X Y, X < W -> Y < H -> ∃ a, (floBytes 0 (fadds (gs.flatMap Ad) (List.replicate (W * H) 0)))[Y * W + X]? = some (floByte a) /\ F32 a /\ ab (V a - areaR gs X Y) <= kapF gs.length N
def gF (n N : Nat) : Rat := ((N : Rat) - 1) * (4 / 10000) + kapF n N
section
variable {W H N : Nat} {ls : List (List Pt)} {gs : List (Pt × Pt)} {Ad : Pt × Pt -> List (Nat × Nat)} (F : Fam W H N ls gs Ad)
include F
theorem Fam.nP : (0 : Rat) <= gs.length /\ (gs.length : Rat) <= 48 /\ 0 <= (gs.length : Rat) * N /\ (2 : Rat) <= N /\ (N : Rat) <= 529 /\ (gs.length : Rat) * N <= 48 * N := by
 have h1 : (0 : Rat) <= gs.length := natNn _
 have h2 : (gs.length : Rat) <= 48 := by exact_mod_cast F.n48
 have h3 : (0 : Rat) <= N := natNn _
 exact ⟨h1, h2, Rat.mul_nonneg h1 h3, by exact_mod_cast F.N2, by exact_mod_cast F.N529, Rat.mul_le_mul_of_nonneg_right h2 h3⟩
theorem Fam.kap : 0 <= kapF gs.length N /\ kapF gs.length N <= 1 /\ kapF gs.length N <= (65700 + 315792 / 10 * (N : Rat)) * (1 / 16777216) := by
 obtain ⟨h1, h2, h3, h4, h5, h6⟩ := F.nP
 unfold kapF
 exact ⟨by grind, by grind, by grind⟩
theorem Fam.fin {Zb ob0 ob1 lb Wm : Rat} (hL : LevOk W H Ad gs (ownF W) (gF gs.length N) Zb) (hob : ∀ e ∈ gs, ownF W e <= ob0 + ob1 * N) (hlb : 628 + 3001 / 1000 * (N : Rat) <= lb) (hlb2 : lb <= 10000) (hWm : (W : Rat) <= Wm)
  (hnum : Zb + 2451 / 100 * ((gs.length : Rat) * N - gs.length) + lb * (65700 * gs.length + 315792 / 10 * ((gs.length : Rat) * N)) * (1 / 16777216) + Wm / 2 * ((gs.length : Rat) * N - gs.length) + 40000 * (1 / 16777216) * (ob0 * gs.length + ob1 * ((gs.length : Rat) * N) + 2 * (65700 + 6579 / 10 * ((gs.length : Rat) * N))) + 1 / 1000 <= 65700 + 6579 / 10 * ((gs.length : Rat) * N)) :
  SumOk W H N gs Ad := by
 intro X Y hX hY
 obtain ⟨n0, n1, p0, N2, N5, p1⟩ := F.nP
 obtain ⟨k0, k1, k2⟩ := F.kap
 obtain ⟨κ, hκ⟩ : ∃ κ, κ = kapF gs.length N := ⟨_, rfl⟩
 have hκe : κ = (65700 + 6579 / 10 * ((gs.length : Rat) * N)) * (1 / 16777216) := hκ
 rw [<- hκ] at k0 k1 k2
 have hδ : ∀ e ∈ gs, hE' e * (3 / 10000) + 1 / 100000000000000000000 <= ((N : Rat) - 1) * (4 / 10000) := fun e he => by
  have := F.h he
  grind
 have hhb : ∀ e ∈ gs, habsF e <= ((N : Rat) - 1) * (10004 / 10000) /\ lF e <= lb := fun e he => by
  have h := F.h he
  have w := F.w he
  have w2 : (W : Rat) <= 200 := by exact_mod_cast F.hW2
  have rr := castLe (F.rows e he)
  push_cast at rr
  unfold habsF lF
  exact ⟨by grind, by grind⟩
 have hS : sumE (dO W) gs = sumE (ownF W) gs * (1 / 16777216) := by
  rw [Rat.mul_comm, <- sumE_mul]
  exact sumE_congr fun e _ => by unfold dO; grind
 have hs0 : 0 <= sumE (ownF W) gs := sumE_nonneg fun e he => (F.own he).1
 have hs1 : sumE (ownF W) gs <= ob0 * gs.length + ob1 * ((gs.length : Rat) * N) := by
  have := sumE_le (s := gs) (f := ownF W) (g := fun _ => ob0 + ob1 * N) hob
  rw [sumE_const] at this
  grind
 have hh1 : sumE (fun e => hE' e / 2) gs <= ((gs.length : Rat) * N - gs.length) / 2 := by
  have := sumE_le (s := gs) (f := fun e => hE' e / 2) (g := fun _ => ((N : Rat) - 1) / 2) fun e he => by
   have := F.h he
   show hE' e / 2 <= ((N : Rat) - 1) / 2
   grind
  rw [sumE_const] at this
  grind
 have hW0 : (0 : Rat) <= W := natNn _
 have hWh : (W : Rat) * sumE (fun e => hE' e / 2) gs <= Wm / 2 * ((gs.length : Rat) * N - gs.length) := by
  have d0 : 0 <= (gs.length : Rat) * N - gs.length := by
   have := Rat.mul_le_mul_of_nonneg_left (show (1 : Rat) <= N by grind) n0
   grind
  have a := Rat.mul_le_mul_of_nonneg_left hh1 hW0
  have b := Rat.mul_le_mul_of_nonneg_right hWm (show 0 <= ((gs.length : Rat) * N - gs.length) / 2 by grind)
  grind
 have hWH0 : (0 : Rat) <= ((W * H : Nat) : Rat) := natNn _
 have hWH : ((W * H : Nat) : Rat) <= 40000 := by exact_mod_cast (show W * H <= 40000 from Nat.mul_le_mul F.hW2 F.hH)
 have hWHs : ((W * H : Nat) : Rat) * (sumE (dO W) gs + 2 * κ) <= 40000 * (1 / 16777216) * (ob0 * gs.length + ob1 * ((gs.length : Rat) * N) + 2 * (65700 + 6579 / 10 * ((gs.length : Rat) * N))) := by
  rw [hS]
  have a := Rat.mul_le_mul_of_nonneg_right hWH (show 0 <= sumE (ownF W) gs * (1 / 16777216) + 2 * κ by grind)
  rw [hκe] at a ⊢
  grind
 obtain ⟨C, hC⟩ : ∃ C, C = Zb * (1 / 16777216) - sumE (ownF W) gs * (1 / 16777216) + ((N : Rat) - 1) * (10004 / 10000) * (gs.length * (gs.length + 1) / 2) * (1 / 16777216) + gs.length * (lb * (κ * (1 / 16777216) + 1 / 1000000000000000000000000000000)) := ⟨_, rfl⟩
 have hint : ((N : Rat) - 1) * (10004 / 10000) * (gs.length * (gs.length + 1) / 2) <= 2451 / 100 * ((gs.length : Rat) * N - gs.length) := by
  have a := Rat.mul_le_mul_of_nonneg_left (show (gs.length : Rat) + 1 <= 49 by grind) n0
  have b := Rat.mul_le_mul_of_nonneg_left a (show 0 <= ((N : Rat) - 1) * (10004 / 20000) by grind)
  have c := Rat.mul_nonneg n0 (show 0 <= (N : Rat) - 1 by grind)
  grind
 have hlen : (gs.length : Rat) * (lb * (κ * (1 / 16777216) + 1 / 1000000000000000000000000000000)) <= lb * (65700 * gs.length + 315792 / 10 * ((gs.length : Rat) * N)) * (1 / 16777216) * (1 / 16777216) + 1 / 1000000000000000000 := by
  have lb0 : 0 <= lb := by grind
  have a := Rat.mul_le_mul_of_nonneg_right n1 p0
  have b := Rat.mul_le_mul_of_nonneg_left a (show 0 <= lb * (6579 / 10 * (1 / 16777216) * (1 / 16777216)) by grind)
  have c := Rat.mul_le_mul_of_nonneg_left n1 lb0
  rw [hκe]
  grind
 have hmain : totF W H (dO W) C κ gs + sumE (dO W) gs <= κ := by
  unfold totF
  rw [hC, hS]
  rw [hS] at hWHs
  generalize ((W * H : Nat) : Rat) * (sumE (ownF W) gs * (1 / 16777216) + 2 * κ) = z1 at *
  generalize (W : Rat) * sumE (fun e => hE' e / 2) gs = z2 at *
  generalize (gs.length : Rat) * (lb * (κ * (1 / 16777216) + 1 / 1000000000000000000000000000000)) = z3 at *
  generalize ((N : Rat) - 1) * (10004 / 10000) * (gs.length * (gs.length + 1) / 2) = z4 at *
  generalize ((W * H : Nat) : Rat) = z5 at *
  generalize (gs.length : Rat) * N = z6 at *
  generalize lb * (65700 * (gs.length : Rat) + 315792 / 10 * z6) = z7 at *
  generalize Wm / 2 * (z6 - (gs.length : Rat)) = z8 at *
  generalize sumE (ownF W) gs = z9 at *
  generalize 40000 * (1 / 16777216) * (ob0 * (gs.length : Rat) + ob1 * z6 + 2 * (65700 + 6579 / 10 * z6)) = z10 at *
  grind
 have hd0 : 0 <= sumE (dO W) gs := by rw [hS]; grind
 obtain ⟨_, hd100, _⟩ := F.sumO (pre := gs) (t := []) (by simp) (ob := 291 + 280 * 529) (fun e he => by
  have := (F.own he).2.1
  grind) (by decide +kernel)
 have htot : totF W H (dO W) C κ gs <= κ := by grind
 have hCκ : C <= κ := by
  have h1 : C <= totF W H (dO W) C κ gs := by
   unfold totF
   have hh0 : 0 <= sumE (fun e => hE' e / 2) gs := sumE_nonneg fun e _ => by have := hE'_nonneg e; grind
   have a := Rat.mul_nonneg hW0 hh0
   have b := Rat.mul_nonneg hWH0 (show 0 <= sumE (dO W) gs + 2 * κ by grind)
   have c := Rat.mul_nonneg hWH0 (show (0 : Rat) <= 1 / 1000000000000000000000000000000 by decide +kernel)
   grind
  grind
 have hcells := cells_lev F.fe (fun e he => (F.eg e he).len) F.hW (κ := κ) (δ := ((N : Rat) - 1) * (4 / 10000)) (Zb := Zb) (hb := ((N : Rat) - 1) * (10004 / 10000)) (lb := lb) k0 hδ (by rw [hκ]; exact hL) hhb (C := C) (by rw [hC]; exact Rat.le_refl) hCκ
 obtain ⟨a, m1, m2, m3⟩ := gaccF F.eg F.hW F.hH0 (Cst := C) (κ := κ) (Δ := 100) k0 k1 F.closed (by grind) (by decide) (by have := F.n48; omega) hcells htot hX hY
 refine ⟨a, m1, m2, ?_⟩
 rw [<- hκ]
 grind
end
def EndNum (N0 a0 O ob0 ob1 O1 lb Wm : Rat) (K Et : Nat) : Prop :=
 2 * K / 48 + O1 + 2451 / 100 + lb * (315792 / 10) * (1 / 16777216) + Wm / 2 + 40000 * (1 / 16777216) * (ob1 + 2 * (6579 / 10)) <= 6579 / 10 /\
 (Et : Rat) + 40000 * (1 / 16777216) * (2 * 65700) + 1 / 1000 <= 65700 /\
 (Et : Rat) + 40000 * (1 / 16777216) * (2 * 65700) + 1 / 1000 + 48 * ((a0 * K / 48 + O - 2451 / 100 + lb * 65700 * (1 / 16777216) - Wm / 2 + 40000 * (1 / 16777216) * ob0) +
  (2 * K / 48 + O1 + 2451 / 100 + lb * (315792 / 10) * (1 / 16777216) + Wm / 2 + 40000 * (1 / 16777216) * (ob1 + 2 * (6579 / 10)) - 6579 / 10) * N0) <= 65700
theorem end_num {n N N0 a0 O ob0 ob1 O1 lb Wm : Rat} {K Et : Nat} (h : EndNum N0 a0 O ob0 ob1 O1 lb Wm K Et) (n0 : 0 <= n) (n1 : n <= 48) (hN : N0 <= N) :
  (n * ((a0 + 2 * N) * K / 48 + (O + O1 * N)) + Et) + 2451 / 100 * (n * N - n) + lb * (65700 * n + 315792 / 10 * (n * N)) * (1 / 16777216) + Wm / 2 * (n * N - n) + 40000 * (1 / 16777216) * (ob0 * n + ob1 * (n * N) + 2 * (65700 + 6579 / 10 * (n * N))) + 1 / 1000 <= 65700 + 6579 / 10 * (n * N) := by
 obtain ⟨h1, h2, h3⟩ := h
 obtain ⟨cP, hcP⟩ : ∃ cP : Rat, cP = 2 * (K : Rat) / 48 + O1 + 2451 / 100 + lb * (315792 / 10) * (1 / 16777216) + Wm / 2 + 40000 * (1 / 16777216) * (ob1 + 2 * (6579 / 10)) := ⟨_, rfl⟩
 obtain ⟨cn, hcn⟩ : ∃ cn : Rat, cn = a0 * (K : Rat) / 48 + O - 2451 / 100 + lb * 65700 * (1 / 16777216) - Wm / 2 + 40000 * (1 / 16777216) * ob0 := ⟨_, rfl⟩
 obtain ⟨c0, hc0⟩ : ∃ c0 : Rat, c0 = (Et : Rat) + 40000 * (1 / 16777216) * (2 * 65700) + 1 / 1000 := ⟨_, rfl⟩
 rw [<- hcP] at h1
 rw [<- hc0] at h2
 rw [<- hcP, <- hcn, <- hc0] at h3
 have e : (n * ((a0 + 2 * N) * K / 48 + (O + O1 * N)) + Et) + 2451 / 100 * (n * N - n) + lb * (65700 * n + 315792 / 10 * (n * N)) * (1 / 16777216) + Wm / 2 * (n * N - n) + 40000 * (1 / 16777216) * (ob0 * n + ob1 * (n * N) + 2 * (65700 + 6579 / 10 * (n * N))) + 1 / 1000 = c0 + cn * n + cP * (n * N) := by
  rw [hcP, hcn, hc0]
  grind
 rw [e]
 have a := Rat.mul_le_mul_of_nonneg_left hN n0
 have b := Rat.mul_le_mul_of_nonneg_left a (show 0 <= 6579 / 10 - cP by grind)
 obtain ⟨s, hs⟩ : ∃ s : Rat, s = cn + (cP - 6579 / 10) * N0 := ⟨_, rfl⟩
 rw [<- hs] at h3
 have key : c0 + s * n <= 65700 := by
  by_cases c : 0 <= s
  ·have := Rat.mul_le_mul_of_nonneg_left n1 c
   grind
  ·have := Rat.mul_nonneg (show 0 <= -s by grind) n0
   grind
 have e2 : s * n = cn * n + (cP - 6579 / 10) * (n * N0) := by rw [hs]; grind
 grind
def TimesOk (t1 t2 t3 t4 t5 : Nat) (rate c γ : Rat) : Prop :=
 (t1 = 0 ∨ rate * t1 + c + γ <= 2) /\ (t2 = 0 ∨ rate * t2 + c + γ <= 4) /\ (t3 = 0 ∨ rate * t3 + c + γ <= 8) /\ rate * t4 + c + γ <= 16 /\ rate * t5 + c + γ <= 32 /\ rate * 48 + c + γ <= 64 /\ 0 <= rate
def KOk (t1 t2 t3 t4 t5 e1 e2 e4 K Et : Nat) : Prop := ∀ n, n < 49 -> 48 * sNat (kvT t1 t2 t3 t4 t5) n <= n * K /\ sNat (evT t1 t2 t3 e1 e2 e4) n <= Et
def FlatNum (M a0 O o1 o2 o3 zm ob lb Wm γ : Rat) (t1 e1 e2 e4 : Nat) : Prop :=
 (t1 = 0 ∨ 216 / 5 + o1 <= a0 + O + e1 /\ zm + o2 <= a0 + O + e1) /\ (2 * (216 / 5) + o1 <= 2 * a0 + O + e2 /\ 2 * zm + o2 <= 2 * a0 + O + e2) /\ (4 * (216 / 5) + o1 <= 4 * a0 + O + e4 /\ 4 * zm + o2 <= 4 * a0 + O + e4) /\ (8 * (216 / 5) + o1 <= 8 * a0 + O /\ 8 * zm + o2 <= 8 * a0 + O) /\
 (o3 <= O /\ 216 / 5 <= a0 /\ zm <= a0 /\ (1016 / 5 <= zm ∨ zm = a0) /\ 136 <= a0 /\ 130 + Wm <= a0 /\ 0 <= O) /\
 (291 + 1431 / 10 * M <= o1 /\ (276 + 265 * M) * ((M - 1) / 40) + 15 + 15 * M <= o2 /\ (276 + 265 * M) * ((M - 1) / 200) + 15 + 15 * M <= o3 /\ o1 <= ob /\ o2 <= ob /\ o3 <= ob /\ 0 <= ob) /\
 628 + 3001 / 1000 * M <= lb /\ lb <= 10000 /\ (M - 1) * (4 / 10000) + (65700 + 315792 / 10 * M) * (1 / 16777216) <= γ
section
variable {W H N : Nat} {ls : List (List Pt)} {gs : List (Pt × Pt)} {Ad : Pt × Pt -> List (Nat × Nat)} (F : Fam W H N ls gs Ad)
include F
theorem Fam.a0 {a0 Wm : Rat} (h1 : 136 <= a0) (h2 : 130 + Wm <= a0) (hWm : (W : Rat) <= Wm) {e : Pt × Pt} (he : e ∈ gs) : (zcnt W (Ad e) : Rat) <= a0 + 2 * N := by
 obtain ⟨z1, z2, z3⟩ := F.z he
 by_cases h : 3 <= W
 ·have := z2 h
  grind
 ·have := z3 (by omega)
  grind
theorem Fam.cls {M : Rat} (hM : (N : Rat) <= M) {e : Pt × Pt} (he : e ∈ gs) :
  (wE e <= 40 /\ ownF W e <= 291 + 1431 / 10 * M) ∨ (wE e <= 200 /\ ownF W e <= (276 + 265 * M) * ((M - 1) / 40) + 15 + 15 * M) ∨ ownF W e <= (276 + 265 * M) * ((M - 1) / 200) + 15 + 15 * M := by
 obtain ⟨o1, o2, o3, o4⟩ := F.own he
 obtain ⟨n0, n1, p0, N2, N5, p1⟩ := F.nP
 have up : ∀ k : Rat, 0 < k -> (276 + 265 * (N : Rat)) * (((N : Rat) - 1) / k) <= (276 + 265 * M) * ((M - 1) / k) := by
  intro k hk
  have i0 : 0 <= k⁻¹ := Rat.le_of_lt (Rat.inv_pos.2 hk)
  have a := Rat.mul_le_mul_of_nonneg_right (show (N : Rat) - 1 <= M - 1 by grind) i0
  have b0 := Rat.mul_nonneg (show 0 <= (N : Rat) - 1 by grind) i0
  have b := Rat.mul_le_mul_of_nonneg_left a (show 0 <= 276 + 265 * M by grind)
  have c := Rat.mul_le_mul_of_nonneg_right (show 276 + 265 * (N : Rat) <= 276 + 265 * M by grind) b0
  rw [Rat.div_def, Rat.div_def]
  grind
 by_cases h1 : wE e < 40
 ·have := o3 h1
  exact .inl ⟨by grind, by grind⟩
 ·by_cases h2 : wE e < 200
  ·have k := o4 40 (by decide) (by grind)
   have := up 40 (by decide)
   exact .inr (.inl ⟨by grind, by grind⟩)
  ·have k := o4 200 (by decide) (by grind)
   have := up 200 (by decide)
   exact .inr (.inr (by grind))
theorem Fam.flatM {N0 M a0 O o1 o2 o3 zm ob lb Wm rate c γ : Rat} {t1 t2 t3 t4 t5 e1 e2 e4 K Et : Nat} (hN0 : N0 <= (N : Rat)) (hM : (N : Rat) <= M) (hWm : (W : Rat) <= Wm) (hf : FlatNum M a0 O o1 o2 o3 zm ob lb Wm γ t1 e1 e2 e4) (he : EndNum N0 a0 O ob 0 0 lb Wm K Et)
  (ht : TimesOk t1 t2 t3 t4 t5 rate c γ) (hk : KOk t1 t2 t3 t4 t5 e1 e2 e4 K Et) (hcon : (∀ e ∈ gs, ownF W e <= ob) -> ∀ pre t, pre ++ t = gs -> ∀ r, r < H -> ab (zcon W Ad pre r) <= rate * pre.length + c) : SumOk W H N gs Ad := by
 obtain ⟨n0, n1, p0, N2, N5, p1⟩ := F.nP
 obtain ⟨k0, k1, k2⟩ := F.kap
 obtain ⟨c1, c2, c4, c8, ⟨g1, g2, g3, g4, g5, g6, g7⟩, ⟨v1, v2, v3, v4, v5, v6, v7⟩, l1, l2, hγ⟩ := hf
 obtain ⟨q1, q2, q3, q4, q5, q6, q7⟩ := ht
 have hob : ∀ e ∈ gs, ownF W e <= ob := fun e he => by
  rcases F.cls hM he with ⟨_, h⟩ | ⟨_, h⟩ | h <;> grind
 have hg : gF gs.length N <= γ := by
  unfold gF
  grind
 have L := flat_all (H := H) (Ad := Ad) (own := ownF W) (g := gF gs.length N) (m := fun j => rate * j + c) (t1 := t1) (t2 := t2) (t3 := t3) (t4 := t4) (t5 := t5) (e1 := e1) (e2 := e2) (e4 := e4) (K := K) (Et := Et) (A := a0 + 2 * N) (O := O) F.n48 (fun i j hij => by
   have := Rat.mul_le_mul_of_nonneg_left (natLe hij) q7
   show rate * (i : Rat) + c <= rate * (j : Rat) + c
   grind) (hcon hob)
  (by rcases q1 with h | h; exact .inl h; exact .inr (by grind)) (by rcases q2 with h | h; exact .inl h; exact .inr (by grind)) (by rcases q3 with h | h; exact .inl h; exact .inr (by grind)) (by grind) (by grind) (by grind) hk (by grind) g7 (fun e he => by
   have za := F.a0 g5 g6 hWm he
   obtain ⟨z1, _, _⟩ := F.z he
   have cl := F.cls hM he
   generalize (zcnt W (Ad e) : Rat) = z at *
   generalize ownF W e = o at *
   rcases cl with ⟨w, h⟩ | ⟨w, h⟩ | h
   ·have hz : z <= 2 * N + 216 / 5 := by grind
    have ho : o <= o1 := by grind
    refine ⟨?_, by grind, by grind, by grind, za⟩
    rcases c1 with h | h
    ·exact .inl h
    ·exact .inr (by grind)
   ·have hz : z <= 2 * N + zm := by
     rcases g4 with g | g
     ·grind
     ·grind
    have ho : o <= o2 := by grind
    refine ⟨?_, by grind, by grind, by grind, za⟩
    rcases c1 with h | h
    ·exact .inl h
    ·exact .inr (by grind)
   ·have ho : o <= O := by grind
    have e1n : (0 : Rat) <= e1 := natNn _
    have e2n : (0 : Rat) <= e2 := natNn _
    have e4n : (0 : Rat) <= e4 := natNn _
    exact ⟨.inr (by grind), by grind, by grind, by grind, za⟩)
 refine F.fin (ob0 := ob) (ob1 := 0) (lb := lb) (Wm := Wm) L (fun e he => by have := hob e he; grind) (by grind) l2 hWm ?_
 have := end_num he n0 n1 hN0
 grind
def CrudeNum (a0 Wm : Rat) : Prop := 136 <= a0 /\ 130 + Wm <= a0
theorem Fam.flatC {a0 Wm rate c : Rat} {t1 t2 t3 t4 t5 K : Nat} (hN0 : 12 <= N) (hWm : (W : Rat) <= Wm) (hf : CrudeNum a0 Wm) (he : EndNum 12 a0 291 291 280 280 2217 Wm K 0)
  (ht : TimesOk t1 t2 t3 t4 t5 rate c (122 / 100)) (hk : KOk t1 t2 t3 t4 t5 0 0 0 K 0) (hcon : (∀ e ∈ gs, ownF W e <= 148411) -> ∀ pre t, pre ++ t = gs -> ∀ r, r < H -> ab (zcon W Ad pre r) <= rate * pre.length + c) : SumOk W H N gs Ad := by
 obtain ⟨n0, n1, p0, N2, N5, p1⟩ := F.nP
 obtain ⟨k0, k1, k2⟩ := F.kap
 obtain ⟨q1, q2, q3, q4, q5, q6, q7⟩ := ht
 have hN0r : (12 : Rat) <= N := by exact_mod_cast hN0
 have hg : gF gs.length N <= 122 / 100 := by
  unfold gF
  grind
 have z0 : ((0 : Nat) : Rat) = 0 := rfl
 have L := flat_all (H := H) (Ad := Ad) (own := ownF W) (g := gF gs.length N) (m := fun j => rate * j + c) (t1 := t1) (t2 := t2) (t3 := t3) (t4 := t4) (t5 := t5) (e1 := 0) (e2 := 0) (e4 := 0) (K := K) (Et := 0) (A := a0 + 2 * N) (O := 291 + 280 * N) F.n48 (fun i j hij => by
   have := Rat.mul_le_mul_of_nonneg_left (natLe hij) q7
   show rate * (i : Rat) + c <= rate * (j : Rat) + c
   grind) (hcon fun e he => by have := (F.own he).2.1; grind)
  (by rcases q1 with h | h; exact .inl h; exact .inr (by grind)) (by rcases q2 with h | h; exact .inl h; exact .inr (by grind)) (by rcases q3 with h | h; exact .inl h; exact .inr (by grind)) (by grind) (by grind) (by grind) hk (by have := hf.1; grind) (by grind) (fun e he => by
   have za := F.a0 hf.1 hf.2 hWm he
   have ho := (F.own he).2.1
   rw [z0]
   exact ⟨.inr (by grind), by grind, by grind, by grind, za⟩)
 refine F.fin (ob0 := 291) (ob1 := 280) (lb := 2217) (Wm := Wm) L (fun e he => (F.own he).2.1) (by grind) (by decide) hWm ?_
 have := end_num he n0 n1 hN0r
 exact this
end
theorem limA2 : LimOk parA2 126 1 5404 := by constructor <;> first | rfl | decide +kernel
theorem limA2z : LimOk parA2z 126 1 5404 := by constructor <;> first | rfl | decide +kernel
theorem limA3 : LimOk parA3 155 2 5456 := by constructor <;> first | rfl | decide +kernel
theorem limA3z : LimOk parA3z 155 2 5456 := by constructor <;> first | rfl | decide +kernel
theorem limB2 : LimOk parB2 115 1 4300 := by constructor <;> first | rfl | decide +kernel
theorem limB2z : LimOk parB2z 115 1 4300 := by constructor <;> first | rfl | decide +kernel
def TabNum (T : Tab) (m : Nat) (γ τ X : Rat) : Prop := (m : Rat) * 65536 <= (T.P.H : Rat) /\ 0 < T.P.beta /\ X <= (T.P.beta : Rat) * (16 - γ) - (T.R : Rat) / 4294967296 - T.P.beta * τ
def BigNum (M a0 D16 o1 o2 o3 ob lb Wm γ X : Rat) : Prop :=
 (16 * (2 * M + 216 / 5) + o1 <= D16 /\ 16 * (2 * M + 1016 / 5) + o2 <= D16 /\ 16 * (2 * M + a0) + o3 <= D16) /\
 (136 <= a0 /\ 130 + Wm <= a0) /\
 (291 + 1431 / 10 * M <= o1 /\ (276 + 265 * M) * ((M - 1) / 40) + 15 + 15 * M <= o2 /\ (276 + 265 * M) * ((M - 1) / 200) + 15 + 15 * M <= o3 /\ o1 <= ob /\ o2 <= ob /\ o3 <= ob /\ 0 <= ob) /\
 628 + 3001 / 1000 * M <= lb /\ lb <= 10000 /\ (M - 1) * (4 / 10000) + (65700 + 315792 / 10 * M) * (1 / 16777216) <= γ /\ γ <= 1 /\ 0 <= X
def BigEnd (M a0 D16 ob lb Wm X : Rat) : Prop :=
 8 * (2 * M + a0) - X + 40000 * (1 / 16777216) * (2 * 65700) + 1 / 1000 <= 65700 /\
 8 * (2 * M + a0) - X + 40000 * (1 / 16777216) * (2 * 65700) + 1 / 1000 + 48 * (D16 + 2451 / 100 * (M - 1) + lb * (65700 + 315792 / 10 * M) * (1 / 16777216) + Wm / 2 * (M - 1) + 40000 * (1 / 16777216) * (ob + 2 * (6579 / 10 * M)) - 6579 / 10 * M) <= 65700
section
variable {W H N : Nat} {ls : List (List Pt)} {gs : List (Pt × Pt)} {Ad : Pt × Pt -> List (Nat × Nat)} (F : Fam W H N ls gs Ad)
include F
theorem Fam.big {T : Tab} (hT : TabOk T) {r : Nat} (hf : ForRow T r) {Wmin m : Nat} {D16 γ τ ob X c : Rat} (hl : LimOk T.P Wmin m D16) (hw0 : T.w0 + 1 <= W) (hw1 : W <= T.w1 + 1) (hm : N <= m + 1) (hW3 : 3 <= W) (hWm : Wmin + 1 <= W) (hWm0 : 0 < Wmin) (hn : TabNum T m γ τ X)
  (hob : ∀ e ∈ gs, ownF W e <= ob) (hob0 : 0 <= ob) (hτ : 96 * (ob * (1 / 16777216)) + 1 / 1000000 <= τ) {pre t : List (Pt × Pt)} (h : pre ++ t = gs) (hr : r < H) (hc : 16 - γ <= c) (hcr : c < ab (zcon W Ad pre r)) :
  X <= sumE (fun e => D16 - 8 * (zcnt W (Ad e) : Rat) - ownF W e) pre := by
 obtain ⟨n1, n2, n3⟩ := hn
 obtain ⟨s0, s1, s2⟩ := F.sumO h hob hob0
 have hmem : ∀ e ∈ pre, e ∈ gs := fun e he => by rw [<- h]; simp [he]
 have hw0r := natLe hw0
 have hw1r := natLe hw1
 push_cast at hw0r hw1r
 have hb0 : (0 : Rat) < T.P.beta := by exact_mod_cast n2
 have hmr := natLe hm
 push_cast at hmr
 have hh : ∀ e ∈ gs, hE' e <= m := fun e he => by
  have := F.h he
  grind
 have k := content_tab F.eg F.hW F.hH hT (by grind) (by grind) hr hf F.hgs F.pts h (fun e he => ⟨(F.ends (hmem e he)).1, (F.ends (hmem e he)).2, by
  have := hh e (hmem e he)
  grind⟩) (L := fun e => D16 - 8 * (zcnt W (Ad e) : Rat) - ownF W e) (fun o ho0 ho1 e he => lim_le hl (hh e (hmem e he)) (by have := F.rows e (hmem e he); omega) hW3 (by omega) hWm0 (F.fe e (hmem e he)) ho0 ho1) n2
 have a := Rat.mul_le_mul_of_nonneg_left (show 16 - γ <= ab (zcon W Ad pre r) by grind) (Rat.le_of_lt hb0)
 have b := Rat.mul_le_mul_of_nonneg_left (show 2 * sumE (dO W) pre + 2 * (pre.length : Rat) * (1 / 1000000000) <= τ by grind) (Rat.le_of_lt hb0)
 unfold zcon at a
 grind
theorem Fam.tabM {T Tz : Tab} (hT : TabOk T) (hTz : TabOk Tz) {Wmin m : Nat} {M a0 D16 γ τ ob X o1 o2 o3 lb Wm O c32 : Rat} {t3 K : Nat} (hl : LimOk T.P Wmin m D16) (hlz : LimOk Tz.P Wmin m D16) (hbR : T.P.betaR = T.P.beta) (hbz : Tz.P.betaR = 0)
  (hw0 : T.w0 + 1 <= W) (hw1 : W <= T.w1 + 1) (hw0z : Tz.w0 + 1 <= W) (hw1z : W <= Tz.w1 + 1) (hNm : N = m + 1) (hMm : (m : Rat) + 1 = M) (hW3 : 3 <= W) (hWmn : Wmin + 1 <= W) (hWm0 : 0 < Wmin) (hWm : (W : Rat) <= Wm)
  (hn : TabNum T m γ τ X) (hnz : TabNum Tz m γ τ X) (hτ : 96 * (ob * (1 / 16777216)) + 1 / 1000000 <= τ) (hbn : BigNum M a0 D16 o1 o2 o3 ob lb Wm γ X) (hbe : BigEnd M a0 D16 ob lb Wm X)
  (h32 : (∀ e ∈ gs, ownF W e <= ob) -> ∀ pre t, pre ++ t = gs -> ∀ r, r < H -> ab (zcon W Ad pre r) <= c32) (hc32 : c32 + γ <= 32)
  (hsmall : t3 = 0 ∨ ((∀ e ∈ gs, ownF W e <= ob) -> ∀ pre t, pre ++ t = gs -> ∀ r, r < H -> ab (zcon W Ad pre r) <= 1 / 2 * pre.length + (1 + τ)) /\ 1 / 2 * (t3 : Rat) + (1 + τ) + γ <= 8)
  (hK : KOk 0 0 t3 48 48 0 1000 0 K 0) (hend : EndNum M a0 O ob 0 0 lb Wm K 0) (hO : 4 * (216 / 5) + o1 <= 4 * a0 + O /\ 4 * (1016 / 5) + o2 <= 4 * a0 + O /\ o3 <= O /\ o1 <= 1000 /\ o2 <= 1000 /\ 216 / 5 <= a0 /\ 1016 / 5 <= a0 /\ 0 <= O) : SumOk W H N gs Ad := by
 obtain ⟨n0, n1, p0, N2, N5, p1⟩ := F.nP
 obtain ⟨k0, k1, k2⟩ := F.kap
 obtain ⟨⟨d1, d2, d3⟩, ⟨g5, g6⟩, ⟨v1, v2, v3, v4, v5, v6, v7⟩, l1, l2, hγ, hγ1, hX0⟩ := hbn
 have hNM : (N : Rat) = M := by rw [hNm, <- hMm]; push_cast; rfl
 have hob : ∀ e ∈ gs, ownF W e <= ob := fun e he => by
  rcases F.cls (M := M) (by grind) he with ⟨_, h⟩ | ⟨_, h⟩ | h <;> grind
 have hg : gF gs.length N <= γ := by
  unfold gF
  grind
 have hg0 : 0 <= gF gs.length N := by
  unfold gF
  grind
 obtain ⟨c, hc⟩ : ∃ c, c = 16 - gF gs.length N := ⟨_, rfl⟩
 by_cases hall : ∀ pre t, pre ++ t = gs -> ∀ r, r < H -> ab (zcon W Ad pre r) <= c
 ·have hm13 : t3 = 0 ∨ 1 / 2 * (t3 : Rat) + (1 + τ) <= c := by
   rcases hsmall with h | ⟨_, h⟩
   ·exact .inl h
   ·exact .inr (by grind)
  have L := flat_all (H := H) (Ad := Ad) (own := ownF W) (g := gF gs.length N) (m := fun j => if 0 < t3 /\ j <= t3 then 1 / 2 * (j : Rat) + (1 + τ) else c) (t1 := 0) (t2 := 0) (t3 := t3) (t4 := 48) (t5 := 48) (e1 := 0) (e2 := 1000) (e4 := 0) (K := K) (Et := 0) (A := a0 + 2 * N) (O := O) F.n48 (fun i j hij => by
    show (if 0 < t3 /\ i <= t3 then 1 / 2 * (i : Rat) + (1 + τ) else c) <= if 0 < t3 /\ j <= t3 then 1 / 2 * (j : Rat) + (1 + τ) else c
    have hijr := natLe hij
    by_cases c1 : 0 < t3 /\ j <= t3
    ·rw [if_pos c1, if_pos ⟨c1.1, by omega⟩]
     grind
    ·rw [if_neg c1]
     by_cases c2 : 0 < t3 /\ i <= t3
     ·rw [if_pos c2]
      have := natLe c2.2
      rcases hm13 with h | h
      ·omega
      ·grind
     ·rw [if_neg c2]
      exact Rat.le_refl) (fun pre t h r hr => by
    show _ <= if 0 < t3 /\ pre.length <= t3 then 1 / 2 * (pre.length : Rat) + (1 + τ) else c
    by_cases c1 : 0 < t3 /\ pre.length <= t3
    ·rw [if_pos c1]
     rcases hsmall with h0 | ⟨h0, _⟩
     ·omega
     ·exact h0 hob pre t h r hr
    ·rw [if_neg c1]
     exact hall pre t h r hr) (.inl rfl) (.inl rfl) (by
    rcases Nat.eq_zero_or_pos t3 with h0 | h0
    ·exact .inl h0
    ·right
     show (if 0 < t3 /\ t3 <= t3 then 1 / 2 * (t3 : Rat) + (1 + τ) else c) + _ <= 8
     rw [if_pos ⟨h0, Nat.le_refl _⟩]
     rcases hsmall with h1 | ⟨_, h1⟩
     ·omega
     ·grind) (by
    show (if 0 < t3 /\ 48 <= t3 then 1 / 2 * ((48 : Nat) : Rat) + (1 + τ) else c) + _ <= 16
    by_cases c1 : 0 < t3 /\ 48 <= t3
    ·exfalso
     have := natLe c1.2
     have e48 : ((48 : Nat) : Rat) = 48 := rfl
     rw [e48] at this
     have t0 : 0 <= τ := by grind
     rcases hm13 with h | h
     ·omega
     ·grind
    ·rw [if_neg c1]
     grind) (by
    show (if 0 < t3 /\ 48 <= t3 then 1 / 2 * ((48 : Nat) : Rat) + (1 + τ) else c) + _ <= 32
    by_cases c1 : 0 < t3 /\ 48 <= t3
    ·exfalso
     have := natLe c1.2
     have e48 : ((48 : Nat) : Rat) = 48 := rfl
     rw [e48] at this
     have t0 : 0 <= τ := by grind
     rcases hm13 with h | h
     ·omega
     ·grind
    ·rw [if_neg c1]
     grind) (by
    show (if 0 < t3 /\ 48 <= t3 then 1 / 2 * ((48 : Nat) : Rat) + (1 + τ) else c) + _ <= 64
    by_cases c1 : 0 < t3 /\ 48 <= t3
    ·exfalso
     have := natLe c1.2
     have e48 : ((48 : Nat) : Rat) = 48 := rfl
     rw [e48] at this
     have t0 : 0 <= τ := by grind
     rcases hm13 with h | h
     ·omega
     ·grind
    ·rw [if_neg c1]
     grind) hK (by grind) hO.2.2.2.2.2.2.2 (fun e he => by
    have za := F.a0 g5 g6 hWm he
    obtain ⟨z1, _, _⟩ := F.z he
    have cl := F.cls (M := M) (by grind) he
    obtain ⟨u1, u2, u3, u4, u5, u6, u7, u8⟩ := hO
    have z00 : ((0 : Nat) : Rat) = 0 := rfl
    have z10 : ((1000 : Nat) : Rat) = 1000 := rfl
    rw [z00, z10]
    generalize (zcnt W (Ad e) : Rat) = z at *
    generalize ownF W e = o at *
    rcases cl with ⟨w, h⟩ | ⟨w, h⟩ | h
    ·have hz : z <= 2 * N + 216 / 5 := by grind
     exact ⟨.inl rfl, by grind, by grind, by grind, za⟩
    ·have hz : z <= 2 * N + 1016 / 5 := by grind
     exact ⟨.inl rfl, by grind, by grind, by grind, za⟩
    ·exact ⟨.inl rfl, by grind, by grind, by grind, za⟩)
  refine F.fin (ob0 := ob) (ob1 := 0) (lb := lb) (Wm := Wm) L (fun e he => by have := hob e he; grind) (by grind) l2 hWm ?_
  have := end_num hend n0 n1 (show M <= (N : Rat) by grind)
  grind
 ·have L := lev_tab (W := W) (H := H) (Ad := Ad) (gs := gs) (own := ownF W) (g := gF gs.length N) (c := c) (D16 := D16) (X := X) (am := 2 * M + a0) (Zb := gs.length * D16 - X + 8 * (2 * M + a0)) (by grind) (by grind) (fun pre t h r hr => by
    have := h32 hob pre t h r hr
    grind) (fun e he => by
    have za := F.a0 g5 g6 hWm he
    obtain ⟨z1, _, _⟩ := F.z he
    have cl := F.cls (M := M) (by grind) he
    refine ⟨?_, by grind⟩
    generalize (zcnt W (Ad e) : Rat) = z at *
    generalize ownF W e = o at *
    rcases cl with ⟨w, h⟩ | ⟨w, h⟩ | h <;> grind) (fun pre t h r hr hcr => by
    rcases Nat.eq_zero_or_pos r with h0 | h0
    ·exact F.big hTz (.inr ⟨h0, hbz⟩) hlz hw0z hw1z (by omega) hW3 hWmn hWm0 hnz hob v7 hτ h hr (by grind) hcr
    ·exact F.big hT (.inl ⟨h0, hbR⟩) hl hw0 hw1 (by omega) hW3 hWmn hWm0 hn hob v7 hτ h hr (by grind) hcr) Rat.le_refl (fun h => absurd h hall)
  refine F.fin (ob0 := ob) (ob1 := 0) (lb := lb) (Wm := Wm) L (fun e he => by have := hob e he; grind) (by grind) l2 hWm ?_
  obtain ⟨b1, b2⟩ := hbe
  rw [hNM]
  obtain ⟨s, hs⟩ : ∃ s, s = D16 + 2451 / 100 * (M - 1) + lb * (65700 + 315792 / 10 * M) * (1 / 16777216) + Wm / 2 * (M - 1) + 40000 * (1 / 16777216) * (ob + 2 * (6579 / 10 * M)) - 6579 / 10 * M := ⟨_, rfl⟩
  rw [<- hs] at b2
  have key : 8 * (2 * M + a0) - X + 40000 * (1 / 16777216) * (2 * 65700) + 1 / 1000 + s * gs.length <= 65700 := by
   by_cases c0 : 0 <= s
   ·have := Rat.mul_le_mul_of_nonneg_left n1 c0
    grind
   ·have := Rat.mul_nonneg (show 0 <= -s by grind) n0
    grind
  have e2 : s * gs.length = gs.length * D16 + 2451 / 100 * (gs.length * M - gs.length) + lb * (65700 * gs.length + 315792 / 10 * (gs.length * M)) * (1 / 16777216) + Wm / 2 * (gs.length * M - gs.length) + 40000 * (1 / 16777216) * (ob * gs.length + 2 * (6579 / 10 * (gs.length * M))) - 6579 / 10 * (gs.length * M) := by
   rw [hs]
   grind
  grind
end
section
variable {W H N : Nat} {ls : List (List Pt)} {gs : List (Pt × Pt)} {Ad : Pt × Pt -> List (Nat × Nat)} (F : Fam W H N ls gs Ad)
include F
set_option maxRecDepth 100000
theorem Fam.c32q {τ ob : Rat} (hN : N = 2) (hob : ∀ e ∈ gs, ownF W e <= ob) (hob0 : 0 <= ob) (hτ : 96 * (ob * (1 / 16777216)) <= τ) {pre t : List (Pt × Pt)} (h : pre ++ t = gs) {r : Nat} (hr : r < H) : ab (zcon W Ad pre r) <= 25 + τ := by
 have k := F.con_q (q := 1) (τ := τ) (ob := ob) (fun e he r => dR_one (by have := F.rows e he; omega) r) hob hob0 hτ h hr
 have l := (F.sumO h hob hob0).2.2
 grind
theorem Fam.c32t {τ ob : Rat} (hw0 : 131 <= W) (hw1 : W <= 200) (hob : ∀ e ∈ gs, ownF W e <= ob) (hob0 : 0 <= ob) (hτ : 96 * (ob * (1 / 16777216)) + 1 / 1000000 <= τ) {pre t : List (Pt × Pt)} (h : pre ++ t = gs) {r : Nat} (hr : r < H) : ab (zcon W Ad pre r) <= 276 / 10 + τ := by
 have k := F.con_tab tabF1_ok (τ := τ) (ob := ob) rfl rfl rfl rfl rfl rfl rfl (by show tabF1.w0 + 1 <= W; exact Nat.le_trans (by decide +kernel) hw0) (by show W <= tabF1.w1 + 1; exact Nat.le_trans hw1 (by decide +kernel)) (by decide +kernel) (by decide +kernel) hob hob0 hτ h hr
 have l := (F.sumO h hob hob0).2.2
 have d : ((tabF1.P.D : Nat) : Rat) / 4096 = 2273 / 4096 := by decide +kernel
 have c : ((tabF1.R : Nat) : Rat) / 17592186044416 <= 95 / 100 := by decide +kernel
 rw [d] at k
 grind
theorem Fam.b2 (h1 : N = 2) (w0 : 116 <= W) (w1 : W <= 126) : SumOk W H N gs Ad :=
 F.tabM tabB2_ok tabB2z_ok (Wmin := 115) (m := 1) (M := 2) (a0 := 256) (D16 := 4300) (γ := (809 / 100000)) (τ := (331 / 100000)) (ob := (2886 / 5)) (X := 89931) (o1 := (2886 / 5)) (o2 := (1303 / 20)) (o3 := (4903 / 100)) (lb := 635) (Wm := 126) (O := (491 / 10)) (c32 := 25 + (331 / 100000)) (t3 := 13) (K := 332)
  (by show LimOk parB2 115 1 4300; exact limB2) (by show LimOk parB2z 115 1 4300; exact limB2z) rfl rfl (by show tabB2.w0 + 1 <= W; exact Nat.le_trans (by decide +kernel) w0) (by show W <= tabB2.w1 + 1; exact Nat.le_trans w1 (by decide +kernel)) (by show tabB2z.w0 + 1 <= W; exact Nat.le_trans (by decide +kernel) w0) (by show W <= tabB2z.w1 + 1; exact Nat.le_trans w1 (by decide +kernel))
  h1 (by decide +kernel) (by omega) (by omega) (by decide) (by exact_mod_cast w1) (by unfold TabNum; decide +kernel) (by unfold TabNum; decide +kernel) (by decide +kernel) (by unfold BigNum; decide +kernel) (by unfold BigEnd; decide +kernel)
  (fun ob pre t h r hr => F.c32q h1 ob (by decide +kernel) (by decide +kernel) h hr) (by decide +kernel)
  (.inr ⟨fun ob pre t h r hr => F.con_q (q := 1) (τ := (331 / 100000)) (ob := (2886 / 5)) (fun e he r => dR_one (by have := F.rows e he; omega) r) ob (by decide +kernel) (by decide +kernel) h hr, by decide +kernel⟩)
  (by unfold KOk; decide +kernel) (by unfold EndNum; decide +kernel) (by decide +kernel)
theorem Fam.a2 (h1 : N = 2) (w0 : 127 <= W) (w1 : W <= 200) : SumOk W H N gs Ad :=
 F.tabM tabA2_ok tabA2z_ok (Wmin := 126) (m := 1) (M := 2) (a0 := 330) (D16 := 5404) (γ := (809 / 100000)) (τ := (331 / 100000)) (ob := (2886 / 5)) (X := 140636) (o1 := (2886 / 5)) (o2 := (1303 / 20)) (o3 := (4903 / 100)) (lb := 635) (Wm := 200) (O := (491 / 10)) (c32 := 25 + (331 / 100000)) (t3 := 13) (K := 332)
  (by show LimOk parA2 126 1 5404; exact limA2) (by show LimOk parA2z 126 1 5404; exact limA2z) rfl rfl (by show tabA2.w0 + 1 <= W; exact Nat.le_trans (by decide +kernel) w0) (by show W <= tabA2.w1 + 1; exact Nat.le_trans w1 (by decide +kernel)) (by show tabA2z.w0 + 1 <= W; exact Nat.le_trans (by decide +kernel) w0) (by show W <= tabA2z.w1 + 1; exact Nat.le_trans w1 (by decide +kernel))
  h1 (by decide +kernel) (by omega) (by omega) (by decide) (by exact_mod_cast w1) (by unfold TabNum; decide +kernel) (by unfold TabNum; decide +kernel) (by decide +kernel) (by unfold BigNum; decide +kernel) (by unfold BigEnd; decide +kernel)
  (fun ob pre t h r hr => F.c32q h1 ob (by decide +kernel) (by decide +kernel) h hr) (by decide +kernel)
  (.inr ⟨fun ob pre t h r hr => F.con_q (q := 1) (τ := (331 / 100000)) (ob := (2886 / 5)) (fun e he r => dR_one (by have := F.rows e he; omega) r) ob (by decide +kernel) (by decide +kernel) h hr, by decide +kernel⟩)
  (by unfold KOk; decide +kernel) (by unfold EndNum; decide +kernel) (by decide +kernel)
theorem Fam.a3 (h1 : N = 3) (w0 : 156 <= W) (w1 : W <= 200) : SumOk W H N gs Ad :=
 F.tabM tabA3_ok tabA3z_ok (Wmin := 155) (m := 2) (M := 3) (a0 := 330) (D16 := 5456) (γ := (1037 / 100000)) (τ := (413 / 100000)) (ob := (7203 / 10)) (X := 117495) (o1 := (7203 / 10)) (o2 := (2271 / 20)) (o3 := (7071 / 100)) (lb := 638) (Wm := 200) (O := (354 / 5)) (c32 := 276 / 10 + (413 / 100000)) (t3 := 0) (K := 384)
  (by show LimOk parA3 155 2 5456; exact limA3) (by show LimOk parA3z 155 2 5456; exact limA3z) rfl rfl (by show tabA3.w0 + 1 <= W; exact Nat.le_trans (by decide +kernel) w0) (by show W <= tabA3.w1 + 1; exact Nat.le_trans w1 (by decide +kernel)) (by show tabA3z.w0 + 1 <= W; exact Nat.le_trans (by decide +kernel) w0) (by show W <= tabA3z.w1 + 1; exact Nat.le_trans w1 (by decide +kernel))
  h1 (by decide +kernel) (by omega) (by omega) (by decide) (by exact_mod_cast w1) (by unfold TabNum; decide +kernel) (by unfold TabNum; decide +kernel) (by decide +kernel) (by unfold BigNum; decide +kernel) (by unfold BigEnd; decide +kernel)
  (fun ob pre t h r hr => F.c32t (by omega) w1 ob (by decide +kernel) (by decide +kernel) h hr) (by decide +kernel) (.inl rfl)
  (by unfold KOk; decide +kernel) (by unfold EndNum; decide +kernel) (by decide +kernel)
end
end Go.Proofs.Ytmgcbodlolnheaa
