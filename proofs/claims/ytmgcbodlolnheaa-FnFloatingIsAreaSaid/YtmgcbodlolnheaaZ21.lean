/- How often an edge adds to the cells beside a mask, and how wrong it is, against a table's limit for it. What floating numbers are off at most, by tables of -/
import Derived.Test.YtmgcbodlolnheaaZ20
import Derived.Test.YtmgcbodlolnheaaZ17
namespace Go.Proofs.Ytmgcbodlolnheaa
open Flt Go.RowKit
set_option linter.unusedVariables false
def mn1 (x : Rat) : Rat := if x <= 1 then x else 1
def mxW (W : Nat) (x : Rat) : Rat := if x <= (W : Rat) - 1 then (W : Rat) - 1 else x
theorem telW_eq (W : Nat) (t : Rat) : telW W t = ceilR (mn1 t) + ceilR (mxW W t) := rfl
theorem ceilW1 (W : Nat) : ceilR ((W : Rat) - 1) = (W : Int) - 1 := by
 rw [show (W : Rat) - 1 = (((W : Int) - 1 : Int) : Rat) by push_cast; rfl, ceilR_int]
def lenO (W : Nat) (xl xr : Rat) : Rat := (mn1 xr - mn1 xl) + (mxW W xr - mxW W xl)
theorem telW_len {W : Nat} (hW : 2 <= W) {xl xr : Rat} (hle : xl <= xr) : ((telW W (xr + 1 / 20) - telW W (xl - 1 / 20) : Int) : Rat) <= lenO W xl xr + 6 / 5 := by
 have hW2 : (2 : Rat) <= W := by exact_mod_cast hW
 rw [telW_eq, telW_eq]
 push_cast
 have a1 := (ceil_near (mn1 (xl - 1 / 20))).1
 have a2 := (ceil_near (mxW W (xl - 1 / 20))).1
 have b1 := (ceil_near (mn1 (xr + 1 / 20))).2
 have b2 := (ceil_near (mxW W (xr + 1 / 20))).2
 have m1 : mn1 xl - 1 / 20 <= mn1 (xl - 1 / 20) := by unfold mn1; split <;> split <;> grind
 have m2 : mxW W xl - 1 / 20 <= mxW W (xl - 1 / 20) := by unfold mxW; split <;> split <;> grind
 have m3 : mn1 (xr + 1 / 20) <= mn1 xr + 1 / 20 := by unfold mn1; split <;> split <;> grind
 have m4 : mxW W (xr + 1 / 20) <= mxW W xr + 1 / 20 := by unfold mxW; split <;> split <;> grind
 unfold lenO
 by_cases h : xr + 1 / 20 <= 1
 ·have e1 : mxW W (xr + 1 / 20) = (W : Rat) - 1 := by unfold mxW; rw [if_pos (by grind)]
  have e2 : mxW W (xl - 1 / 20) = (W : Rat) - 1 := by unfold mxW; rw [if_pos (by grind)]
  have e3 : mxW W xr = (W : Rat) - 1 := by unfold mxW; rw [if_pos (by grind)]
  have e4 : mxW W xl = (W : Rat) - 1 := by unfold mxW; rw [if_pos (by grind)]
  rw [e1, e2, e3, e4]
  grind
 ·have e1 : mn1 (xr + 1 / 20) = ((1 : Int) : Rat) := by unfold mn1; rw [if_neg h]; push_cast; rfl
  have c1 : ceilR (mn1 (xr + 1 / 20)) = 1 := by rw [e1, ceilR_int]
  rw [e1] at m3
  rw [c1]
  push_cast at m3 ⊢
  grind
theorem lenO_out {W : Nat} {xl xr o : Rat} (hle : xl <= xr) (ho0 : 0 <= o) (ho1 : o <= 1) : lenO W xl xr <= outX ((W : Rat) - 1) (xl - o) (xr - o) + 1 := by
 have h1 : mn1 xr - mn1 xl <= min0 (xr - o) - min0 (xl - o) + (1 - o) := by
  unfold mn1 min0
  split <;> split <;> split <;> split <;> grind
 have h2 : mxW W xr - mxW W xl <= pos0 (xr - o - ((W : Rat) - 1)) - pos0 (xl - o - ((W : Rat) - 1)) + o := by
  unfold mxW pos0
  split <;> split <;> split <;> split <;> grind
 unfold lenO outX
 grind
theorem lX_rX (e : Pt × Pt) : lX e <= rX e /\ (lX e = (e.1.1 : Rat) / 64 /\ rX e = (e.2.1 : Rat) / 64 ∨ lX e = (e.2.1 : Rat) / 64 /\ rX e = (e.1.1 : Rat) / 64) /\ rX e - lX e = wE e := by
 have e1 : (e.1.1 : Rat) / 64 = pxA e := rfl
 have e2 : (e.2.1 : Rat) / 64 = pxB e := rfl
 have ew : wE e = ab (pxB e - pxA e) := by
  unfold wE pxA pxB
  rw [<- ab_64]
  congr 1
  grind
 rw [e1, e2, ew]
 unfold lX rX
 by_cases h : pxA e <= pxB e
 ·rw [if_pos h, if_pos h, ab_of_nonneg (by grind)]
  exact ⟨h, .inl ⟨rfl, rfl⟩, rfl⟩
 ·rw [if_neg h, if_neg h, ab_of_nonpos (by grind)]
  exact ⟨by grind, .inr ⟨rfl, rfl⟩, by grind⟩
section
variable {W H : Nat} {e : Pt × Pt} {own : Rat} {R : Int} {L : List (Nat × Nat)} (F : FE W H e own R L) (hW : 3 <= W)
include F hW
theorem z_gen {o : Rat} (ho0 : 0 <= o) (ho1 : o <= 1) : (zcnt W L : Rat) <= 2 * R + outX ((W : Rat) - 1) (lX e - o) (rX e - o) + 11 / 5 := by
 obtain ⟨l1, l2, l3⟩ := lX_rX e
 have z := (F.z (by omega) _ _ l2 l1).1
 have t := telW_len (show 2 <= W by omega) l1
 have u := lenO_out (W := W) l1 ho0 ho1
 have zR := castLe z
 push_cast at zR t
 grind
theorem z_lr {o : Rat} (ho0 : 0 <= o) (ho1 : o <= 1) (h1 : lX e - o <= 0) (h2 : (W : Rat) - 1 <= rX e - o) : (zcnt W L : Rat) <= 2 * R + outX ((W : Rat) - 1) (lX e - o) (rX e - o) + 6 / 5 := by
 have hW2 : (3 : Rat) <= W := by exact_mod_cast hW
 obtain ⟨l1, l2, l3⟩ := lX_rX e
 have t := telW_len (show 2 <= W by omega) l1
 have u := lenO_out (W := W) l1 ho0 ho1
 have m1 : mn1 (rX e) = 1 := by unfold mn1; split <;> grind
 have m2 : mxW W (lX e) = (W : Rat) - 1 := by unfold mxW; rw [if_pos (by grind)]
 have m3 : mn1 (lX e) = lX e := by unfold mn1; rw [if_pos (by grind)]
 have m4 : mxW W (rX e) = rX e := by unfold mxW; split <;> grind
 unfold lenO at u t
 rw [m1, m2, m3, m4] at u t
 rcases (F.z (by omega) _ _ l2 l1).2 (by omega) (by grind) (by grind) with z | z | z
 ·have zR := castLe z
  push_cast at zR t
  grind
 ·have e1 : telW W 1 = 1 + ((W : Int) - 1) := by
   rw [telW_eq]
   have k1 : mn1 1 = ((1 : Int) : Rat) := by unfold mn1; rw [if_pos (Rat.le_refl)]; push_cast; rfl
   have k2 : mxW W 1 = (W : Rat) - 1 := by unfold mxW; rw [if_pos (by grind)]
   rw [k1, k2, ceilR_int, ceilW1]
  have e2 : telW W (lX e - 1 / 20) = ceilR (lX e - 1 / 20) + ((W : Int) - 1) := by
   rw [telW_eq]
   have k1 : mn1 (lX e - 1 / 20) = lX e - 1 / 20 := by unfold mn1; rw [if_pos (by grind)]
   have k2 : mxW W (lX e - 1 / 20) = (W : Rat) - 1 := by unfold mxW; rw [if_pos (by grind)]
   rw [k1, k2, ceilW1]
  rw [e1, e2] at z
  have c := (ceil_near (lX e - 1 / 20)).1
  have zR := castLe z
  push_cast at zR
  grind
 ·have e1 : telW W ((W : Rat) - 1) = 1 + ((W : Int) - 1) := by
   rw [telW_eq]
   have k1 : mn1 ((W : Rat) - 1) = ((1 : Int) : Rat) := by unfold mn1; rw [if_neg (by grind)]; push_cast; rfl
   have k2 : mxW W ((W : Rat) - 1) = (W : Rat) - 1 := by unfold mxW; rw [if_pos (by grind)]
   rw [k1, k2, ceilR_int, ceilW1]
  have e2 : telW W (rX e + 1 / 20) = 1 + ceilR (rX e + 1 / 20) := by
   rw [telW_eq]
   have k1 : mn1 (rX e + 1 / 20) = ((1 : Int) : Rat) := by unfold mn1; rw [if_neg (by grind)]; push_cast; rfl
   have k2 : mxW W (rX e + 1 / 20) = rX e + 1 / 20 := by unfold mxW; rw [if_neg (by grind)]
   rw [k1, k2, ceilR_int]
  rw [e1, e2] at z
  have c := (ceil_near (rX e + 1 / 20)).2
  have zR := castLe z
  push_cast at zR
  grind
theorem z_max (h1 : PtIn W e.1) (h2 : PtIn W e.2) : (zcnt W L : Rat) <= 2 * R + 130 + W := by
 have hW2 : (3 : Rat) <= W := by exact_mod_cast hW
 obtain ⟨l1, l2, l3⟩ := lX_rX e
 obtain ⟨a1, b1⟩ := h1.px
 obtain ⟨a2, b2⟩ := h2.px
 have hl : -(64 + (W : Rat)) <= lX e := by rcases l2 with ⟨h, _⟩ | ⟨h, _⟩ <;> grind
 have hr : rX e <= 64 + W := by rcases l2 with ⟨_, h⟩ | ⟨_, h⟩ <;> grind
 have cl0 : -(64 + (W : Int)) <= ceilR (mn1 (lX e - 1 / 20)) := by
  have h3 := (ceil_near (mn1 (lX e - 1 / 20))).1
  have h4 : -(64 + (W : Rat)) - 1 / 20 <= mn1 (lX e - 1 / 20) := by unfold mn1; split <;> grind
  have : ((-(64 + (W : Int)) - 1 : Int) : Rat) < ((ceilR (mn1 (lX e - 1 / 20)) : Int) : Rat) := by push_cast; grind
  have := Rat.intCast_lt_intCast.1 this
  omega
 have cl1 : (W : Int) - 1 <= ceilR (mxW W (lX e - 1 / 20)) := by
  rw [<- ceilW1]
  exact ceilR_le (by unfold mxW; split <;> grind)
 have cr0 : ceilR (mn1 (rX e + 1 / 20)) <= 1 := by
  have := ceilR_le (show mn1 (rX e + 1 / 20) <= ((1 : Int) : Rat) by push_cast; unfold mn1; split <;> grind)
  rwa [ceilR_int] at this
 have cr1 : ceilR (mxW W (rX e + 1 / 20)) <= (W : Int) + 65 := by
  have h3 := (ceil_near (mxW W (rX e + 1 / 20))).2
  have h4 : mxW W (rX e + 1 / 20) <= 64 + W + 1 / 20 := by unfold mxW; split <;> grind
  have : ((ceilR (mxW W (rX e + 1 / 20)) : Int) : Rat) < (((W : Int) + 66 : Int) : Rat) := by push_cast; grind
  have := Rat.intCast_lt_intCast.1 this
  omega
 have z1 := (F.z (by omega) _ _ l2 l1).1
 have fin : (zcnt W L : Int) <= 2 * R + 130 + W := by
  by_cases c1 : lX e <= 1
  ·by_cases c2 : (W : Rat) - 1 <= rX e
   ·rcases (F.z (by omega) _ _ l2 l1).2 (by omega) c1 c2 with z | z | z
    ·rw [telW_eq, telW_eq] at z
     omega
    ·rw [telW_eq, telW_eq] at z
     have k1 : mn1 1 = ((1 : Int) : Rat) := by unfold mn1; rw [if_pos (Rat.le_refl)]; push_cast; rfl
     have k2 : mxW W 1 = (W : Rat) - 1 := by unfold mxW; rw [if_pos (by grind)]
     rw [k1, k2, ceilR_int, ceilW1] at z
     omega
    ·rw [telW_eq, telW_eq] at z
     have k1 : mn1 ((W : Rat) - 1) = ((1 : Int) : Rat) := by unfold mn1; rw [if_neg (by grind)]; push_cast; rfl
     have k2 : mxW W ((W : Rat) - 1) = (W : Rat) - 1 := by unfold mxW; rw [if_pos (by grind)]
     rw [k1, k2, ceilR_int, ceilW1] at z
     omega
   ·have h3 : ceilR (mxW W (rX e + 1 / 20)) <= (W : Int) := by
     have h4 := (ceil_near (mxW W (rX e + 1 / 20))).2
     have h5 : mxW W (rX e + 1 / 20) <= W := by unfold mxW; split <;> grind
     have : ((ceilR (mxW W (rX e + 1 / 20)) : Int) : Rat) < (((W : Int) + 1 : Int) : Rat) := by push_cast; grind
     have := Rat.intCast_lt_intCast.1 this
     omega
    rw [telW_eq, telW_eq] at z1
    omega
  ·have h3 : 1 <= ceilR (mn1 (lX e - 1 / 20)) := by
    have h4 := (ceil_near (mn1 (lX e - 1 / 20))).1
    have h5 : 9 / 10 <= mn1 (lX e - 1 / 20) := by unfold mn1; split <;> grind
    have : ((0 : Int) : Rat) < ((ceilR (mn1 (lX e - 1 / 20)) : Int) : Rat) := by push_cast; grind
    have := Rat.intCast_lt_intCast.1 this
    omega
   rw [telW_eq, telW_eq] at z1
   omega
 have := castLe fin
 push_cast at this
 exact this
end
theorem z_wide {W H : Nat} {e : Pt × Pt} {own : Rat} {R : Int} {L : List (Nat × Nat)} (F : FE W H e own R L) (hW : 1 <= W) : (zcnt W L : Rat) <= 2 * R + wE e + 16 / 5 := by
 have hW2 : (1 : Rat) <= W := by exact_mod_cast hW
 obtain ⟨l1, l2, l3⟩ := lX_rX e
 have z := (F.z hW _ _ l2 l1).1
 have zR := castLe z
 rw [telW_eq, telW_eq] at zR
 push_cast at zR
 have a1 := (ceil_near (mn1 (lX e - 1 / 20))).1
 have a2 := (ceil_near (mxW W (lX e - 1 / 20))).1
 have b1 := (ceil_near (mn1 (rX e + 1 / 20))).2
 have b2 := (ceil_near (mxW W (rX e + 1 / 20))).2
 have h : (mn1 (rX e + 1 / 20) - mn1 (lX e - 1 / 20)) + (mxW W (rX e + 1 / 20) - mxW W (lX e - 1 / 20)) <= rX e - lX e + 11 / 10 := by
  unfold mn1 mxW
  split <;> split <;> split <;> split <;> grind
 grind
structure LimOk (P : Par) (Wmin m : Nat) (D16 : Rat) : Prop where
 k1 : P.k1 = 524288
 d : (P.D : Rat) = D16 - 8 * (2 * (m + 1) + 1)
 lr : ((276 : Rat) + (m + 1) * 265) * (m / Wmin) + 30 + 15 * m + 8 / 5 <= P.bLR
 far : (30 : Rat) + 15 * m + 48 / 5 <= P.base
 s0 : (276 : Rat) + (m + 1) * (1281 / 10) + 30 + 15 * m + 48 / 5 <= P.base + P.own
 s1 : ((276 : Rat) + (m + 1) * (1281 / 10)) * (m / 4) + 30 + 15 * m + 48 / 5 <= P.base + (P.own * P.nown / 4 : Nat)
 s2 : ((276 : Rat) + (m + 1) * (1281 / 10)) * (m / 10) + 30 + 15 * m + 48 / 5 <= P.base + (P.own * P.nown / 10 : Nat)
 s3 : ((276 : Rat) + (m + 1) * 265) * (m / 40) + 30 + 15 * m + 48 / 5 <= P.base + (P.own * P.nown / 40 : Nat)
theorem rho_wide {e : Pt × Pt} {m k : Rat} (hh : hE' e <= m) (hk : 0 < k) (hw : k <= wE e) : rhoE e <= m / k := by
 obtain ⟨r0, r1, r2⟩ := rhoE_bd e
 have h1 := Rat.mul_le_mul_of_nonneg_left hw r0
 have h2 : rhoE e * k <= m := by grind
 have i : k * k⁻¹ = 1 := Rat.mul_inv_cancel _ (by grind)
 have h3 := Rat.mul_le_mul_of_nonneg_right h2 (Rat.le_of_lt (Rat.inv_pos.2 hk))
 rw [Rat.mul_assoc, i, Rat.mul_one] at h3
 rw [Rat.div_def]
 exact h3
section
variable {T : Tab} {Wmin m : Nat} {D16 : Rat} (hL : LimOk T.P Wmin m D16) {W : Nat} {e : Pt × Pt} (hh : hE' e <= m) (hR : rowsE e <= (m : Int) + 1) (hW : 3 <= W) (hWm : Wmin <= W - 1) (hWm0 : 0 < Wmin)
include hL hh hR hW hWm hWm0
theorem lim_own {o : Rat} (ho0 : 0 <= o) (ho1 : o <= 1) :
  (lX e - o <= 0 /\ (W : Rat) - 1 <= rX e - o -> ownF W e + 8 / 5 <= T.P.bLR) /\ (¬(lX e - o <= 0 /\ (W : Rat) - 1 <= rX e - o) -> ownF W e + 48 / 5 <= othX T.P ((W : Rat) - 1) (lX e - o) (rX e - o)) := by
 have hW2 : (3 : Rat) <= W := by exact_mod_cast hW
 have hm0 : (0 : Rat) <= m := by exact_mod_cast Nat.zero_le m
 have hWmR : (0 : Rat) < Wmin := by exact_mod_cast hWm0
 have hWm1 : (Wmin : Rat) <= (W : Rat) - 1 := by
  have := natLe (show Wmin + 1 <= W by omega)
  push_cast at this
  grind
 obtain ⟨l1, l2, l3⟩ := lX_rX e
 have hh0 := hE'_nonneg e
 have hRr := castLe hR
 push_cast at hRr
 obtain ⟨r0, r1, r2⟩ := rhoE_bd e
 have oE : ∀ κ ρ : Rat, 0 <= κ -> rhoE e <= ρ -> ownE κ (rowsE e) e <= (276 + (m + 1) * κ) * ρ + 30 + 15 * m := by
  intro κ ρ hκ hρ
  have q1 := Rat.mul_le_mul_of_nonneg_right hRr hκ
  have q2 : (0 : Rat) <= (m + 1) * κ := Rat.mul_nonneg (by grind) hκ
  have q3 := Rat.mul_le_mul_of_nonneg_right (show 276 + ((rowsE e : Int) : Rat) * κ <= 276 + (m + 1) * κ by grind) r0
  have q4 := Rat.mul_le_mul_of_nonneg_left hρ (show 0 <= 276 + ((m : Rat) + 1) * κ by grind)
  unfold ownE
  grind
 have bg : ownF W e <= 30 + 15 * m ∨ ownF W e = (if wE e < 40 then ownE (1281 / 10) (rowsE e) e else ownE 265 (rowsE e) e) := by
  unfold ownF
  split
  ·left; grind
  ·right; rfl
 have p265 : ∀ k : Rat, 0 < k -> 0 <= ((276 : Rat) + (m + 1) * 265) * (m / k) := fun k hk => Rat.mul_nonneg (by grind) (div_pos0 hm0 hk)
 constructor
 ·rintro ⟨c1, c2⟩
  have hlr := hL.lr
  have hp := p265 Wmin hWmR
  rcases bg with h | h
  ·grind
  ·rw [h]
   have rw1 := rho_wide hh hWmR (show (Wmin : Rat) <= wE e by grind)
   have o1 := oE 265 _ (by decide) rw1
   by_cases c : wE e < 40
   ·rw [if_pos c]
    have o2 := oE (1281 / 10) _ (by decide +kernel) rw1
    have o3 := Rat.mul_le_mul_of_nonneg_right (show (276 : Rat) + (m + 1) * (1281 / 10) <= 276 + (m + 1) * 265 by grind) (div_pos0 hm0 hWmR)
    grind
   ·rw [if_neg c]
    grind
 ·intro hn
  unfold othX
  rw [if_neg hn]
  have hfar := hL.far
  have ownN : (0 : Rat) <= ownRq T.P ((rX e - o - (lX e - o)) * 65536) := by
   unfold ownRq
   split
   ·exact natNn _
   ·split
    ·exact natNn _
    ·split
     ·exact natNn _
     ·exact natNn _
  have far1 : rX e - o <= -2 -> farF W e := by
   intro h
   have hr : rX e <= -1 := by grind
   left
   have k1 : (e.1.1 : Rat) / 64 <= -1 /\ (e.2.1 : Rat) / 64 <= -1 := by rcases l2 with ⟨a, b⟩ | ⟨a, b⟩ <;> constructor <;> grind
   constructor
   ·refine Rat.intCast_le_intCast.1 ?_
    push_cast
    grind
   ·refine Rat.intCast_le_intCast.1 ?_
    push_cast
    grind
  have far2 : (W : Rat) - 1 + 2 <= lX e - o -> farF W e := by
   intro h
   have hr : (W : Rat) + 1 <= lX e := by grind
   right
   have k1 : (W : Rat) + 1 <= (e.1.1 : Rat) / 64 /\ (W : Rat) + 1 <= (e.2.1 : Rat) / 64 := by rcases l2 with ⟨a, b⟩ | ⟨a, b⟩ <;> constructor <;> grind
   constructor
   ·refine Rat.intCast_le_intCast.1 ?_
    push_cast
    grind
   ·refine Rat.intCast_le_intCast.1 ?_
    push_cast
    grind
  have ofar : farF W e -> ownF W e <= 30 + 15 * m := fun h => by
   unfold ownF
   rw [if_pos h]
   grind
  by_cases f1 : rX e - o <= -2
  ·rw [if_pos f1]
   have := ofar (far1 f1)
   grind
  ·rw [if_neg f1]
   by_cases f2 : (W : Rat) - 1 + 2 <= lX e - o
   ·rw [if_pos f2]
    have := ofar (far2 f2)
    grind
   ·rw [if_neg f2]
    rcases bg with h | h
    ·grind
    ·rw [h]
     have s0 := hL.s0
     have s1 := hL.s1
     have s2 := hL.s2
     have s3 := hL.s3
     unfold ownRq
     by_cases w3 : 40 <= wE e
     ·rw [if_pos (show (2621440 : Rat) <= (rX e - o - (lX e - o)) * 65536 by grind), if_neg (show ¬ wE e < 40 by grind)]
      have := oE 265 _ (by decide) (rho_wide hh (show (0 : Rat) < 40 by decide) w3)
      grind
     ·rw [if_neg (show ¬ (2621440 : Rat) <= (rX e - o - (lX e - o)) * 65536 by grind), if_pos (show wE e < 40 by grind)]
      by_cases w2 : 10 <= wE e
      ·rw [if_pos (show (655360 : Rat) <= (rX e - o - (lX e - o)) * 65536 by grind)]
       have := oE (1281 / 10) _ (by decide +kernel) (rho_wide hh (show (0 : Rat) < 10 by decide) w2)
       grind
      ·rw [if_neg (show ¬ (655360 : Rat) <= (rX e - o - (lX e - o)) * 65536 by grind)]
       by_cases w1 : 4 <= wE e
       ·rw [if_pos (show (262144 : Rat) <= (rX e - o - (lX e - o)) * 65536 by grind)]
        have := oE (1281 / 10) _ (by decide +kernel) (rho_wide hh (show (0 : Rat) < 4 by decide) w1)
        grind
       ·rw [if_neg (show ¬ (262144 : Rat) <= (rX e - o - (lX e - o)) * 65536 by grind)]
        have := oE (1281 / 10) 1 (by decide +kernel) r1
        grind
theorem lim_le {H : Nat} {L : List (Nat × Nat)} (F : FE W H e (ownF W e) (rowsE e) L) {o : Rat} (ho0 : 0 <= o) (ho1 : o <= 1) : limO T W o e <= D16 - 8 * (zcnt W L : Rat) - ownF W e := by
 obtain ⟨g1, g2⟩ := lim_own hL hh hR hW hWm hWm0 ho0 ho1
 have hRr := castLe hR
 push_cast at hRr
 have hd := hL.d
 have hk : ((T.P.k1 : Nat) : Rat) / 65536 = 8 := by rw [hL.k1]; decide +kernel
 unfold limO
 rw [hk, hd]
 by_cases c : lX e - o <= 0 /\ (W : Rat) - 1 <= rX e - o
 ·have z := z_lr F hW ho0 ho1 c.1 c.2
  have o1 := g1 c
  have e1 : othX T.P ((W : Rat) - 1) (lX e - o) (rX e - o) = T.P.bLR := by unfold othX; rw [if_pos c]
  rw [e1]
  grind
 ·have z := z_gen F hW ho0 ho1
  have o1 := g2 c
  grind
end
def ForRow (T : Tab) (r : Nat) : Prop := (0 < r /\ T.P.betaR = T.P.beta) ∨ (r = 0 /\ T.P.betaR = 0)
theorem gain_bd {T : Tab} (hT : TabOk T) {W r : Nat} {o : Rat} (hw0 : (T.w0 : Rat) <= (W : Rat) - 1) (hw1 : (W : Rat) - 1 <= T.w1) (hr : r <= 200) (ho0 : 0 <= o) (ho1 : o <= 1) (hf : ForRow T r)
  {ls : List (List Pt)} (hls : ∀ p ∈ ls, ∀ v ∈ p, PtIn W v) {pre t : List (Pt × Pt)} (h : pre ++ t = ls.flatMap edges) (hends : ∀ e ∈ pre, PtIn W e.1 /\ PtIn W e.2 /\ hE' e * 65536 <= T.P.H) {L : Pt × Pt -> Rat} (hL : ∀ e ∈ pre, limO T W o e <= L e) :
  (T.P.beta : Rat) * ab (sumE (gEs W r o) pre) <= sumE L pre + (T.R : Rat) / 4294967296 := by
 have k := tab_sum hT hw0 hw1 hr ho0 ho1 hls h hends
 have k2 := sumE_le hL
 have e1 : sumE (fun e => (T.P.beta : Rat) * gEL r o e + (T.P.betaR : Rat) * gER W r o e) pre = (T.P.beta : Rat) * sumE (gEs W r o) pre := by
  rw [<- sumE_mul]
  refine sumE_congr fun e _ => ?_
  unfold gEs
  rcases hf with ⟨h0, hb⟩ | ⟨h0, hb⟩
  ·rw [hb, if_pos h0]
   grind
  ·rw [hb, if_neg (by omega)]
   have : ((0 : Nat) : Rat) = 0 := rfl
   rw [this]
   grind
 rw [e1, ab_mul, ab_of_nonneg (natNn T.P.beta)] at k
 grind
section
variable {W H : Nat} {δ len : Pt × Pt -> Rat} {Ad : Pt × Pt -> List (Nat × Nat)} {gs : List (Pt × Pt)} (hE : ∀ e ∈ gs, EG W H e (δ e) (len e) (Ad e))
include hE
theorem content_tab (hW : 0 < W) (hH : H <= 200) {T : Tab} (hT : TabOk T) (hw0 : (T.w0 : Rat) <= (W : Rat) - 1) (hw1 : (W : Rat) - 1 <= T.w1) {r : Nat} (hr : r < H) (hf : ForRow T r)
  {ls : List (List Pt)} (hgs : gs = ls.flatMap edges) (hls : ∀ p ∈ ls, ∀ v ∈ p, PtIn W v) {pre t : List (Pt × Pt)} (h : pre ++ t = gs) (hends : ∀ e ∈ pre, PtIn W e.1 /\ PtIn W e.2 /\ hE' e * 65536 <= T.P.H)
  {L : Pt × Pt -> Rat} (hL : ∀ o : Rat, 0 <= o -> o <= 1 -> ∀ e ∈ pre, limO T W o e <= L e) (hb : 0 < T.P.beta) :
  (T.P.beta : Rat) * ab (cellR (valL (pre.flatMap Ad)) (r * W)) <= sumE L pre + (T.R : Rat) / 4294967296 + T.P.beta * (2 * sumE δ pre + 2 * pre.length * (1 / 1000000000)) := by
 have hbR : (0 : Rat) < T.P.beta := by exact_mod_cast hb
 have i : (T.P.beta : Rat) * (T.P.beta : Rat)⁻¹ = 1 := Rat.mul_inv_cancel _ (by grind)
 have hpre : ∀ e ∈ pre, e ∈ gs := fun e he => by rw [<- h]; simp [he]
 obtain ⟨M, hM⟩ : ∃ M : Rat, M = (sumE L pre + (T.R : Rat) / 4294967296) * (T.P.beta : Rat)⁻¹ := ⟨_, rfl⟩
 have hM2 : (T.P.beta : Rat) * M = sumE L pre + (T.R : Rat) / 4294967296 := by
  rw [hM, Rat.mul_comm, Rat.mul_assoc, Rat.mul_comm _ (T.P.beta : Rat), i, Rat.mul_one]
 have key : ∀ k : Nat, k < 1000000000 -> ab (sumE (gEs W r ((k : Rat) / (1000000000 : Nat))) pre) <= M := by
  intro k hk
  have hk1 : (k : Rat) <= 1000000000 := by
   have := natLe (Nat.le_of_lt hk)
   push_cast at this
   exact this
  have hk0 : (0 : Rat) <= k := natNn k
  have c : ((1000000000 : Nat) : Rat) = 1000000000 := rfl
  have o0 : (0 : Rat) <= (k : Rat) / (1000000000 : Nat) := by rw [c]; grind
  have o1 : (k : Rat) / (1000000000 : Nat) <= 1 := by rw [c]; grind
  have g := gain_bd hT hw0 hw1 (show r <= 200 by omega) o0 o1 hf hls (by rw [h, hgs]) hends (hL _ o0 o1)
  rw [<- hM2] at g
  exact Rat.le_of_mul_le_mul_left g hbR
 have C := content_shift hE hW hpre hr (show 0 < 1000000000 by decide) key
 have m := Rat.mul_le_mul_of_nonneg_left C (Rat.le_of_lt hbR)
 have c : ((1000000000 : Nat) : Rat) = 1000000000 := rfl
 rw [c] at m
 grind
end
def zsumF (W : Nat) (Ad : Pt × Pt -> List (Nat × Nat)) (lev : Nat -> Int) : List (Pt × Pt) -> Nat -> Rat
 | [], _ => 0
 | e :: t, j => (zcnt W (Ad e) : Rat) * p2 (lev j - 25) + zsumF W Ad lev t (j + 1)
theorem costF_le {W : Nat} {Ad : Pt × Pt -> List (Nat × Nat)} {len : Pt × Pt -> Rat} {lev : Nat -> Int} {κ hb lb : Rat} (hκ : 0 <= κ) : ∀ (t : List (Pt × Pt)) (j : Nat) (A : Rat), (∀ e ∈ t, habsF e <= hb /\ len e <= lb) ->
  costF W Ad len lev κ t j A <= zsumF W Ad lev t j + (t.length * A + hb * (t.length * (t.length + 1) / 2)) * (1 / 16777216) + t.length * (lb * (κ * (1 / 16777216) + 1 / 1000000000000000000000000000000))
 | [], j, A, _ => by
  rw [costF, zsumF]
  have e : (([] : List (Pt × Pt)).length : Rat) = 0 := rfl
  rw [e]
  grind
 | e :: t, j, A, h => by
  rw [costF, zsumF]
  obtain ⟨h1, h2⟩ := h e (by simp)
  have ih := costF_le (W := W) (Ad := Ad) (len := len) (lev := lev) hκ t (j + 1) (A + habsF e) (fun e he => h e (by simp [he]))
  have el : (((e :: t).length : Nat) : Rat) = (t.length : Rat) + 1 := by rw [List.length_cons]; push_cast; rfl
  rw [el]
  have hn0 : (0 : Rat) <= (t.length : Rat) := natNn _
  have m1 := Rat.mul_le_mul_of_nonneg_left h1 hn0
  have m2 := Rat.mul_le_mul_of_nonneg_right h2 (show 0 <= κ * (1 / 16777216) + 1 / 1000000000000000000000000000000 by grind)
  grind
theorem zsum_app {W : Nat} {Ad : Pt × Pt -> List (Nat × Nat)} {lev : Nat -> Int} : ∀ (s t : List (Pt × Pt)) (j : Nat), zsumF W Ad lev (s ++ t) j = zsumF W Ad lev s j + zsumF W Ad lev t (j + s.length)
 | [], t, j => by
  rw [List.nil_append, zsumF, List.length_nil, Nat.add_zero]
  grind
 | e :: s, t, j => by
  rw [List.cons_append, zsumF, zsumF, zsum_app s t (j + 1), List.length_cons, show j + 1 + s.length = j + (s.length + 1) by omega]
  grind
theorem zsum_const {W : Nat} {Ad : Pt × Pt -> List (Nat × Nat)} {lev : Nat -> Int} {lv : Int} : ∀ (t : List (Pt × Pt)) (j : Nat), (∀ i, j <= i -> i < j + t.length -> lev i = lv) -> zsumF W Ad lev t j = sumE (fun e => (zcnt W (Ad e) : Rat)) t * p2 (lv - 25)
 | [], j, _ => by
  rw [zsumF, sumE]
  grind
 | e :: t, j, h => by
  rw [zsumF, sumE, zsum_const t (j + 1) (fun i h1 h2 => h i (by omega) (by rw [List.length_cons]; omega)), h j (Nat.le_refl _) (by rw [List.length_cons]; omega)]
  grind
theorem first_time {α : Type} (gs : List α) (P : List α -> Prop) : (∀ pre t, pre ++ t = gs -> ¬P pre) ∨ ∃ pre t, pre ++ t = gs /\ P pre /\ ∀ pre' t', pre' ++ t' = gs -> pre'.length < pre.length -> ¬P pre' := by
 by_cases h : ∃ k, k <= gs.length /\ P (gs.take k)
 ·right
  obtain ⟨k, hk, hp, hmin⟩ : ∃ k, k <= gs.length /\ P (gs.take k) /\ ∀ j, j < k -> ¬P (gs.take j) := by
   obtain ⟨k, hk, hp⟩ := h
   induction k using Nat.strongRecOn with
   | _ k ih =>
    by_cases c : ∃ j, j < k /\ P (gs.take j)
    ·obtain ⟨j, hj, hpj⟩ := c
     exact ih j hj (by omega) hpj
    ·exact ⟨k, hk, hp, fun j hj hpj => c ⟨j, hj, hpj⟩⟩
  refine ⟨gs.take k, gs.drop k, List.take_append_drop k gs, hp, fun pre' t' h1 h2 => ?_⟩
  rw [List.length_take, Nat.min_eq_left hk] at h2
  have e : gs.take pre'.length = pre' := by rw [<- h1]; simp
  rw [<- e]
  exact hmin _ h2
 ·left
  intro pre t h1 hp
  refine h ⟨pre.length, by rw [<- h1]; simp, ?_⟩
  have e : gs.take pre.length = pre := by rw [<- h1]; simp
  rw [e]
  exact hp
def lev45 (t0 : Nat) (j : Nat) : Int := if j + 1 < t0 then 4 else 5
theorem p2_21 : p2 (4 - 25) = 8 * (1 / 16777216) := by decide +kernel
theorem p2_20 : p2 (5 - 25) = 16 * (1 / 16777216) := by decide +kernel
theorem zsum_45 {W : Nat} {Ad : Pt × Pt -> List (Nat × Nat)} {own : Pt × Pt -> Rat} {pre t : List (Pt × Pt)} {D16 X am : Rat} (hne : pre ≠ []) (h16 : ∀ e ∈ pre ++ t, 16 * (zcnt W (Ad e) : Rat) + own e <= D16 /\ (zcnt W (Ad e) : Rat) <= am)
  (hX : X <= sumE (fun e => D16 - 8 * (zcnt W (Ad e) : Rat) - own e) pre) :
  zsumF W Ad (lev45 pre.length) (pre ++ t) 0 + sumE own (pre ++ t) * (1 / 16777216) <= ((pre ++ t).length * D16 - X + 8 * am) * (1 / 16777216) := by
 obtain ⟨p, e, rfl⟩ : ∃ p e, pre = p ++ [e] := ⟨pre.dropLast, pre.getLast hne, (List.dropLast_concat_getLast hne).symm⟩
 have hl : (p ++ [e]).length = p.length + 1 := by simp
 rw [zsum_app, zsum_app, zsum_const p 0 (lv := 4) (fun i _ h => by unfold lev45; rw [hl, if_pos (by omega)]), zsum_const [e] (0 + p.length) (lv := 5) (fun i h1 h2 => by unfold lev45; rw [hl, if_neg (by omega)]),
  zsum_const t (0 + (p ++ [e]).length) (lv := 5) (fun i h1 h2 => by unfold lev45; rw [hl] at h1 ⊢; rw [if_neg (by omega)]), p2_21, p2_20]
 have he := h16 e (by simp)
 have ht : sumE (fun e => 16 * (zcnt W (Ad e) : Rat) + own e) t <= sumE (fun _ => D16) t := sumE_le fun e he => (h16 e (by simp [he])).1
 rw [sumE_add, sumE_mul, sumE_const] at ht
 have e1 : sumE (fun e => D16 - 8 * (zcnt W (Ad e) : Rat) - own e) (p ++ [e]) = (p ++ [e]).length * D16 - 8 * sumE (fun e => (zcnt W (Ad e) : Rat)) (p ++ [e]) - sumE own (p ++ [e]) := by
  have : sumE (fun e => (D16 - 8 * (zcnt W (Ad e) : Rat) - own e) + (8 * (zcnt W (Ad e) : Rat) + own e)) (p ++ [e]) = sumE (fun _ => D16) (p ++ [e]) := sumE_congr fun e _ => by grind
  rw [sumE_add, sumE_add, sumE_mul, sumE_const] at this
  grind
 rw [e1] at hX
 have es : ∀ f : Pt × Pt -> Rat, sumE f [e] = f e := fun f => by simp only [sumE]; grind
 rw [sumE_app, sumE_app, es, es, hl] at hX
 rw [sumE_app, sumE_app, es, es, List.length_append, hl]
 push_cast at hX ⊢
 grind
def zcon (W : Nat) (Ad : Pt × Pt -> List (Nat × Nat)) (pre : List (Pt × Pt)) (r : Nat) : Rat := cellR (valL (pre.flatMap Ad)) (r * W)
theorem zcon_snoc (W : Nat) (Ad : Pt × Pt -> List (Nat × Nat)) (pre : List (Pt × Pt)) (e : Pt × Pt) (r : Nat) : zcon W Ad (pre ++ [e]) r = cellR (valL (pre.flatMap Ad)) (r * W) + cellR (valL (Ad e)) (r * W) := by
 unfold zcon
 rw [List.flatMap_append, valL_append, cellR_append]
 simp
def LevOk (W H : Nat) (Ad : Pt × Pt -> List (Nat × Nat)) (gs : List (Pt × Pt)) (own : Pt × Pt -> Rat) (g : Rat) (Zb : Rat) : Prop :=
 ∃ (lev : Nat -> Int) (M : Nat -> Rat), (∀ pre e t, pre ++ e :: t = gs -> ∀ r, r < H -> ab (zcon W Ad pre r) <= M pre.length /\ ab (zcon W Ad (pre ++ [e]) r) <= M pre.length) /\
  (∀ j, j < gs.length -> M j + g <= p2 (lev j) /\ -120 <= lev j /\ lev j <= 100) /\ zsumF W Ad lev gs 0 + sumE own gs * (1 / 16777216) <= Zb * (1 / 16777216)
theorem p2_4 : p2 4 = 16 := by decide +kernel
theorem p2_5 : p2 5 = 32 := by decide +kernel
theorem lev_tab {W H : Nat} {Ad : Pt × Pt -> List (Nat × Nat)} {gs : List (Pt × Pt)} {own : Pt × Pt -> Rat} {g c D16 X am Zb : Rat} (hc : c + g <= 16) (hc0 : 0 <= c)
  (h32 : ∀ pre t, pre ++ t = gs -> ∀ r, r < H -> ab (zcon W Ad pre r) + g <= 32) (h16 : ∀ e ∈ gs, 16 * (zcnt W (Ad e) : Rat) + own e <= D16 /\ (zcnt W (Ad e) : Rat) <= am)
  (hbig : ∀ pre t, pre ++ t = gs -> ∀ r, r < H -> c < ab (zcon W Ad pre r) -> X <= sumE (fun e => D16 - 8 * (zcnt W (Ad e) : Rat) - own e) pre) (hZ : gs.length * D16 - X + 8 * am <= Zb)
  (hnone : (∀ pre t, pre ++ t = gs -> ∀ r, r < H -> ab (zcon W Ad pre r) <= c) -> LevOk W H Ad gs own g Zb) : LevOk W H Ad gs own g Zb := by
 rcases first_time gs (fun pre => ∃ r, r < H /\ c < ab (zcon W Ad pre r)) with h | ⟨pre, t, hg, ⟨r, hr, hcr⟩, hmin⟩
 ·refine hnone fun pre t hg r hr => ?_
  have := h pre t hg
  by_cases hcc : ab (zcon W Ad pre r) <= c
  ·exact hcc
  ·exact absurd ⟨r, hr, by grind⟩ this
 ·have hne : pre ≠ [] := by
   intro e
   rw [e] at hcr
   have : zcon W Ad [] r = 0 := rfl
   rw [this, ab_of_nonneg (Rat.le_refl)] at hcr
   grind
  have Z := zsum_45 (W := W) (Ad := Ad) (t := t) hne (by rw [hg]; exact h16) (hbig pre t hg r hr hcr)
  rw [hg] at Z
  have small : ∀ pre' t', pre' ++ t' = gs -> pre'.length < pre.length -> ∀ r, r < H -> ab (zcon W Ad pre' r) <= c := fun pre' t' h1 h2 r hr => by
   by_cases hcc : ab (zcon W Ad pre' r) <= c
   ·exact hcc
   ·exact absurd ⟨r, hr, by grind⟩ (hmin pre' t' h1 h2)
  refine ⟨lev45 pre.length, fun j => if j + 1 < pre.length then c else 32 - g, fun pre' e t' h1 r' hr' => ?_, fun j hj => ?_, ?_⟩
  ·have a2 : (pre' ++ [e]) ++ t' = gs := by rw [<- h1]; simp
   show ab (zcon W Ad pre' r') <= (if pre'.length + 1 < pre.length then c else 32 - g) /\ ab (zcon W Ad (pre' ++ [e]) r') <= (if pre'.length + 1 < pre.length then c else 32 - g)
   by_cases hj : pre'.length + 1 < pre.length
   ·simp only [if_pos hj]
    exact ⟨small _ _ h1 (by omega) r' hr', small _ _ a2 (by simp; omega) r' hr'⟩
   ·simp only [if_neg hj]
    have b1 := h32 _ _ h1 r' hr'
    have b2 := h32 _ _ a2 r' hr'
    exact ⟨by grind, by grind⟩
  ·show (if j + 1 < pre.length then c else 32 - g) + g <= p2 (if j + 1 < pre.length then 4 else 5) /\ -120 <= (if j + 1 < pre.length then (4 : Int) else 5) /\ (if j + 1 < pre.length then (4 : Int) else 5) <= 100
   by_cases hj : j + 1 < pre.length
   ·simp only [if_pos hj, p2_4]
    exact ⟨hc, by decide, by decide⟩
   ·simp only [if_neg hj, p2_5]
    exact ⟨by grind, by decide, by decide⟩
  ·have m := Rat.mul_le_mul_of_nonneg_right hZ (show (0 : Rat) <= 1 / 16777216 by decide +kernel)
   grind
theorem zsum_le {W : Nat} {Ad : Pt × Pt -> List (Nat × Nat)} {lev : Nat -> Int} {own : Pt × Pt -> Rat} {c : Nat -> Rat} : ∀ (t : List (Pt × Pt)) (j : Nat), (∀ e ∈ t, ∀ i, (zcnt W (Ad e) : Rat) * p2 (lev i - 25) + own e * (1 / 16777216) <= c i) ->
  zsumF W Ad lev t j + sumE own t * (1 / 16777216) <= sumN (fun i => c (j + i)) t.length
 | [], j, _ => by
  simp only [zsumF, sumE, List.length_nil, sumN]
  grind
 | e :: t, j, h => by
  have ih := zsum_le (W := W) (Ad := Ad) (lev := lev) (own := own) (c := c) t (j + 1) (fun e he => h e (by simp [he]))
  have h1 := h e (by simp) j
  have e1 : sumN (fun i => c (j + i)) (t.length + 1) = c j + sumN (fun i => c (j + 1 + i)) t.length := by
   have : ∀ n : Nat, sumN (fun i => c (j + i)) (n + 1) = c j + sumN (fun i => c (j + 1 + i)) n := by
    intro n
    induction n with
    | zero => simp only [sumN, Nat.add_zero]; grind
    | succ n ih =>
     rw [sumN, ih, sumN, show j + 1 + n = j + (n + 1) by omega]
     grind
   exact this _
  rw [zsumF, sumE, List.length_cons, e1]
  grind
theorem lev_flat {W H : Nat} {Ad : Pt × Pt -> List (Nat × Nat)} {gs : List (Pt × Pt)} {own : Pt × Pt -> Rat} {g Zb : Rat} {m : Nat -> Rat} {lev : Nat -> Int} {c : Nat -> Rat} (hm : ∀ j, m j <= m (j + 1)) (hcon : ∀ pre t, pre ++ t = gs -> ∀ r, r < H -> ab (zcon W Ad pre r) <= m pre.length)
  (hlev : ∀ j, j < gs.length -> m (j + 1) + g <= p2 (lev j) /\ -120 <= lev j /\ lev j <= 100) (hc : ∀ e ∈ gs, ∀ i, (zcnt W (Ad e) : Rat) * p2 (lev i - 25) + own e * (1 / 16777216) <= c i) (hZ : sumN c gs.length <= Zb * (1 / 16777216)) : LevOk W H Ad gs own g Zb := by
 refine ⟨lev, fun j => m (j + 1), fun pre e t h r hr => ?_, hlev, ?_⟩
 ·show ab (zcon W Ad pre r) <= m (pre.length + 1) /\ ab (zcon W Ad (pre ++ [e]) r) <= m (pre.length + 1)
  have h1 := hcon _ _ h r hr
  have h2 := hcon (pre ++ [e]) t (by rw [<- h]; simp) r hr
  rw [show (pre ++ [e]).length = pre.length + 1 by simp] at h2
  exact ⟨Rat.le_trans h1 (hm _), h2⟩
 ·have z := zsum_le (W := W) (Ad := Ad) (lev := lev) (own := own) (c := c) gs 0 hc
  have e : sumN (fun i => c (0 + i)) gs.length = sumN c gs.length := sumN_congr fun i _ => by rw [Nat.zero_add]
  rw [e] at z
  exact Rat.le_trans z hZ
theorem cells_lev {W H : Nat} {own len : Pt × Pt -> Rat} {R : Pt × Pt -> Int} {Ad : Pt × Pt -> List (Nat × Nat)} {gs : List (Pt × Pt)} (hE : ∀ e ∈ gs, FE W H e (own e) (R e) (Ad e)) (hlen : ∀ e ∈ gs, ((Ad e).length : Rat) <= len e) (hW : 0 < W)
  {κ δ Zb hb lb : Rat} (hκ0 : 0 <= κ) (hδ : ∀ e ∈ gs, hE' e * (3 / 10000) + 1 / 100000000000000000000 <= δ) (hL : LevOk W H Ad gs own (δ + κ) Zb) (hhb : ∀ e ∈ gs, habsF e <= hb /\ len e <= lb)
  {C : Rat} (hC : Zb * (1 / 16777216) - sumE own gs * (1 / 16777216) + hb * (gs.length * (gs.length + 1) / 2) * (1 / 16777216) + gs.length * (lb * (κ * (1 / 16777216) + 1 / 1000000000000000000000000000000)) <= C) (hCκ : C <= κ) :
  offL (fadds (gs.flatMap Ad) (List.replicate (W * H) 0)) (valL (gs.flatMap Ad)) (W * H) <= C := by
 obtain ⟨lev, M, h1, h2, h3⟩ := hL
 have c := costF_le (W := W) (Ad := Ad) (len := len) (lev := lev) hκ0 gs 0 0 hhb
 have e0 : offL (List.replicate (W * H) 0) (valL (([] : List (Pt × Pt)).flatMap Ad)) (W * H) <= 0 := by
  have h0 : valL (([] : List (Pt × Pt)).flatMap Ad) = [] := rfl
  have h1 : offL (List.replicate (W * H) 0) [] (W * H) = sumN (fun _ => 0) (W * H) := by
   unfold offL
   refine sumN_congr fun k hk => ?_
   have : fAt (List.replicate (W * H) 0) k = 0 := by unfold fAt; simp [List.getD, hk]
   rw [this, fzero.2]
   show ab (0 - 0) = 0
   decide +kernel
  rw [h0, h1, sumN_const]
  grind
 have k := cells_F hE hlen hW (lev := lev) (M := M) hκ0 hδ (fun pre e t hg r hr => by
   have := h1 pre e t hg r hr
   rw [zcon_snoc] at this
   exact this) (fun j hj => by
   have := h2 j hj
   exact ⟨by grind, this.2⟩) gs [] (List.replicate (W * H) 0) 0 0 rfl (CellsBd.zero _) (by simp) e0 Rat.le_refl (by show (0 : Rat) <= 0; exact Rat.le_refl) Rat.le_refl (by
   rw [List.length_nil]
   grind)
 rw [List.length_nil] at k
 grind
end Go.Proofs.Ytmgcbodlolnheaa
