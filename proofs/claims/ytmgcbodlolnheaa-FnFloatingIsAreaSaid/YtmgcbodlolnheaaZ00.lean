/- Floating point over the model's words: what rounding does, in rational numbers. No program is named here. Floating point: comparing, whole numbers, conversions. No program is named here. Words for memory that all texts of this seat use: a block known whole ('Blk'), what a call may have turned -/
import Ieee.Arith
import GoSem.Core.Float
import Derived.Test.YtmgcbodlolnheaaRows
import Derived.WalkKit
import Derived.ProofKit
import Derived.OpenShut
import Derived.WalkLawsBesides
import Derived.WalkSpells
import Derived.Deep.QuietTactic
import Derived.BigQuiet
import Derived.BigRegion
namespace Go.Proofs.Ytmgcbodlolnheaa
namespace Flt
open Ieee
def p2 (e : Int) : Rat := (2 : Rat) ^ e
theorem two_ne : (2 : Rat) ≠ 0 := by decide
theorem p2_pos (e : Int) : 0 < p2 e := Rat.zpow_pos (by decide)
theorem p2_add (a b : Int) : p2 (a + b) = p2 a * p2 b := Rat.zpow_add two_ne a b
theorem p2_zero : p2 0 = 1 := Rat.zpow_zero 2
theorem p2_one : p2 1 = 2 := Rat.zpow_one 2
theorem p2_succ (a : Int) : p2 (a + 1) = 2 * p2 a := by rw [p2_add, p2_one, Rat.mul_comm]
theorem p2_nat (n : Nat) : p2 (n : Int) = ((2 ^ n : Nat) : Rat) := by
 unfold p2
 rw [Rat.zpow_natCast]
 simp
theorem p2_ge_one (n : Nat) : 1 <= p2 (n : Int) := by
 rw [p2_nat]
 have : 1 <= 2 ^ n := Nat.one_le_two_pow
 exact_mod_cast this
theorem p2_mono {a b : Int} (h : a <= b) : p2 a <= p2 b := by
 obtain ⟨n, rfl⟩ : ∃ n : Nat, b = a + n := ⟨(b - a).toNat, by omega⟩
 rw [p2_add]
 have h1 := p2_ge_one n
 have h2 := p2_pos a
 have := Rat.mul_le_mul_of_nonneg_left h1 (Rat.le_of_lt h2)
 rw [Rat.mul_one] at this
 exact this
theorem p2_split {a b : Int} (h : a <= b) : p2 b = ((2 ^ (b - a).toNat : Nat) : Rat) * p2 a := by
 rw [<- p2_nat, <- p2_add]
 congr 1
 omega
def sgn (neg : Bool) : Rat := if neg then -1 else 1
def dval : Datum -> Rat
 | .number s m e => sgn s * m * p2 e
 | _ => 0
def Fin (f : Format) (w : Nat) : Prop := ∃ s m e, f.read w = .number s m e
def fval (f : Format) (w : Nat) : Rat := dval (f.read w)
theorem signed_val (neg : Bool) (mag up : Nat) : ((signed neg mag up : Int) : Rat) = sgn neg * mag * p2 (up : Int) := by
 unfold signed sgn
 rw [p2_nat, Nat.shiftLeft_eq]
 cases neg <;> simp [Rat.intCast_natCast] <;> grind
theorem cut_even (neg : Bool) (n drop : Nat) : ∃ k : Nat, Toward.even.cut neg n drop = k /\ 2 * n <= (2 * k + 1) * 2 ^ drop /\ 2 * k * 2 ^ drop <= 2 * n + 2 ^ drop := by
 refine ⟨_, rfl, ?_⟩
 unfold Toward.cut
 simp only [Nat.shiftLeft_eq, Nat.one_mul]
 by_cases hd : drop <= n.log2 + 2
 ·rw [Nat.min_eq_left hd]
  have hp : 0 < 2 ^ drop := Nat.two_pow_pos _
  have h1 := Nat.div_add_mod n (2 ^ drop)
  have h2 := Nat.mod_lt n hp
  generalize n / 2 ^ drop = q at *
  generalize n % 2 ^ drop = r at *
  generalize 2 ^ drop = g at *
  have hq : (2 * q + 1) * g = 2 * (g * q) + g := by grind
  have hq2 : 2 * q * g = 2 * (g * q) := by grind
  by_cases hm : (decide (g < 2 * r) || g == 2 * r && q % 2 == 1) = true
  ·rw [hm]
   simp only [Bool.toNat_true]
   have h3 : g <= 2 * r := by
    simp at hm
    omega
   have e1 : (2 * (q + 1) + 1) * g = 2 * (g * q) + 3 * g := by grind
   have e2 : 2 * (q + 1) * g = 2 * (g * q) + 2 * g := by grind
   rw [e1, e2]
   omega
  ·have hm' : (decide (g < 2 * r) || g == 2 * r && q % 2 == 1) = false := by simpa using hm
   rw [hm']
   simp only [Bool.toNat_false, Nat.add_zero]
   have h3 : 2 * r <= g := by
    simp at hm'
    omega
   rw [hq, hq2]
   omega
 ·have hd' : n.log2 + 2 <= drop := by omega
  rw [Nat.min_eq_right hd']
  have hlt : n < 2 ^ (n.log2 + 1) := Nat.lt_log2_self
  have h2 : 2 ^ (n.log2 + 2) = 2 * 2 ^ (n.log2 + 1) := by rw [Nat.pow_succ, Nat.mul_comm]
  have hn : n < 2 ^ (n.log2 + 2) := by omega
  have hle : 2 ^ (n.log2 + 2) <= 2 ^ drop := Nat.pow_le_pow_right (by decide) hd'
  have e1 : n / 2 ^ (n.log2 + 2) = 0 := Nat.div_eq_of_lt hn
  have e2 : n % 2 ^ (n.log2 + 2) = n := Nat.mod_eq_of_lt hn
  rw [e1, e2]
  have hf : (decide (2 ^ (n.log2 + 2) < 2 * n) || 2 ^ (n.log2 + 2) == 2 * n && 0 % 2 == 1) = false := by
   simp
   omega
  rw [hf]
  simp
  omega
structure Good (f : Format) : Prop where
 e : 2 <= f.exponentBits
 p : 2 <= f.fractionBits
theorem good_single : Good single := ⟨by decide, by decide⟩
theorem good_double : Good double := ⟨by decide, by decide⟩
theorem binade_pos (f : Format) : 0 < f.binade := Nat.two_pow_pos _
theorem inf_add (f : Format) : f.infRung + f.binade = f.signWeight := by
 have h : 0 < 2 ^ f.exponentBits := Nat.two_pow_pos _
 unfold Format.infRung Format.signWeight
 rw [Nat.pow_add, <- Nat.succ_mul]
 exact congrArg (· * f.binade) (by omega)
theorem read_word (f : Format) (neg : Bool) {rung : Nat} (h : rung < f.signWeight) : f.read (f.word neg rung) =
  (if rung < f.binade then .number neg rung f.leastPlace
   else if rung < f.infRung then .number neg (f.binade + rung % f.binade) (f.leastPlace + (rung / f.binade - 1 : Nat))
   else if rung = f.infRung then .infinity neg else .nan neg (rung - f.infRung)) := by
 have hw : 0 < f.signWeight := Nat.two_pow_pos _
 unfold Format.read Format.word
 cases neg
 ·have e1 : rung / f.signWeight = 0 := Nat.div_eq_of_lt h
  have e2 : rung % f.signWeight = rung := Nat.mod_eq_of_lt h
  simp [e1, e2]
 ·have e1 : (f.signWeight + rung) / f.signWeight = 1 := by rw [Nat.add_div_left _ hw, Nat.div_eq_of_lt h]
  have e2 : (f.signWeight + rung) % f.signWeight = rung := by rw [Nat.add_mod_left, Nat.mod_eq_of_lt h]
  simp [e1, e2]
theorem rung_val (f : Format) (neg : Bool) (n kept : Nat) (hk : kept <= 2 * f.binade) (hn : n = 0 ∨ f.binade <= kept) (hlt : n * f.binade + kept < f.infRung) :
  ∃ m q, f.read (f.word neg (n * f.binade + kept)) = .number neg m q /\ (m : Rat) * p2 q = kept * p2 (f.leastPlace + n) := by
 have hb := binade_pos f
 have hi := inf_add f
 rw [read_word f neg (by omega)]
 by_cases h1 : n * f.binade + kept < f.binade
 ·rw [if_pos h1]
  have hn0 : n = 0 := by
   rcases Nat.eq_zero_or_pos n with h | h
   ·exact h
   ·have := Nat.mul_le_mul_right f.binade h
    omega
  subst hn0
  exact ⟨_, _, rfl, by simp⟩
 ·rw [if_neg h1, if_pos hlt]
  refine ⟨_, _, rfl, ?_⟩
  have hkb : f.binade <= kept := by
   rcases hn with h | h
   ·subst h; omega
   ·exact h
  rcases Nat.lt_or_ge kept (2 * f.binade) with h2 | h2
  ·obtain ⟨r, rfl⟩ : ∃ r, kept = f.binade + r := ⟨kept - f.binade, by omega⟩
   have e0 : n * f.binade + (f.binade + r) = r + f.binade * (n + 1) := by grind
   have e1 : (n * f.binade + (f.binade + r)) % f.binade = r := by rw [e0, Nat.add_mul_mod_self_left, Nat.mod_eq_of_lt (by omega)]
   have e2 : (n * f.binade + (f.binade + r)) / f.binade = n + 1 := by rw [e0, Nat.add_mul_div_left _ _ hb, Nat.div_eq_of_lt (by omega), Nat.zero_add]
   rw [e1, e2]
   simp
  ·have hk2 : kept = 2 * f.binade := by omega
   subst hk2
   have e0 : n * f.binade + 2 * f.binade = f.binade * (n + 2) := by grind
   have e1 : (n * f.binade + 2 * f.binade) % f.binade = 0 := by rw [e0, Nat.mul_mod_right]
   have e2 : (n * f.binade + 2 * f.binade) / f.binade = n + 2 := by rw [e0, Nat.mul_div_cancel_left _ hb]
   rw [e1, e2]
   have e3 : f.leastPlace + ((n + 2 - 1 : Nat) : Int) = (f.leastPlace + (n : Int)) + 1 := by omega
   rw [e3, p2_succ]
   push_cast
   grind
def Rep (f : Format) (y : Rat) : Prop := ∃ (n : Int) (q : Int), y = n * p2 q /\ n <= 2 * f.binade /\ -(2 * f.binade) <= n /\ f.leastPlace <= q
theorem Rep.neg {f : Format} {y : Rat} (h : Rep f y) : Rep f (-y) := by
 obtain ⟨n, q, h1, h2, h3, h4⟩ := h
 exact ⟨-n, q, by rw [h1]; push_cast; grind, by omega, by omega, h4⟩
def lastOf (f : Format) (mag : Nat) (place : Int) : Int := max (place + mag.log2 - f.fractionBits) f.leastPlace
theorem nearest_core (f : Format) (mag : Nat) (place : Int) (h0 : mag ≠ 0) :
  ∃ kept : Nat, (∀ neg, f.nearest neg mag place = f.word neg (min ((lastOf f mag place - f.leastPlace).toNat * f.binade + kept) f.infRung)) /\
   2 * ((mag : Rat) * p2 place) <= (2 * kept + 1) * p2 (lastOf f mag place) /\ 2 * kept * p2 (lastOf f mag place) <= 2 * ((mag : Rat) * p2 place) + p2 (lastOf f mag place) := by
 unfold lastOf
 generalize hL : max (place + mag.log2 - f.fractionBits) f.leastPlace = L
 obtain ⟨kept, hk, h1, h2⟩ := cut_even false (mag <<< (place - L).toNat) (L - place).toNat
 have hneg : ∀ neg, Toward.even.cut neg (mag <<< (place - L).toNat) (L - place).toNat = kept := by
  intro neg
  rw [<- hk]
  rfl
 refine ⟨kept, fun neg => ?_, ?_⟩
 ·unfold Format.nearest
  rw [if_neg h0]
  simp only [hL, hneg]
 ·rw [Nat.shiftLeft_eq] at h1 h2
  have key : (mag : Rat) * p2 place * ((2 ^ (L - place).toNat : Nat) : Rat) = ((mag * 2 ^ (place - L).toNat : Nat) : Rat) * p2 L := by
   rcases Int.le_total place L with hle | hle
   ·have e : (place - L).toNat = 0 := by omega
    rw [e, p2_split hle]
    push_cast
    grind
   ·have e : (L - place).toNat = 0 := by omega
    rw [e, p2_split hle]
    push_cast
    grind
  have hg : (0 : Rat) < ((2 ^ (L - place).toNat : Nat) : Rat) := by
   have := Nat.two_pow_pos (L - place).toNat
   exact_mod_cast this
  have hp := p2_pos L
  have h1' : (2 : Rat) * ((mag * 2 ^ (place - L).toNat : Nat) : Rat) <= (2 * kept + 1) * ((2 ^ (L - place).toNat : Nat) : Rat) := by exact_mod_cast h1
  have h2' : (2 : Rat) * kept * ((2 ^ (L - place).toNat : Nat) : Rat) <= 2 * ((mag * 2 ^ (place - L).toNat : Nat) : Rat) + ((2 ^ (L - place).toNat : Nat) : Rat) := by exact_mod_cast h2
  generalize ((mag * 2 ^ (place - L).toNat : Nat) : Rat) = M at *
  generalize ((2 ^ (L - place).toNat : Nat) : Rat) = G at *
  generalize p2 L = P at *
  generalize (mag : Rat) * p2 place = X at *
  constructor
  ·refine Rat.le_of_mul_le_mul_right ?_ hg
   have := Rat.mul_le_mul_of_nonneg_right h1' (Rat.le_of_lt hp)
   grind
  ·refine Rat.le_of_mul_le_mul_right ?_ hg
   have := Rat.mul_le_mul_of_nonneg_right h2' (Rat.le_of_lt hp)
   grind
theorem p2_lt {a b : Int} (h : a < b) : p2 a < p2 b := by
 have h1 := p2_mono (a := a + 1) (b := b) (by omega)
 rw [p2_succ] at h1
 have := p2_pos a
 grind
theorem le_of_p2 {a b : Int} (h : p2 a <= p2 b) : a <= b := by
 rcases Int.lt_or_le b a with h1 | h1
 ·have := p2_lt h1
  grind
 ·exact h1
theorem log2_lo (mag : Nat) (place : Int) (h0 : mag ≠ 0) : p2 (mag.log2 + place) <= mag * p2 place := by
 rw [p2_add, p2_nat]
 refine Rat.mul_le_mul_of_nonneg_right ?_ (Rat.le_of_lt (p2_pos _))
 have := Nat.log2_self_le h0
 exact_mod_cast this
theorem log2_hi (mag : Nat) (place : Int) : (mag : Rat) * p2 place < p2 (mag.log2 + place + 1) := by
 have e : (mag.log2 : Int) + place + 1 = ((mag.log2 + 1 : Nat) : Int) + place := by omega
 rw [e, p2_add, p2_nat]
 refine Rat.mul_lt_mul_of_pos_right ?_ (p2_pos _)
 have : mag < 2 ^ (mag.log2 + 1) := Nat.lt_log2_self
 exact_mod_cast this
theorem binade_p2 (f : Format) : ((f.binade : Nat) : Rat) = p2 f.fractionBits := by rw [p2_nat]; rfl
def big (f : Format) : Int := 2 ^ f.exponentBits + f.leastPlace + f.fractionBits - 4
structure RndPos (f : Format) (X v : Rat) : Prop where
 nonneg : 0 <= v
 err : ∃ L k : Int, f.leastPlace <= L /\ 2 * v <= 2 * X + p2 L /\ 2 * X <= 2 * v + p2 L /\ (L = f.leastPlace ∨ f.binade * p2 L <= X) /\ v = k * p2 L /\ X < 2 * f.binade * p2 L
 up : ∀ y, Rep f y -> X <= y -> v <= y
 dn : ∀ y, Rep f y -> y <= X -> y <= v
theorem int_le_of_cast_mul {a b : Int} {P : Rat} (hp : 0 < P) (h : (a : Rat) * P <= b * P) : a <= b := by
 have := Rat.le_of_mul_le_mul_right h hp
 exact_mod_cast this
theorem rep_ge {f : Format} {L : Int} {y : Rat} (hL : f.leastPlace <= L) (hy : Rep f y) (h : L = f.leastPlace ∨ f.binade * p2 L <= y) : ∃ N : Int, y = N * p2 L := by
 obtain ⟨n, q, rfl, hn1, hn2, hq⟩ := hy
 rcases Int.le_total L q with h1 | h1
 ·exact ⟨n * (2 ^ (q - L).toNat : Nat), by rw [p2_split h1]; push_cast; grind⟩
 ·rcases h with h | h
  ·have : q = L := by omega
   subst this
   exact ⟨n, rfl⟩
  ·rcases Int.lt_or_le q L with h2 | h2
   ·have hq2 : p2 (q + 1) <= p2 L := p2_mono (by omega)
    rw [p2_succ] at hq2
    have hpq := p2_pos q
    have hb : (0 : Rat) <= f.binade := Rat.natCast_nonneg
    have h3 := Rat.mul_le_mul_of_nonneg_left hq2 hb
    have h4 : (n : Rat) <= 2 * f.binade := by exact_mod_cast hn1
    have h5 := Rat.mul_le_mul_of_nonneg_right h4 (Rat.le_of_lt hpq)
    exact ⟨f.binade, by push_cast; grind⟩
   ·have : q = L := by omega
    subst this
    exact ⟨n, rfl⟩
theorem rep_multiple {f : Format} {L : Int} {X y : Rat} (hL : f.leastPlace <= L) (hX : L = f.leastPlace ∨ f.binade * p2 L <= X) (hy : Rep f y) (h : X <= y) : ∃ N : Int, y = N * p2 L :=
 rep_ge hL hy (hX.imp id fun h1 => Rat.le_trans h1 h)
theorem rep_multiple' {f : Format} {L : Int} {kept : Nat} {y : Rat} (hL : f.leastPlace <= L) (hk : L = f.leastPlace ∨ f.binade <= kept) (hy : Rep f y) (h : kept * p2 L <= y) : ∃ N : Int, y = N * p2 L :=
 rep_ge hL hy (hk.imp id fun h1 => Rat.le_trans (Rat.mul_le_mul_of_nonneg_right (by exact_mod_cast h1) (Rat.le_of_lt (p2_pos _))) h)
theorem nearest_pos {f : Format} (hgood : Good f) (mag : Nat) (place : Int) (h0 : mag ≠ 0) (hbig : (mag : Rat) * p2 place <= p2 (big f)) :
  ∃ v, (∀ neg, ∃ m q, f.read (f.nearest neg mag place) = .number neg m q /\ (m : Rat) * p2 q = v) /\ RndPos f (mag * p2 place) v := by
 obtain ⟨kept, hw, h1, h2⟩ := nearest_core f mag place h0
 have hlo := log2_lo mag place h0
 have hhi := log2_hi mag place
 have hE := le_of_p2 (Rat.le_trans hlo hbig)
 have hL : lastOf f mag place = max (place + mag.log2 - f.fractionBits) f.leastPlace := rfl
 generalize lastOf f mag place = L at *
 generalize hX : (mag : Rat) * p2 place = X at *
 have hPL := p2_pos L
 have hBp := binade_pos f
 have hLl : f.leastPlace <= L := by omega
 have hXhi : X < 2 * f.binade * p2 L := by
  have h3 : p2 (mag.log2 + place + 1) <= p2 (L + f.fractionBits + 1) := p2_mono (by omega)
  rw [p2_succ (L + _), p2_add L, <- binade_p2] at h3
  grind
 have hXlo : L = f.leastPlace ∨ f.binade * p2 L <= X := by
  rcases Int.lt_or_le f.leastPlace L with h | h
  ·right
   have h3 : p2 (L + f.fractionBits) <= p2 (mag.log2 + place) := p2_mono (by omega)
   rw [p2_add L, <- binade_p2] at h3
   grind
  ·left; omega
 have hk2 : kept <= 2 * f.binade := by
  have h3 : (2 : Rat) * kept * p2 L < (4 * f.binade + 1) * p2 L := by grind
  have h4 : (2 : Rat) * kept < 4 * f.binade + 1 := Rat.lt_of_mul_lt_mul_right h3 (Rat.le_of_lt hPL)
  have h5 : 2 * kept < 4 * f.binade + 1 := by exact_mod_cast h4
  omega
 have hk1 : L = f.leastPlace ∨ f.binade <= kept := by
  rcases hXlo with h | h
  ·exact .inl h
  ·right
   have h3 : (2 : Rat) * f.binade * p2 L <= (2 * kept + 1) * p2 L := by grind
   have h4 : (2 : Rat) * f.binade <= 2 * kept + 1 := Rat.le_of_mul_le_mul_right h3 hPL
   have h5 : 2 * f.binade <= 2 * kept + 1 := by exact_mod_cast h4
   omega
 have hrung : (L - f.leastPlace).toNat * f.binade + kept < f.infRung := by
  have h3 : (L - f.leastPlace).toNat + 4 <= 2 ^ f.exponentBits := by
   have h4 : (4 : Int) <= 2 ^ f.exponentBits := by
    have h6 : 2 ^ 2 <= 2 ^ f.exponentBits := Nat.pow_le_pow_right (by decide) hgood.e
    exact_mod_cast h6
   unfold big at hE
   have h5 : ((2 ^ f.exponentBits : Nat) : Int) = 2 ^ f.exponentBits := by push_cast; rfl
   omega
  have h4 := Nat.mul_le_mul_right f.binade h3
  have h5 : f.infRung = 2 ^ f.exponentBits * f.binade - f.binade := by
   unfold Format.infRung
   rw [Nat.sub_mul, Nat.one_mul]
  have h6 : ((L - f.leastPlace).toNat + 4) * f.binade = (L - f.leastPlace).toNat * f.binade + 4 * f.binade := by grind
  rw [h6] at h4
  generalize 2 ^ f.exponentBits * f.binade = Z at h4 h5
  generalize (L - f.leastPlace).toNat * f.binade = Y at h4 ⊢
  omega
 refine ⟨kept * p2 L, fun neg => ?_, ?_⟩
 ·rw [hw neg, Nat.min_eq_left (by omega)]
  obtain ⟨m, q, e1, e2⟩ := rung_val f neg (L - f.leastPlace).toNat kept hk2 (by omega) hrung
  refine ⟨m, q, e1, ?_⟩
  rw [e2]
  congr 2
  omega
 ·have hkn : (0 : Rat) <= kept := Rat.natCast_nonneg
  refine ⟨Rat.mul_nonneg hkn (Rat.le_of_lt hPL), ⟨L, (kept : Int), hLl, by grind, by grind, hXlo, by rw [Rat.intCast_natCast], hXhi⟩, ?_, ?_⟩
  ·intro y hy hXy
   obtain ⟨N, hN⟩ := rep_multiple hLl hXlo hy hXy
   subst hN
   have h3 : (2 : Rat) * kept * p2 L <= (2 * N + 1) * p2 L := by grind
   have h4 : (2 : Rat) * kept <= 2 * N + 1 := Rat.le_of_mul_le_mul_right h3 hPL
   have h5 : 2 * (kept : Int) <= 2 * N + 1 := by exact_mod_cast h4
   have h6 : (kept : Int) <= N := by omega
   refine Rat.mul_le_mul_of_nonneg_right ?_ (Rat.le_of_lt hPL)
   exact_mod_cast h6
  ·intro y hy hXy
   rcases Rat.le_total (a := y) (b := kept * p2 L) with h | h
   ·exact h
   ·obtain ⟨N, hN⟩ := rep_multiple' hLl hk1 hy h
    subst hN
    have h3 : (2 : Rat) * N * p2 L <= (2 * kept + 1) * p2 L := by grind
    have h4 : (2 : Rat) * N <= 2 * kept + 1 := Rat.le_of_mul_le_mul_right h3 hPL
    have h5 : 2 * N <= 2 * (kept : Int) + 1 := by exact_mod_cast h4
    have h6 : N <= (kept : Int) := by omega
    refine Rat.mul_le_mul_of_nonneg_right ?_ (Rat.le_of_lt hPL)
    exact_mod_cast h6
def ab (x : Rat) : Rat := if 0 <= x then x else -x
theorem ab_nonneg (x : Rat) : 0 <= ab x := by unfold ab; split <;> grind
theorem le_ab (x : Rat) : x <= ab x := by unfold ab; split <;> grind
theorem neg_le_ab (x : Rat) : -x <= ab x := by unfold ab; split <;> grind
theorem ab_le {x y : Rat} (h1 : x <= y) (h2 : -y <= x) : ab x <= y := by unfold ab; split <;> grind
theorem ab_of_nonneg {x : Rat} (h : 0 <= x) : ab x = x := by unfold ab; rw [if_pos h]
theorem ab_neg (x : Rat) : ab (-x) = ab x := by unfold ab; split <;> split <;> grind
structure Rounds (f : Format) (x : Rat) (r : Nat) : Prop where
 fin : Fin f r
 up : ∀ y, Rep f y -> x <= y -> fval f r <= y
 dn : ∀ y, Rep f y -> y <= x -> y <= fval f r
 err : ∃ L k : Int, f.leastPlace <= L /\ 2 * fval f r <= 2 * x + p2 L /\ 2 * x <= 2 * fval f r + p2 L /\ (L = f.leastPlace ∨ f.binade * p2 L <= ab x) /\ fval f r = k * p2 L /\ ab x < 2 * f.binade * p2 L
theorem Rounds.exact {f : Format} {x : Rat} {r : Nat} (h : Rounds f x r) (hx : Rep f x) : fval f r = x := by
 have h1 := h.up x hx (by grind)
 have h2 := h.dn x hx (by grind)
 grind
theorem read_zero (f : Format) (neg : Bool) : f.read (f.word neg 0) = .number neg 0 f.leastPlace := by
 have h := inf_add f
 have hb := binade_pos f
 rw [read_word f neg (by omega), if_pos hb]
theorem write_rounds {f : Format} (hgood : Good f) (neg : Bool) (mag : Nat) (place : Int) (hbig : (mag : Rat) * p2 place <= p2 (big f)) :
  Rounds f (dval (.number neg mag place)) (f.write (.number neg mag place)) := by
 by_cases h0 : mag = 0
 ·subst h0
  have e : f.write (.number neg 0 place) = f.word neg 0 := by simp [Format.write, Format.nearest]
  have hz : fval f (f.word neg 0) = 0 := by unfold fval; rw [read_zero]; simp [dval]
  have hx : dval (.number neg 0 place) = 0 := by simp [dval]
  rw [e, hx]
  refine ⟨⟨_, _, _, read_zero f neg⟩, fun y _ h => by rw [hz]; exact h, fun y _ h => by rw [hz]; exact h, ⟨f.leastPlace, 0, Int.le_refl _, ?_, ?_, .inl rfl, ?_, ?_⟩⟩
  ·rw [hz]
   have := p2_pos f.leastPlace
   grind
  ·rw [hz]
   have := p2_pos f.leastPlace
   grind
  ·rw [hz]
   simp
  ·have h1 := p2_pos f.leastPlace
   have h2 : (0 : Rat) < f.binade := by have := binade_pos f; exact_mod_cast this
   have h3 := Rat.mul_pos h2 h1
   have h4 : ab 0 = 0 := by decide
   rw [h4]
   grind
 ·obtain ⟨v, hv, hr⟩ := nearest_pos hgood mag place h0 hbig
  obtain ⟨m, q, e1, e2⟩ := hv neg
  have e : f.write (.number neg mag place) = f.nearest neg mag place := rfl
  have hval : fval f (f.nearest neg mag place) = sgn neg * v := by
   unfold fval
   rw [e1]
   simp only [dval]
   grind
  have hx : dval (.number neg mag place) = sgn neg * (mag * p2 place) := by simp only [dval]; grind
  have hX : 0 <= (mag : Rat) * p2 place := Rat.mul_nonneg Rat.natCast_nonneg (Rat.le_of_lt (p2_pos _))
  rw [e, hx]
  generalize (mag : Rat) * p2 place = X at *
  obtain ⟨L, k, l1, l2, l3, l4, l5, l6⟩ := hr.err
  cases neg
  ·simp only [sgn, Bool.false_eq_true, if_false, Rat.one_mul] at hval ⊢
   exact ⟨⟨_, _, _, e1⟩, fun y hy h => by rw [hval]; exact hr.up y hy h, fun y hy h => by rw [hval]; exact hr.dn y hy h,
    ⟨L, k, l1, by rw [hval]; exact l2, by rw [hval]; exact l3, by rw [ab_of_nonneg hX]; exact l4, by rw [hval]; exact l5, by rw [ab_of_nonneg hX]; exact l6⟩⟩
  ·simp only [sgn, if_true] at hval ⊢
   have e3 : (-1 : Rat) * X = -X := by grind
   have e4 : (-1 : Rat) * v = -v := by grind
   rw [e4] at hval
   rw [e3]
   refine ⟨⟨_, _, _, e1⟩, fun y hy h => ?_, fun y hy h => ?_, ⟨L, -k, l1, ?_, ?_, ?_, ?_, ?_⟩⟩
   ·rw [hval]
    have := hr.dn (-y) hy.neg (by grind)
    grind
   ·rw [hval]
    have := hr.up (-y) hy.neg (by grind)
    grind
   ·rw [hval]; grind
   ·rw [hval]; grind
   ·rw [ab_neg, ab_of_nonneg hX]; exact l4
   ·rw [hval]; push_cast; grind
   ·rw [ab_neg, ab_of_nonneg hX]; exact l6
theorem dval_ab (neg : Bool) (mag : Nat) (place : Int) : ab (dval (.number neg mag place)) = mag * p2 place := by
 have hX : 0 <= (mag : Rat) * p2 place := Rat.mul_nonneg Rat.natCast_nonneg (Rat.le_of_lt (p2_pos _))
 unfold dval sgn ab
 cases neg
 ·simp only [Bool.false_eq_true, if_false, Rat.one_mul]
  rw [if_pos hX]
 ·simp only [if_true]
  split <;> grind
theorem write_rounds' {f : Format} (hgood : Good f) (neg : Bool) (mag : Nat) (place : Int) (hbig : ab (dval (.number neg mag place)) <= p2 (big f)) :
  Rounds f (dval (.number neg mag place)) (f.write (.number neg mag place)) :=
 write_rounds hgood neg mag place (by rw [<- dval_ab neg]; exact hbig)
theorem sum_val (s t : Bool) (m n : Nat) (i j : Int) : ∃ u k q, (Datum.number s m i).sum (.number t n j) = some (.number u k q) /\ dval (.number u k q) = dval (.number s m i) + dval (.number t n j) := by
 refine ⟨_, _, _, rfl, ?_⟩
 have h1 := signed_val s m (i - min i j).toNat
 have h2 := signed_val t n (j - min i j).toNat
 have e1 : p2 i = p2 ((i - min i j).toNat : Int) * p2 (min i j) := by rw [<- p2_add]; congr 1; omega
 have e2 : p2 j = p2 ((j - min i j).toNat : Int) * p2 (min i j) := by rw [<- p2_add]; congr 1; omega
 simp only [dval]
 rw [e1, e2]
 generalize hT : signed s m (i - min i j).toNat + signed t n (j - min i j).toNat = T
 have hT' : ((T : Int) : Rat) = sgn s * m * p2 ((i - min i j).toNat : Int) + sgn t * n * p2 ((j - min i j).toNat : Int) := by
  rw [<- hT, <- h1, <- h2]
  push_cast
  rfl
 have key : sgn (if T = 0 then s && t else decide (T < 0)) * (T.natAbs : Rat) = (T : Rat) := by
  by_cases h0 : T = 0
  ·subst h0; simp
  ·rw [if_neg h0]
   by_cases hn : T < 0
   ·have e3 : ((T.natAbs : Int) : Rat) = ((-T : Int) : Rat) := by congr 1; omega
    rw [Rat.intCast_natCast] at e3
    rw [e3]
    simp [sgn, hn]
    grind
   ·have e3 : ((T.natAbs : Int) : Rat) = ((T : Int) : Rat) := by congr 1; omega
    rw [Rat.intCast_natCast] at e3
    rw [e3]
    simp [sgn, hn]
 rw [key, hT']
 grind
theorem add_rounds {f : Format} (hgood : Good f) {a b : Nat} (ha : Fin f a) (hb : Fin f b) (hbig : ab (fval f a + fval f b) <= p2 (big f)) :
  ∃ r, f.add a b = some r /\ Rounds f (fval f a + fval f b) r := by
 obtain ⟨s, m, i, ea⟩ := ha
 obtain ⟨t, n, j, eb⟩ := hb
 unfold fval at hbig ⊢
 rw [ea, eb] at hbig ⊢
 obtain ⟨u, k, q, h1, h2⟩ := sum_val s t m n i j
 rw [<- h2] at hbig ⊢
 exact ⟨_, by unfold Format.add; rw [ea, eb, h1]; rfl, write_rounds' hgood u k q hbig⟩
theorem opposite_val (s : Bool) (m : Nat) (i : Int) : (Datum.number s m i).opposite = .number (!s) m i /\ dval (.number (!s) m i) = -dval (.number s m i) := by
 refine ⟨rfl, ?_⟩
 unfold dval sgn
 cases s <;> simp <;> grind
theorem sub_rounds {f : Format} (hgood : Good f) {a b : Nat} (ha : Fin f a) (hb : Fin f b) (hbig : ab (fval f a - fval f b) <= p2 (big f)) :
  ∃ r, f.sub a b = some r /\ Rounds f (fval f a - fval f b) r := by
 obtain ⟨s, m, i, ea⟩ := ha
 obtain ⟨t, n, j, eb⟩ := hb
 unfold fval at hbig ⊢
 rw [ea, eb] at hbig ⊢
 obtain ⟨o1, o2⟩ := opposite_val t n j
 obtain ⟨u, k, q, h1, h2⟩ := sum_val s (!t) m n i j
 have e3 : dval (.number s m i) - dval (.number t n j) = dval (.number s m i) + dval (.number (!t) n j) := by rw [o2]; grind
 rw [e3, <- h2] at hbig ⊢
 exact ⟨_, by unfold Format.sub; rw [ea, eb, o1, h1]; rfl, write_rounds' hgood u k q hbig⟩
theorem prod_val (s t : Bool) (m n : Nat) (i j : Int) : dval (.number (s ^^ t) (m * n) (i + j)) = dval (.number s m i) * dval (.number t n j) := by
 simp only [dval]
 rw [p2_add]
 cases s <;> cases t <;> simp [sgn] <;> grind
theorem mul_rounds {f : Format} (hgood : Good f) {a b : Nat} (ha : Fin f a) (hb : Fin f b) (hbig : ab (fval f a * fval f b) <= p2 (big f)) :
  ∃ r, f.mul a b = some r /\ Rounds f (fval f a * fval f b) r := by
 obtain ⟨s, m, i, ea⟩ := ha
 obtain ⟨t, n, j, eb⟩ := hb
 unfold fval at hbig ⊢
 rw [ea, eb] at hbig ⊢
 rw [<- prod_val] at hbig ⊢
 exact ⟨_, by unfold Format.mul; rw [ea, eb]; rfl, write_rounds' hgood _ _ _ hbig⟩
theorem sticky_rounds {f : Format} {Q : Nat} {st : Bool} {U : Int} {X : Rat} {r : Nat} (hQ : 2 * f.binade <= Q) (h2 : X < (Q + 1) * p2 U) (h3 : st = false -> X = Q * p2 U) (h4 : st = true -> Q * p2 U < X)
  (hr : Rounds f ((2 * Q + (st.toNat : Nat) : Nat) * p2 (U - 1)) r) : Rounds f X r := by
 have hU := p2_pos U
 have hU1 : p2 U = 2 * p2 (U - 1) := by rw [<- p2_succ]; congr 1; omega
 cases st
 ·rw [h3 rfl]
  have e : ((2 * Q + (false.toNat : Nat) : Nat) : Rat) * p2 (U - 1) = Q * p2 U := by rw [hU1]; simp; grind
  rw [e] at hr
  exact hr
 ·have h4 := h4 rfl
  have e : ((2 * Q + (true.toNat : Nat) : Nat) : Rat) * p2 (U - 1) = Q * p2 U + p2 U / 2 := by rw [hU1]; simp; grind
  rw [e] at hr
  have hb : (0 : Rat) < f.binade := by have := binade_pos f; exact_mod_cast this
  have hQ' : (2 : Rat) * f.binade <= Q := by exact_mod_cast hQ
  have hX0 : 0 <= X := by
   have := Rat.mul_nonneg (Rat.natCast_nonneg (a := Q)) (Rat.le_of_lt hU)
   grind
  have hmult : ∀ y, Rep f y -> Q * p2 U < y -> (Q + 1) * p2 U <= y := by
   rintro y ⟨n, q, rfl, n1, n2, hq⟩ hy
   rcases Int.le_total U q with h5 | h5
   ·rw [p2_split h5] at hy ⊢
    have h6 : (Q : Rat) * p2 U < ((n * (2 ^ (q - U).toNat : Nat) : Int) : Rat) * p2 U := by push_cast; push_cast at hy; grind
    have h7 := Rat.lt_of_mul_lt_mul_right h6 (Rat.le_of_lt hU)
    have h8 : (Q : Int) < n * (2 ^ (q - U).toNat : Nat) := by exact_mod_cast h7
    have h9 : (Q : Int) + 1 <= n * (2 ^ (q - U).toNat : Nat) := by omega
    have h10 : ((Q : Rat) + 1) <= ((n * (2 ^ (q - U).toNat : Nat) : Int) : Rat) := by exact_mod_cast h9
    have := Rat.mul_le_mul_of_nonneg_right h10 (Rat.le_of_lt hU)
    push_cast at this ⊢
    grind
   ·have h6 := p2_mono h5
    have h7 : (n : Rat) <= 2 * f.binade := by exact_mod_cast n1
    have h8 := Rat.mul_le_mul_of_nonneg_right h7 (Rat.le_of_lt (p2_pos q))
    have h9 := Rat.mul_le_mul_of_nonneg_left h6 (c := 2 * f.binade) (by grind)
    have h10 := Rat.mul_le_mul_of_nonneg_right hQ' (Rat.le_of_lt hU)
    grind
  obtain ⟨L, k, l1, l2, l3, l4, l5, l6⟩ := hr.err
  have hQU := Rat.mul_nonneg (Rat.natCast_nonneg (a := Q)) (Rat.le_of_lt hU)
  have hpos : 0 <= Q * p2 U + p2 U / 2 := by grind
  rw [ab_of_nonneg hpos] at l4 l6
  have hLU : U < L := by
   rcases Int.lt_or_le U L with h | h
   ·exact h
   ·have h6 := p2_mono h
    have h9 := Rat.mul_le_mul_of_nonneg_left h6 (c := 2 * f.binade) (by grind)
    have h10 := Rat.mul_le_mul_of_nonneg_right hQ' (Rat.le_of_lt hU)
    grind
  obtain ⟨d, hd⟩ : ∃ d : Nat, p2 L = 2 * ((d : Rat) * p2 U) := by
   have e1 : p2 L = 2 * p2 (L - 1) := by rw [<- p2_succ]; congr 1; omega
   exact ⟨2 ^ (L - 1 - U).toNat, by rw [e1, p2_split (show U <= L - 1 by omega)]⟩
  rw [hd] at l2 l3 l5
  have hup : X <= fval f r + d * p2 U := by
   have h6 : ((2 * Q + 1 : Int) : Rat) * p2 U <= ((2 * (2 * k * d + d) : Int) : Rat) * p2 U := by push_cast; grind
   have h7 := int_le_of_cast_mul hU h6
   have h8 : (Q : Int) + 1 <= 2 * k * d + d := by omega
   have h9 : ((Q : Rat) + 1) <= ((2 * k * d + d : Int) : Rat) := by exact_mod_cast h8
   have := Rat.mul_le_mul_of_nonneg_right h9 (Rat.le_of_lt hU)
   push_cast at this
   grind
  have hdn : fval f r - d * p2 U <= X := by
   have h6 : ((2 * (2 * k * d - d) : Int) : Rat) * p2 U <= ((2 * Q + 1 : Int) : Rat) * p2 U := by push_cast; grind
   have h7 := int_le_of_cast_mul hU h6
   have h8 : 2 * k * d - d <= (Q : Int) := by omega
   have h9 : ((2 * k * d - d : Int) : Rat) <= (Q : Rat) := by exact_mod_cast h8
   have := Rat.mul_le_mul_of_nonneg_right h9 (Rat.le_of_lt hU)
   push_cast at this
   grind
  refine ⟨hr.fin, fun y hy h => hr.up y hy ?_, fun y hy h => ?_, ⟨L, k, l1, ?_, ?_, ?_, ?_, ?_⟩⟩
  ·have := hmult y hy (by grind)
   grind
  ·refine hr.dn y hy ?_
   rcases Rat.le_total (a := y) (b := Q * p2 U) with h6 | h6
   ·grind
   ·by_cases h7 : y = Q * p2 U
    ·grind
    ·have := hmult y hy (by grind)
     grind
  ·rw [hd]; grind
  ·rw [hd]; grind
  ·rw [ab_of_nonneg hX0]
   rcases l4 with h | h
   ·exact .inl h
   ·right
    have hb2 : Rep f (f.binade * p2 L) := ⟨f.binade, L, by rw [Rat.intCast_natCast], by omega, by omega, l1⟩
    rcases Rat.le_total (a := f.binade * p2 L) (b := X) with h6 | h6
    ·exact h6
    ·have := hmult _ hb2 (by grind)
     grind
  ·rw [hd]; exact l5
  ·rw [ab_of_nonneg hX0]
   have h6 : ((2 * Q + 1 : Int) : Rat) * p2 U < ((8 * f.binade * d : Int) : Rat) * p2 U := by rw [hd] at l6; push_cast; grind
   have h7 := Rat.lt_of_mul_lt_mul_right h6 (Rat.le_of_lt hU)
   have h8 : (2 * Q + 1 : Int) < 8 * f.binade * d := by exact_mod_cast h7
   have h9 : (Q : Int) + 1 <= 4 * f.binade * d := by
    have e5 : (8 : Int) * f.binade * d = 2 * (4 * f.binade * d) := by grind
    rw [e5] at h8
    generalize (4 : Int) * f.binade * d = Z at h8 ⊢
    omega
   have h10 : ((Q : Rat) + 1) <= ((4 * f.binade * d : Int) : Rat) := by exact_mod_cast h9
   have := Rat.mul_le_mul_of_nonneg_right h10 (Rat.le_of_lt hU)
   rw [hd]
   push_cast at this
   grind
theorem quot_spec {digits m n : Nat} (hn : n ≠ 0) (hm : m ≠ 0) (hd : 1 <= digits) : 2 ^ (digits - 1) <= (m <<< (digits + n.log2 - m.log2)) / n := by
 rw [Nat.le_div_iff_mul_le (Nat.pos_of_ne_zero hn), Nat.shiftLeft_eq]
 have h1 := Nat.log2_self_le hm
 have h2 : n < 2 ^ (n.log2 + 1) := Nat.lt_log2_self
 have h3 : 2 ^ (digits - 1) * n <= 2 ^ (digits - 1) * 2 ^ (n.log2 + 1) := Nat.mul_le_mul_left _ (by omega)
 have h4 : 2 ^ m.log2 * 2 ^ (digits + n.log2 - m.log2) <= m * 2 ^ (digits + n.log2 - m.log2) := Nat.mul_le_mul_right _ h1
 rw [<- Nat.pow_add] at h3 h4
 have h5 : 2 ^ (digits - 1 + (n.log2 + 1)) <= 2 ^ (m.log2 + (digits + n.log2 - m.log2)) := Nat.pow_le_pow_right (by decide) (by omega)
 omega
theorem Rounds.neg_ {f : Format} {x : Rat} {r r' : Nat} (h : Rounds f x r) (hf : Fin f r') (hv : fval f r' = -fval f r) : Rounds f (-x) r' := by
 obtain ⟨L, k, l1, l2, l3, l4, l5, l6⟩ := h.err
 refine ⟨hf, fun y hy h' => ?_, fun y hy h' => ?_, ⟨L, -k, l1, ?_, ?_, by rw [ab_neg]; exact l4, ?_, by rw [ab_neg]; exact l6⟩⟩
 ·have := h.dn (-y) hy.neg (by grind)
  grind
 ·have := h.up (-y) hy.neg (by grind)
  grind
 ·grind
 ·grind
 ·rw [hv, l5]; push_cast; grind
theorem write_neg {f : Format} (hgood : Good f) (mag : Nat) (place : Int) (hbig : (mag : Rat) * p2 place <= p2 (big f)) :
  Fin f (f.write (.number true mag place)) /\ fval f (f.write (.number true mag place)) = -fval f (f.write (.number false mag place)) := by
 by_cases h0 : mag = 0
 ·subst h0
  have e : ∀ neg, f.write (.number neg 0 place) = f.word neg 0 := fun neg => by simp [Format.write, Format.nearest]
  have hz : ∀ neg, fval f (f.word neg 0) = 0 := fun neg => by unfold fval; rw [read_zero]; simp [dval]
  rw [e, e, hz, hz]
  exact ⟨⟨_, _, _, read_zero f true⟩, by simp⟩
 ·obtain ⟨v, hv, _⟩ := nearest_pos hgood mag place h0 hbig
  obtain ⟨m, q, e1, e2⟩ := hv true
  obtain ⟨m', q', e3, e4⟩ := hv false
  refine ⟨⟨_, _, _, e1⟩, ?_⟩
  show dval (f.read (f.nearest true mag place)) = -dval (f.read (f.nearest false mag place))
  rw [e1, e3]
  simp only [dval, sgn]
  simp
  grind
theorem div_mag {f : Format} (m n : Nat) (i j : Int) (hn : n ≠ 0) (hm : m ≠ 0) (hbig : (m : Rat) * p2 i / (n * p2 j) <= p2 (big f - 1)) :
  let more := f.fractionBits + 2 + n.log2 - m.log2
  let D := m <<< more
  ((2 * (D / n) + (D % n != 0).toNat : Nat) : Rat) * p2 (i - j - more - 1) <= p2 (big f) /\
  ∀ r, Rounds f (((2 * (D / n) + (D % n != 0).toNat : Nat) : Rat) * p2 (i - j - more - 1)) r -> Rounds f (m * p2 i / (n * p2 j)) r := by
 intro more D
 have hQ := quot_spec (digits := f.fractionBits + 2) hn hm (by omega)
 have hQ2 : 2 * f.binade <= D / n := by
  have e : 2 ^ (f.fractionBits + 2 - 1) = 2 * f.binade := by
   show 2 ^ (f.fractionBits + 1) = _
   rw [Nat.pow_succ, Nat.mul_comm]
   rfl
  rw [<- e]
  exact hQ
 have hnr : (0 : Rat) < n := by have := Nat.pos_of_ne_zero hn; exact_mod_cast this
 have hpj := p2_pos j
 have hnj := Rat.mul_pos hnr hpj
 have hdm := Nat.div_add_mod D n
 have hlt := Nat.mod_lt D (Nat.pos_of_ne_zero hn)
 generalize hq : D / n = Q at *
 generalize hr : D % n = R at *
 have hU : (m : Rat) * p2 i / (n * p2 j) = ((Q : Rat) + R / n) * p2 (i - j - more) := by
  have e1 : p2 i = p2 (i - j - more) * p2 j * p2 (more : Int) := by rw [<- p2_add, <- p2_add]; congr 1; omega
  have e2 : (m : Rat) * p2 (more : Int) = n * Q + R := by
   have e3 : m * 2 ^ more = n * Q + R := by rw [hdm]; exact (Nat.shiftLeft_eq m more).symm
   rw [p2_nat]
   exact_mod_cast e3
  rw [e1]
  have hne : (n : Rat) ≠ 0 := by grind
  have hje : p2 j ≠ 0 := by grind
  have e4 : (m : Rat) * (p2 (i - j - more) * p2 j * p2 (more : Int)) = (n * Q + R) * p2 (i - j - more) * p2 j := by grind
  rw [e4]
  grind
 have hUp := p2_pos (i - j - more)
 have hR0 : (0 : Rat) <= R := Rat.natCast_nonneg
 have hR1 : (R : Rat) < n := by exact_mod_cast hlt
 have hf0 : 0 <= (R : Rat) / n := by rw [Rat.div_def]; exact Rat.mul_nonneg hR0 (Rat.le_of_lt (Rat.inv_pos.2 hnr))
 have hf1 : (R : Rat) / n < 1 := (Rat.div_lt_iff hnr).2 (by grind)
 have hfm : ((R : Rat) / n) * p2 (i - j - more) < p2 (i - j - more) := by
  have := Rat.mul_lt_mul_of_pos_right hf1 hUp
  grind
 have hfz := Rat.mul_nonneg hf0 (Rat.le_of_lt hUp)
 have hU1 : p2 (i - j - more) = 2 * p2 (i - j - more - 1) := by rw [<- p2_succ]; congr 1; omega
 rw [hU] at hbig ⊢
 constructor
 ·have hb1 : p2 (big f) = 2 * p2 (big f - 1) := by rw [<- p2_succ]; congr 1; omega
  have h1 : (((R != 0).toNat : Nat) : Rat) <= 1 := by
   have : (R != 0).toNat <= 1 := by cases (R != 0) <;> decide
   exact_mod_cast this
  have h2 := Rat.mul_le_mul_of_nonneg_right h1 (Rat.le_of_lt (p2_pos (i - j - more - 1)))
  have h3 : (1 : Rat) <= Q := by
   have := binade_pos f
   have : 1 <= Q := by omega
   exact_mod_cast this
  have h4 := Rat.mul_le_mul_of_nonneg_right h3 (Rat.le_of_lt hUp)
  push_cast
  clear hU hnj hpj hnr hR1 hf1 hdm hr hq hQ hR0 hf0
  generalize (((R != 0).toNat : Nat) : Rat) = S at *
  generalize p2 (i - j - more - 1) = P at *
  generalize p2 (i - j - more) = P2 at *
  generalize p2 (big f - 1) = B1 at *
  generalize p2 (big f) = B at *
  generalize (R : Rat) / n = T at *
  subst hU1
  grind
 ·intro r hr'
  refine sticky_rounds (st := (R != 0)) hQ2 (by grind) (fun h => ?_) (fun h => ?_) hr'
  ·have : R = 0 := by simpa using h
   subst this
   simp [Rat.div_def, Rat.add_zero]
  ·have : 0 < R := by
    have : R ≠ 0 := by simpa using h
    omega
   have h5 : (0 : Rat) < R := by exact_mod_cast this
   have h6 : 0 < (R : Rat) / n := by rw [Rat.div_def]; exact Rat.mul_pos h5 (Rat.inv_pos.2 hnr)
   have := Rat.mul_pos h6 hUp
   grind
theorem ab_of_nonpos {x : Rat} (h : x <= 0) : ab x = -x := by unfold ab; split <;> grind
theorem ab_mul (x y : Rat) : ab (x * y) = ab x * ab y := by
 rcases Rat.le_total (a := 0) (b := x) with hx | hx <;> rcases Rat.le_total (a := 0) (b := y) with hy | hy
 ·rw [ab_of_nonneg hx, ab_of_nonneg hy, ab_of_nonneg (Rat.mul_nonneg hx hy)]
 ·have h1 := Rat.mul_nonneg hx (show 0 <= -y by grind)
  rw [ab_of_nonneg hx, ab_of_nonpos hy, ab_of_nonpos (by grind)]
  grind
 ·have h1 := Rat.mul_nonneg (show 0 <= -x by grind) hy
  rw [ab_of_nonpos hx, ab_of_nonneg hy, ab_of_nonpos (by grind)]
  grind
 ·have h1 := Rat.mul_nonneg (show 0 <= -x by grind) (show 0 <= -y by grind)
  rw [ab_of_nonpos hx, ab_of_nonpos hy, ab_of_nonneg (by grind)]
  grind
theorem div_rounds {f : Format} (hgood : Good f) {a b : Nat} (ha : Fin f a) (hb : Fin f b) (hb0 : fval f b ≠ 0) (hbig : ab (fval f a) <= p2 (big f - 1) * ab (fval f b)) :
  ∃ r, f.div a b = some r /\ Rounds f (fval f a / fval f b) r := by
 obtain ⟨s, m, i, ea⟩ := ha
 obtain ⟨t, n, j, eb⟩ := hb
 unfold fval at hb0 hbig ⊢
 rw [ea] at hbig ⊢
 rw [eb] at hb0 hbig ⊢
 rw [dval_ab, dval_ab] at hbig
 have hn : n ≠ 0 := by
  rintro rfl
  simp [dval] at hb0
 have hnr : (0 : Rat) < n := by have := Nat.pos_of_ne_zero hn; exact_mod_cast this
 have hnj := Rat.mul_pos hnr (p2_pos j)
 have hst : dval (.number s m i) / dval (.number t n j) = sgn (s ^^ t) * ((m : Rat) * p2 i / (n * p2 j)) := by
  have hne : (n : Rat) * p2 j ≠ 0 := by grind
  simp only [dval]
  generalize p2 i = I at *
  generalize p2 j = J at *
  cases s <;> cases t <;> simp [sgn] <;> grind
 by_cases hm : m = 0
 ·subst hm
  have hq : f.div a b = some (f.write (.number (s ^^ t) (2 * ((0 <<< (f.fractionBits + 2 + n.log2 - (0 : Nat).log2)) / n) + ((0 <<< (f.fractionBits + 2 + n.log2 - (0 : Nat).log2)) % n != 0).toNat) (i - j - (f.fractionBits + 2 + n.log2 - (0 : Nat).log2 : Nat) - 1))) := by
   unfold Format.div
   rw [ea, eb]
   simp only [Datum.quotient, if_neg hn]
   rfl
  refine ⟨_, hq, ?_⟩
  have e0 : (2 * ((0 <<< (f.fractionBits + 2 + n.log2 - (0 : Nat).log2)) / n) + ((0 <<< (f.fractionBits + 2 + n.log2 - (0 : Nat).log2)) % n != 0).toNat) = 0 := by simp [Nat.shiftLeft_eq]
  rw [e0]
  have hx : dval (.number s 0 i) / dval (.number t n j) = dval (.number (s ^^ t) 0 (i - j - (f.fractionBits + 2 + n.log2 - (0 : Nat).log2 : Nat) - 1)) := by
   simp [dval, Rat.div_def]
  rw [hx]
  exact write_rounds hgood _ _ _ (by simpa using Rat.le_of_lt (p2_pos _))
 ·have hbig' : (m : Rat) * p2 i / (n * p2 j) <= p2 (big f - 1) := by
   rw [Rat.div_def]
   have h1 := Rat.mul_le_mul_of_nonneg_right hbig (Rat.le_of_lt (Rat.inv_pos.2 hnj))
   have h2 : (n * p2 j : Rat) * (n * p2 j)⁻¹ = 1 := Rat.mul_inv_cancel _ (by grind)
   rw [Rat.mul_assoc (p2 (big f - 1)), h2, Rat.mul_one] at h1
   exact h1
  obtain ⟨h1, h2⟩ := div_mag m n i j hn hm hbig'
  refine ⟨f.write (.number (s ^^ t) (2 * ((m <<< (f.fractionBits + 2 + n.log2 - m.log2)) / n) + ((m <<< (f.fractionBits + 2 + n.log2 - m.log2)) % n != 0).toNat) (i - j - (f.fractionBits + 2 + n.log2 - m.log2 : Nat) - 1)), ?_, ?_⟩
  ·unfold Format.div
   rw [ea, eb]
   simp only [Datum.quotient, if_neg hn]
   rfl
  ·rw [hst]
   have hpos := write_rounds hgood false _ _ h1
   have hx := h2 _ (by simpa [dval, sgn] using hpos)
   cases hc : (s ^^ t)
   ·simpa [sgn] using hx
   ·obtain ⟨f1, f2⟩ := write_neg hgood _ _ h1
    have := hx.neg_ f1 f2
    have e : sgn true * ((m : Rat) * p2 i / (n * p2 j)) = -((m : Rat) * p2 i / (n * p2 j)) := by simp [sgn]; grind
    rw [e]
    exact this
end Flt
end Go.Proofs.Ytmgcbodlolnheaa
namespace Go.Proofs.Ytmgcbodlolnheaa
namespace Flt
open Ieee
theorem order_val {f : Format} {a b : Nat} (ha : Fin f a) (hb : Fin f b) :
  f.order a b = some (if fval f a < fval f b then .lt else if fval f a = fval f b then .eq else .gt) := by
 obtain ⟨s, m, i, ea⟩ := ha
 obtain ⟨t, n, j, eb⟩ := hb
 unfold Format.order fval
 rw [ea, eb]
 have h1 := signed_val s m (i - min i j).toNat
 have h2 := signed_val t n (j - min i j).toNat
 have e1 : p2 i = p2 ((i - min i j).toNat : Int) * p2 (min i j) := by rw [<- p2_add]; congr 1; omega
 have e2 : p2 j = p2 ((j - min i j).toNat : Int) * p2 (min i j) := by rw [<- p2_add]; congr 1; omega
 have hp := p2_pos (min i j)
 have v1 : dval (.number s m i) = (signed s m (i - min i j).toNat : Int) * p2 (min i j) := by rw [h1]; simp only [dval]; rw [e1]; grind
 have v2 : dval (.number t n j) = (signed t n (j - min i j).toNat : Int) * p2 (min i j) := by rw [h2]; simp only [dval]; rw [e2]; grind
 rw [v1, v2]
 simp only [Datum.order]
 generalize signed s m (i - min i j).toNat = X
 generalize signed t n (j - min i j).toNat = Y
 congr 1
 have l1 : ((X : Rat) * p2 (min i j) < Y * p2 (min i j)) ↔ X < Y := by
  rw [Rat.mul_lt_mul_right hp]
  exact_mod_cast Iff.rfl
 have l2 : ((X : Rat) * p2 (min i j) = Y * p2 (min i j)) ↔ X = Y := by
  constructor
  ·intro h
   have ha := int_le_of_cast_mul hp (show (X : Rat) * p2 (min i j) <= Y * p2 (min i j) by grind)
   have hb := int_le_of_cast_mul hp (show (Y : Rat) * p2 (min i j) <= X * p2 (min i j) by grind)
   omega
  ·rintro rfl; rfl
 simp only [l1, l2]
 exact rfl
theorem int_rounds {f : Format} (hgood : Good f) (n : Int) (hbig : ab (n : Rat) <= p2 (big f)) : Rounds f (n : Rat) (f.write (.number (decide (n < 0)) n.natAbs 0)) := by
 have hv : dval (.number (decide (n < 0)) n.natAbs 0) = (n : Rat) := by
  simp only [dval, p2_zero, Rat.mul_one]
  by_cases hn : n < 0
  ·have e3 : ((n.natAbs : Int) : Rat) = ((-n : Int) : Rat) := by congr 1; omega
   rw [Rat.intCast_natCast] at e3
   rw [e3]
   simp [sgn, hn]
   grind
  ·have e3 : ((n.natAbs : Int) : Rat) = ((n : Int) : Rat) := by congr 1; omega
   rw [Rat.intCast_natCast] at e3
   rw [e3]
   simp [sgn, hn]
 have := write_rounds' hgood (decide (n < 0)) n.natAbs 0 (by rw [hv]; exact hbig)
 rwa [hv] at this
def truncR (x : Rat) : Int := if 0 <= x then x.floor else -(-x).floor
theorem shift_floor (m : Nat) (e : Int) : (((m <<< e.toNat) / 2 ^ (-e).toNat : Nat) : Int) = ((m : Rat) * p2 e).floor := by
 rw [Nat.shiftLeft_eq]
 have key : (m : Rat) * p2 e * ((2 ^ (-e).toNat : Nat) : Rat) = ((m * 2 ^ e.toNat : Nat) : Rat) := by
  rcases Int.le_total 0 e with h | h
  ·have e1 : (-e).toNat = 0 := by omega
   have e2 : p2 e = ((2 ^ e.toNat : Nat) : Rat) := by rw [<- p2_nat]; congr 1; omega
   rw [e1, e2]
   push_cast
   grind
  ·have e1 : e.toNat = 0 := by omega
   have e2 : p2 e * ((2 ^ (-e).toNat : Nat) : Rat) = 1 := by
    rw [<- p2_nat, <- p2_add, show e + ((-e).toNat : Int) = 0 by omega, p2_zero]
   rw [e1, Rat.mul_assoc, e2]
   simp
 have hg : (0 : Rat) < ((2 ^ (-e).toNat : Nat) : Rat) := by have := Nat.two_pow_pos (-e).toNat; exact_mod_cast this
 have hgn : 0 < 2 ^ (-e).toNat := Nat.two_pow_pos _
 generalize 2 ^ (-e).toNat = g at *
 generalize m * 2 ^ e.toNat = M at *
 generalize (m : Rat) * p2 e = X at *
 have h1 := Nat.div_add_mod M g
 have h2 := Nat.mod_lt M hgn
 generalize M / g = q at *
 generalize M % g = r at *
 symm
 have hr0 : (0 : Rat) <= r := Rat.natCast_nonneg
 have hr1 : (r : Rat) < g := by exact_mod_cast h2
 have hM : (M : Rat) = g * q + r := by rw [<- h1]; push_cast; rfl
 have l1 : (q : Rat) <= X := by
  refine Rat.le_of_mul_le_mul_right (c := g) ?_ hg
  grind
 have l2 : X < q + 1 := by
  refine Rat.lt_of_mul_lt_mul_right (c := (g : Rat)) ?_ (Rat.le_of_lt hg)
  grind
 have a1 : (q : Int) <= X.floor := by
  rw [Rat.le_floor_iff]
  rw [Rat.intCast_natCast]
  exact l1
 have a2 : X.floor < (q : Int) + 1 := by
  rw [Rat.floor_lt_iff]
  push_cast
  exact l2
 omega
theorem cut_parts (n drop : Nat) : n / (1 <<< min drop (n.log2 + 2)) = n / 2 ^ drop /\ (n % (1 <<< min drop (n.log2 + 2)) = 0 ↔ n % 2 ^ drop = 0) := by
 rw [Nat.shiftLeft_eq, Nat.one_mul]
 rcases Nat.le_total drop (n.log2 + 2) with h | h
 ·rw [Nat.min_eq_left h]
  exact ⟨rfl, Iff.rfl⟩
 ·rw [Nat.min_eq_right h]
  have hlt : n < 2 ^ (n.log2 + 1) := Nat.lt_log2_self
  have h1 : 2 ^ (n.log2 + 1) <= 2 ^ (n.log2 + 2) := Nat.pow_le_pow_right (by decide) (by omega)
  have h2 : 2 ^ (n.log2 + 2) <= 2 ^ drop := Nat.pow_le_pow_right (by decide) h
  rw [Nat.div_eq_of_lt (by omega), Nat.div_eq_of_lt (by omega), Nat.mod_eq_of_lt (by omega), Nat.mod_eq_of_lt (by omega)]
  exact ⟨rfl, Iff.rfl⟩
theorem shift_rest (m : Nat) (e : Int) : (m <<< e.toNat) % 2 ^ (-e).toNat = 0 ↔ (((m : Rat) * p2 e).floor : Rat) = (m : Rat) * p2 e := by
 rw [<- shift_floor, Nat.shiftLeft_eq]
 have key : (m : Rat) * p2 e * ((2 ^ (-e).toNat : Nat) : Rat) = ((m * 2 ^ e.toNat : Nat) : Rat) := by
  rcases Int.le_total 0 e with h | h
  ·have e1 : (-e).toNat = 0 := by omega
   have e2 : p2 e = ((2 ^ e.toNat : Nat) : Rat) := by rw [<- p2_nat]; congr 1; omega
   rw [e1, e2]
   push_cast
   grind
  ·have e1 : e.toNat = 0 := by omega
   have e2 : p2 e * ((2 ^ (-e).toNat : Nat) : Rat) = 1 := by
    rw [<- p2_nat, <- p2_add, show e + ((-e).toNat : Int) = 0 by omega, p2_zero]
   rw [e1, Rat.mul_assoc, e2]
   simp
 have hg : (0 : Rat) < ((2 ^ (-e).toNat : Nat) : Rat) := by have := Nat.two_pow_pos (-e).toNat; exact_mod_cast this
 generalize 2 ^ (-e).toNat = g at *
 generalize m * 2 ^ e.toNat = M at *
 generalize (m : Rat) * p2 e = X at *
 have h1 := Nat.div_add_mod M g
 rw [Rat.intCast_natCast]
 generalize M / g = q at *
 generalize M % g = r at *
 have hM : (M : Rat) = g * q + r := by rw [<- h1]; push_cast; rfl
 constructor
 ·rintro rfl
  have : (q : Rat) * g = X * g := by grind
  have h3 := Rat.le_of_mul_le_mul_right (a := (q : Rat)) (b := X) (c := g) (by grind) hg
  have h4 := Rat.le_of_mul_le_mul_right (a := X) (b := (q : Rat)) (c := g) (by grind) hg
  grind
 ·intro h
  have : (r : Rat) = 0 := by rw [<- h] at key; grind
  exact_mod_cast this
theorem floor_neg (x : Rat) : (-x).floor = -(x.floor + if (x.floor : Rat) = x then 0 else 1) := by
 have h1 := Rat.floor_le x
 have h2 := Rat.lt_floor_add_one x
 by_cases hx : (x.floor : Rat) = x
 ·rw [if_pos hx]
  have : -x = ((-x.floor : Int) : Rat) := by push_cast; grind
  rw [this, Rat.floor_intCast]
  omega
 ·rw [if_neg hx]
  have a1 : -(x.floor + 1) <= (-x).floor := by
   rw [Rat.le_floor_iff]
   push_cast at h2 ⊢
   grind
  have a2 : (-x).floor < -(x.floor + 1) + 1 := by
   rw [Rat.floor_lt_iff]
   push_cast
   grind
  omega
def cutR (way : Toward) (x : Rat) : Int :=
 match way with
 | .down => x.floor
 | .up => -(-x).floor
 | _ => truncR x
theorem integral_val {way : Toward} (hway : way ≠ .even) (s : Bool) (m : Nat) (e : Int) :
  ∃ k : Nat, (Datum.number s m e).integral way = .number s k 0 /\ signed s k 0 = cutR way (dval (.number s m e)) := by
 refine ⟨_, rfl, ?_⟩
 obtain ⟨c1, c2⟩ := cut_parts (m <<< e.toNat) (-e).toNat
 have h1 := shift_floor m e
 have h2 := shift_rest m e
 have hX : 0 <= (m : Rat) * p2 e := Rat.mul_nonneg Rat.natCast_nonneg (Rat.le_of_lt (p2_pos _))
 have hF : 0 <= ((m : Rat) * p2 e).floor := by rw [Rat.le_floor_iff]; simpa using hX
 have h3 := floor_neg ((m : Rat) * p2 e)
 have h4 : dval (.number s m e) = sgn s * ((m : Rat) * p2 e) := by simp only [dval]; grind
 rw [h4]
 unfold Toward.cut
 simp only
 rw [c1]
 generalize hr : (m <<< e.toNat) % (1 <<< min (-e).toNat ((m <<< e.toNat).log2 + 2)) = R at *
 generalize (m <<< e.toNat) % 2 ^ (-e).toNat = R2 at *
 generalize (m <<< e.toNat) / 2 ^ (-e).toNat = q at *
 generalize (m : Rat) * p2 e = X at *
 have hsg : ∀ k : Nat, signed true k 0 = -(k : Int) /\ signed false k 0 = (k : Int) := fun k => by simp [signed, Nat.shiftLeft_eq]
 have e1 : sgn true * X = -X := by simp [sgn]; grind
 have e2 : sgn false * X = X := by simp [sgn]
 have hR : (R != 0) = true ↔ ¬ ((X.floor : Rat) = X) := by
  rw [bne_iff_ne]
  constructor
  ·intro h h'
   exact h (c2.2 (h2.2 h'))
  ·intro h h'
   exact h (h2.1 (c2.1 h'))
 have hz : X = 0 -> X.floor = 0 := by
  rintro rfl
  exact Rat.floor_intCast 0
 cases way with
 | even => exact absurd rfl hway
 | zero =>
  cases s
  ·rw [(hsg _).2, e2]
   simp only [cutR, truncR, if_pos hX, Bool.toNat_false]
   omega
  ·rw [(hsg _).1, e1]
   simp only [cutR, truncR, Bool.toNat_false]
   by_cases hx0 : 0 <= -X
   ·rw [if_pos hx0]
    have : X = 0 := by grind
    have h5 := hz this
    have h6 : (-X).floor = 0 := by rw [this]; exact Rat.floor_intCast 0
    omega
   ·rw [if_neg hx0, Rat.neg_neg]
    omega
 | down =>
  cases s
  ·rw [(hsg _).2, e2]
   simp only [cutR, Bool.false_and, Bool.toNat_false]
   omega
  ·rw [(hsg _).1, e1]
   simp only [cutR, Bool.true_and]
   rw [h3]
   by_cases hx : (X.floor : Rat) = X
   ·rw [if_pos hx]
    have : (R != 0) = false := by
     rw [Bool.eq_false_iff]
     exact fun h => (hR.1 h) hx
    rw [this]
    simp only [Bool.toNat_false]
    omega
   ·rw [if_neg hx, hR.2 hx]
    simp only [Bool.toNat_true]
    omega
 | up =>
  cases s
  ·rw [(hsg _).2, e2]
   simp only [cutR, Bool.not_false, Bool.true_and]
   rw [h3]
   by_cases hx : (X.floor : Rat) = X
   ·rw [if_pos hx]
    have : (R != 0) = false := by
     rw [Bool.eq_false_iff]
     exact fun h => (hR.1 h) hx
    rw [this]
    simp only [Bool.toNat_false]
    omega
   ·rw [if_neg hx, hR.2 hx]
    simp only [Bool.toNat_true]
    omega
  ·rw [(hsg _).1, e1]
   simp only [cutR, Bool.not_true, Bool.false_and, Bool.toNat_false]
   rw [Rat.neg_neg]
   omega
theorem toInt_val {f : Format} {a : Nat} (ha : Fin f a) {way : Toward} (hway : way ≠ .even) : (f.read a).toInt way = some (cutR way (fval f a)) := by
 obtain ⟨s, m, e, ea⟩ := ha
 obtain ⟨k, h1, h2⟩ := integral_val hway s m e
 unfold fval
 rw [ea]
 unfold Datum.toInt
 rw [h1]
 simp only
 rw [h2]
theorem integral_float {f : Format} (hgood : Good f) {a : Nat} (ha : Fin f a) {way : Toward} (hway : way ≠ .even) (hbig : ab (cutR way (fval f a) : Rat) <= p2 (big f)) :
  Rounds f (cutR way (fval f a) : Rat) (f.write ((f.read a).integral way)) := by
 obtain ⟨s, m, e, ea⟩ := ha
 obtain ⟨k, h1, h2⟩ := integral_val hway s m e
 unfold fval at hbig ⊢
 rw [ea] at hbig ⊢
 rw [h1]
 have hv : dval (.number s k 0) = (cutR way (dval (.number s m e)) : Rat) := by
  rw [<- h2, signed_val]
  simp [dval, p2_zero]
 have := write_rounds' hgood s k 0 (by rw [hv]; exact hbig)
 rwa [hv] at this
theorem read_bounds {f : Format} {w : Nat} {s : Bool} {m : Nat} {e : Int} (h : f.read w = .number s m e) : m <= 2 * f.binade /\ f.leastPlace <= e := by
 have hb := binade_pos f
 unfold Format.read at h
 simp only at h
 split at h
 ·injection h with h1 h2 h3
  omega
 ·split at h
  ·injection h with h1 h2 h3
   have := Nat.mod_lt (w % f.signWeight) hb
   omega
  ·split at h <;> cases h
theorem val_rep {f : Format} {a : Nat} (ha : Fin f a) : Rep f (fval f a) := by
 obtain ⟨s, m, e, ea⟩ := ha
 obtain ⟨h1, h2⟩ := read_bounds ea
 unfold fval
 rw [ea]
 cases s
 ·exact ⟨m, e, by simp [dval, sgn, Rat.intCast_natCast], by omega, by omega, h2⟩
 ·exact ⟨-m, e, by simp [dval, sgn, Rat.intCast_natCast]; grind, by omega, by omega, h2⟩
end Flt
end Go.Proofs.Ytmgcbodlolnheaa
namespace Go.Proofs.Ytmgcbodlolnheaa
open Go.ChangeShapes Go.WideShapes Go.ChangeAt Go.RowKit
section
variable (P : Program) (w : World) (a : Addr) (m : Mode)
@[go_sem] theorem run_store_float (k : FloatKind) (n : Nat) : (store a (.float k n) m).run P w = stored P w a (.float k n) m := run_store P w a _ m rfl
end
theorem hid {p : Prop} (h : p) : Hid p := h
def Blk (w : World) (g : Nat) (t : TypeId) (cs : Array Value) : Prop := w.heap[g]? = some (.cells cs t (0, 0))
section
variable {w w' : World} {g : Nat} {t : TypeId} {cs : Array Value}
theorem Blk.lt (h : Blk w g t cs) : g < w.heap.size := by
 rcases Nat.lt_or_ge g w.heap.size with hlt | hge
 ·exact hlt
 ·unfold Blk at h; rw [Array.getElem?_eq_none hge] at h; cases h
theorem Blk.cell (h : Blk w g t cs) (i : Nat) : w.cell? ⟨g, i, none⟩ = cs[i]? := by
 unfold Blk at h; simp [World.cell?, h]
theorem Blk.frozen (h : Blk w g t cs) (i : Nat) : w.frozen? ⟨g, i, none⟩ = false := by
 unfold Blk at h; simp [World.frozen?, h]
theorem Blk.new (w : World) (t : TypeId) (cs : Array Value) : Blk (w.alloc (.cells cs t)) w.heap.size t cs := heap_alloc_new w _
theorem Blk.drew (h : Blk w g t cs) : Blk w.drew g t cs := h
theorem Blk.alloc (h : Blk w g t cs) (o : Obj) : Blk (w.alloc o) g t cs := (Below.heap_alloc w o g h.lt).trans h
theorem Blk.set_ (h : Blk w g t cs) (i : Nat) (u : Value) : Blk (w.setCell ⟨g, i, none⟩ u) g t (cs.setIfInBounds i u) := by
 unfold Blk at h ⊢
 simp [World.setCell, Array.getElem?_modify, h]
theorem Blk.far (h : Blk w g t cs) {p : Addr} (hp : g ≠ p.block) (u : Value) : Blk (w.setCell p u) g t cs := (Below.heap_setCell w p u g hp).trans h
theorem Blk.eq_ {t' : TypeId} {cs' : Array Value} (h : Blk w g t cs) (h' : Blk w g t' cs') : t = t' /\ cs = cs' := by
 unfold Blk at h h'
 rw [h] at h'
 injection h' with h'
 injection h' with h1 h2
 exact ⟨h2, h1⟩
theorem Blk.ne_ {g' : Nat} {t' : TypeId} {cs' : Array Value} (h : Blk w g t cs) (h' : Blk w g' t' cs') (hne : t ≠ t') : g ≠ g' := by
 rintro rfl
 exact hne (h.eq_ h').1
end
structure Kept (S : Nat -> Prop) (w w' : World) : Prop where
 os : w'.os = w.os
 tape : w'.tape = w.tape
 output : w'.output = w.output
 size : w.heap.size <= w'.heap.size
 block : ∀ k, k < w.heap.size -> ¬ S k -> w'.heap[k]? = w.heap[k]?
section
variable {S T : Nat -> Prop} {a b c w w' : World}
theorem Kept.refl (S : Nat -> Prop) (w : World) : Kept S w w := ⟨rfl, rfl, rfl, Nat.le_refl _, fun _ _ _ => rfl⟩
theorem Kept.trans (h : Kept S a b) (k : Kept S b c) : Kept S a c :=
 ⟨k.os.trans h.os, k.tape.trans h.tape, k.output.trans h.output, Nat.le_trans h.size k.size,
  fun i hi hs => (k.block i (Nat.lt_of_lt_of_le hi h.size) hs).trans (h.block i hi hs)⟩
theorem Kept.mono (h : Kept S a b) (hm : ∀ k, k < a.heap.size -> S k -> T k) : Kept T a b :=
 ⟨h.os, h.tape, h.output, h.size, fun i hi hs => h.block i hi fun hS => hs (hm i hi hS)⟩
theorem Kept.drew (h : Kept S a w) : Kept S a w.drew := ⟨h.os, h.tape, h.output, h.size, h.block⟩
theorem Kept.drewN (h : Kept S a w) (n : Nat) : Kept S a (w.drewN n) := ⟨h.os, h.tape, h.output, h.size, h.block⟩
theorem Kept.alloc (h : Kept S a w) (o : Obj) : Kept S a (w.alloc o) :=
 ⟨h.os, h.tape, h.output, by have := h.size; simp; omega, fun i hi hs => (Below.heap_alloc _ _ _ (Nat.lt_of_lt_of_le hi h.size)).trans (h.block i hi hs)⟩
theorem Kept.setCell (h : Kept S a w) {p : Addr} (hp : a.heap.size <= p.block ∨ S p.block) (u : Value) : Kept S a (w.setCell p u) :=
 ⟨h.os, h.tape, h.output, by have := h.size; simp [World.setCell]; omega, fun i hi hs => by
  refine (Below.heap_setCell w p u i ?_).trans (h.block i hi hs)
  rintro rfl
  rcases hp with hp | hp
  ·omega
  ·exact hs hp⟩
theorem Kept.set_in (h : Kept S a w) {g i : Nat} {u : Value} (hp : S g) : Kept S a (w.setCell ⟨g, i, none⟩ u) := h.setCell (p := ⟨g, i, none⟩) (.inr hp) u
theorem Kept.set_new (h : Kept S a w) {g i : Nat} {u : Value} (hp : a.heap.size <= g) : Kept S a (w.setCell ⟨g, i, none⟩ u) := h.setCell (p := ⟨g, i, none⟩) (.inl hp) u
theorem Kept.grown {row : Option Nat} (h : Kept S a w) (hg : w.grownBy w' row) (hr : ∀ k, row = some k -> a.heap.size <= k ∨ S k) : Kept S a w' :=
 ⟨hg.os.trans h.os, hg.tape.trans h.tape, hg.output.trans h.output, Nat.le_trans h.size hg.size, fun i hi hs => by
  refine (hg.block i (Nat.lt_of_lt_of_le hi h.size) (fun e => ?_)).trans (h.block i hi hs)
  rcases hr i e.symm with h1 | h1
  ·omega
  ·exact hs h1⟩
theorem Kept.cell (h : Kept S w w') {p : Addr} (hp : p.block < w.heap.size) (hs : ¬ S p.block) : w'.cell? p = w.cell? p := World.cell?_of_block (w := w) (h.block p.block hp hs)
theorem Kept.blk {g : Nat} {t : TypeId} {cs : Array Value} (h : Kept S w w') (hb : Blk w g t cs) (hs : ¬ S g) : Blk w' g t cs := (h.block g hb.lt hs).trans hb
theorem Kept.below {B : Nat} (h : Kept S w w') (hB : B <= w.heap.size) (hs : ∀ k, k < B -> ¬ S k) : Below B w w' :=
 ⟨h.os, h.tape, h.output, h.size, fun k hk => h.block k (Nat.lt_of_lt_of_le hk hB) (hs k hk)⟩
end
abbrev Same (w w' : World) : Prop := Kept (fun _ => False) w w'
theorem Kept.of_same {S : Nat -> Prop} {w w' : World} (h : Same w w') : Kept S w w' := h.mono fun _ _ hf => hf.elim
theorem Kept.toBelow {w w' : World} (h : Same w w') : Below w.heap.size w w' := h.below (Nat.le_refl _) fun _ _ hf => hf
end Go.Proofs.Ytmgcbodlolnheaa
