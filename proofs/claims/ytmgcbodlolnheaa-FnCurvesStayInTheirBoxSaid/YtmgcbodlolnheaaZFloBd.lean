/-
  Lines in the floating kind go well: sizes of float32, loosely. No program is walked here.
-/
import Derived.Test.YtmgcbodlolnheaaZMoved
namespace Go.Proofs.Ytmgcbodlolnheaa
open Flt
set_option linter.unusedVariables false

/-- A finite float32 of size at most 2 ^ k. -/
structure Bd (a : Nat) (k : Int) : Prop where
  fin : F32 a
  hi : V a ≤ p2 k
  lo : -p2 k ≤ V a
section
variable {a b : Nat} {i j k m : Int}
theorem Bd.ab (h : Bd a k) : ab (V a) ≤ p2 k := ab_le h.hi (by have := h.lo; grind)
theorem Bd.of (h : F32 a) (hb : Flt.ab (V a) ≤ p2 k) : Bd a k := ⟨h, (ab_bounds hb).1, (ab_bounds hb).2⟩
theorem Bd.mono (h : Bd a k) (hk : k ≤ m) : Bd a m := by
  have := p2_mono hk
  exact ⟨h.fin, by have := h.hi; grind, by have := h.lo; grind⟩
theorem R32.bd {x : Rat} {r : Nat} (h : R32 x r) (hx : Flt.ab x ≤ p2 k) (hk : -149 ≤ k) : Bd r k := by
  obtain ⟨h1, h2⟩ := ab_bounds hx
  have e1 : ((1 : Int) : Rat) * p2 k = p2 k := by rw [show ((1 : Int) : Rat) = 1 from rfl, Rat.one_mul]
  have e2 : ((-1 : Int) : Rat) * p2 k = -p2 k := by rw [show ((-1 : Int) : Rat) = -1 from rfl]; grind
  have u := h.le (n := 1) (q := k) (by rw [e1]; exact h1) (by decide) (by decide) hk
  have l := h.ge (n := -1) (q := k) (by rw [e2]; exact h2) (by decide) (by decide) hk
  rw [e1] at u
  rw [e2] at l
  exact ⟨h.fin, u, l⟩
theorem Bd.mul (ha : Bd a i) (hb : Bd b j) (h1 : i + j ≤ 126 := by decide) (h2 : -149 ≤ i + j := by decide) : Fok .mul a b ∧ Bd (fop .mul a b) (i + j) := by
  have hx : Flt.ab (V a * V b) ≤ p2 (i + j) := by
    rw [ab_mul, p2_add]
    have h3 := Rat.mul_le_mul_of_nonneg_right ha.ab (ab_nonneg (V b))
    have h4 := Rat.mul_le_mul_of_nonneg_left hb.ab (Rat.le_of_lt (p2_pos i))
    grind
  obtain ⟨q1, q2⟩ := fmul_ok ha.fin hb.fin (Rat.le_trans hx (p2_mono h1))
  exact ⟨q1, q2.bd hx h2⟩
theorem Bd.add (ha : Bd a k) (hb : Bd b k) (h1 : k + 1 ≤ 126 := by decide) (h2 : -149 ≤ k + 1 := by decide) : Fok .add a b ∧ Bd (fop .add a b) (k + 1) := by
  have hx : Flt.ab (V a + V b) ≤ p2 (k + 1) := by
    rw [p2_succ]
    have := ha.hi; have := ha.lo; have := hb.hi; have := hb.lo
    exact ab_le (by grind) (by grind)
  obtain ⟨q1, q2⟩ := fadd_ok ha.fin hb.fin (Rat.le_trans hx (p2_mono h1))
  exact ⟨q1, q2.bd hx h2⟩
theorem Bd.sub (ha : Bd a k) (hb : Bd b k) (h1 : k + 1 ≤ 126 := by decide) (h2 : -149 ≤ k + 1 := by decide) : Fok .sub a b ∧ Bd (fop .sub a b) (k + 1) := by
  have hx : Flt.ab (V a - V b) ≤ p2 (k + 1) := by
    rw [p2_succ]
    have := ha.hi; have := ha.lo; have := hb.hi; have := hb.lo
    exact ab_le (by grind) (by grind)
  obtain ⟨q1, q2⟩ := fsub_ok ha.fin hb.fin (Rat.le_trans hx (p2_mono h1))
  exact ⟨q1, q2.bd hx h2⟩
end

/-- Adding a number that is 2 ^ 25 times smaller than a power of two never goes past the power. -/
theorem sat_up {e : Int} {x : Rat} {r : Nat} (h : R32 x r) (hx : x ≤ p2 e + p2 (e - 25)) (he : -100 ≤ e) : V r ≤ p2 e := by
  rcases Rat.le_total (a := x) (b := p2 e) with h1 | h1
  · have e1 : ((1 : Int) : Rat) * p2 e = p2 e := by rw [show ((1 : Int) : Rat) = 1 from rfl, Rat.one_mul]
    have := h.le (n := 1) (q := e) (by rw [e1]; exact h1) (by decide) (by decide) (by omega)
    rwa [e1] at this
  · obtain ⟨L, k, l1, l2, l3, l4, l5, l6⟩ := Rounds.err h
    rw [least_single] at l1 l4
    have hV : fval Ieee.single r = V r := rfl
    rw [hV] at l2 l5
    have hpe := p2_pos e
    have hb : ((Ieee.single.binade : Nat) : Rat) = p2 23 := by
      rw [binade_single]
      have : p2 ((23 : Nat) : Int) = ((2 ^ 23 : Nat) : Rat) := p2_nat 23
      rw [show p2 23 = p2 ((23 : Nat) : Int) from rfl, this]
    rw [hb, ab_of_nonneg (by grind)] at l4 l6
    have h24 : 2 * p2 23 * p2 L = p2 (L + 24) := by rw [← p2_succ, ← p2_add]; congr 1; omega
    have hL1 : e < L + 24 := by
      rcases Int.lt_or_le e (L + 24) with hc | hc
      · exact hc
      · have := p2_mono hc
        grind
    have hL2 : L ≤ e - 22 := by
      rcases l4 with hc | hc
      · omega
      · rw [← p2_add] at hc
        have h2 : p2 (e - 25) ≤ p2 e := p2_mono (by omega)
        have h3 : p2 (e + 1) = 2 * p2 e := p2_succ e
        have := le_of_p2 (a := 23 + L) (b := e + 1) (by grind)
        omega
    have hsm : 4 * p2 (e - 25) ≤ p2 L := by
      have h2 : p2 (e - 25) ≤ p2 (L - 2) := p2_mono (by omega)
      have h3 : p2 L = 2 * (2 * p2 (L - 2)) := by rw [← p2_succ, ← p2_succ]; congr 1; omega
      grind
    have hpL := p2_pos L
    have hsp : p2 e = ((2 ^ (e - L).toNat : Nat) : Rat) * p2 L := p2_split (by omega)
    rw [l5, hsp]
    have hlt : (k : Rat) * p2 L < (((2 ^ (e - L).toNat : Nat) : Rat) + 1) * p2 L := by rw [l5] at l2; grind
    have hk := Rat.lt_of_mul_lt_mul_right hlt (Rat.le_of_lt hpL)
    have hk2 : k < ((2 ^ (e - L).toNat : Nat) : Int) + 1 := by
      have e2 : (((2 ^ (e - L).toNat : Nat) : Rat) + 1) = ((((2 ^ (e - L).toNat : Nat) : Int) + 1 : Int) : Rat) := by push_cast; rfl
      rw [e2] at hk
      exact Rat.intCast_lt_intCast.1 hk
    have hk3 : k ≤ ((2 ^ (e - L).toNat : Nat) : Int) := by omega
    have hk4 : (k : Rat) ≤ ((2 ^ (e - L).toNat : Nat) : Rat) := by
      have := Rat.intCast_le_intCast.2 hk3
      rwa [Rat.intCast_natCast] at this
    exact Rat.mul_le_mul_of_nonneg_right hk4 (Rat.le_of_lt hpL)
theorem sat_dn {e : Int} {x : Rat} {r : Nat} (h : R32 x r) (hx : -(p2 e + p2 (e - 25)) ≤ x) (he : -100 ≤ e) : -p2 e ≤ V r := by
  rcases Rat.le_total (a := -p2 e) (b := x) with h1 | h1
  · have e1 : ((-1 : Int) : Rat) * p2 e = -p2 e := by rw [show ((-1 : Int) : Rat) = -1 from rfl]; grind
    have := h.ge (n := -1) (q := e) (by rw [e1]; exact h1) (by decide) (by decide) (by omega)
    rwa [e1] at this
  · obtain ⟨L, k, l1, l2, l3, l4, l5, l6⟩ := Rounds.err h
    rw [least_single] at l1 l4
    have hV : fval Ieee.single r = V r := rfl
    rw [hV] at l3 l5
    have hpe := p2_pos e
    have hb : ((Ieee.single.binade : Nat) : Rat) = p2 23 := by
      rw [binade_single]
      have : p2 ((23 : Nat) : Int) = ((2 ^ 23 : Nat) : Rat) := p2_nat 23
      rw [show p2 23 = p2 ((23 : Nat) : Int) from rfl, this]
    rw [hb, ab_of_nonpos (by grind)] at l4 l6
    have h24 : 2 * p2 23 * p2 L = p2 (L + 24) := by rw [← p2_succ, ← p2_add]; congr 1; omega
    have hL1 : e < L + 24 := by
      rcases Int.lt_or_le e (L + 24) with hc | hc
      · exact hc
      · have := p2_mono hc
        grind
    have hL2 : L ≤ e - 22 := by
      rcases l4 with hc | hc
      · omega
      · rw [← p2_add] at hc
        have h2 : p2 (e - 25) ≤ p2 e := p2_mono (by omega)
        have h3 : p2 (e + 1) = 2 * p2 e := p2_succ e
        have := le_of_p2 (a := 23 + L) (b := e + 1) (by grind)
        omega
    have hsm : 4 * p2 (e - 25) ≤ p2 L := by
      have h2 : p2 (e - 25) ≤ p2 (L - 2) := p2_mono (by omega)
      have h3 : p2 L = 2 * (2 * p2 (L - 2)) := by rw [← p2_succ, ← p2_succ]; congr 1; omega
      grind
    have hpL := p2_pos L
    have hsp : p2 e = ((2 ^ (e - L).toNat : Nat) : Rat) * p2 L := p2_split (by omega)
    rw [l5, hsp]
    have hlt : (-(((2 ^ (e - L).toNat : Nat) : Rat) + 1)) * p2 L < (k : Rat) * p2 L := by rw [l5] at l3; grind
    have hk := Rat.lt_of_mul_lt_mul_right hlt (Rat.le_of_lt hpL)
    have hk2 : -(((2 ^ (e - L).toNat : Nat) : Int) + 1) < k := by
      have e2 : (-(((2 ^ (e - L).toNat : Nat) : Rat) + 1)) = ((-(((2 ^ (e - L).toNat : Nat) : Int) + 1) : Int) : Rat) := by push_cast; rfl
      rw [e2] at hk
      exact Rat.intCast_lt_intCast.1 hk
    have hk3 : -((2 ^ (e - L).toNat : Nat) : Int) ≤ k := by omega
    have hk4 : -((2 ^ (e - L).toNat : Nat) : Rat) ≤ (k : Rat) := by
      have := Rat.intCast_le_intCast.2 hk3
      rw [Rat.intCast_neg, Rat.intCast_natCast] at this
      exact this
    have := Rat.mul_le_mul_of_nonneg_right hk4 (Rat.le_of_lt hpL)
    grind
theorem Bd.sat {a v : Nat} {e : Int} (ha : Bd a e) (hv : Bd v (e - 25)) (he : -100 ≤ e) (he2 : e ≤ 125) : Fok .add a v ∧ Bd (fop .add a v) e := by
  have hp : p2 (e - 25) ≤ p2 e := p2_mono (by omega)
  have hp2 : p2 (e + 1) = 2 * p2 e := p2_succ e
  have := ha.hi; have := ha.lo; have := hv.hi; have := hv.lo
  obtain ⟨q1, q2⟩ := fadd_ok ha.fin hv.fin (Rat.le_trans (ab_le (y := p2 (e + 1)) (by grind) (by grind)) (p2_mono (by omega)))
  exact ⟨q1, q2.fin, sat_up q2 (by grind) he, sat_dn q2 (by grind) he⟩

/-! ### grids -/
def Grid (q : Int) (x : Rat) : Prop := ∃ n : Int, x = n * p2 q
theorem Grid.up {q q' : Int} {x : Rat} (h : Grid q x) (hq : q' ≤ q) : Grid q' x := by
  obtain ⟨n, rfl⟩ := h
  exact ⟨n * (2 ^ (q - q').toNat : Nat), by rw [p2_split hq]; push_cast; grind⟩
theorem Grid.add {q : Int} {x y : Rat} (hx : Grid q x) (hy : Grid q y) : Grid q (x + y) := by
  obtain ⟨m, rfl⟩ := hx
  obtain ⟨n, rfl⟩ := hy
  exact ⟨m + n, by push_cast; grind⟩
theorem Grid.sub {q : Int} {x y : Rat} (hx : Grid q x) (hy : Grid q y) : Grid q (x - y) := by
  obtain ⟨m, rfl⟩ := hx
  obtain ⟨n, rfl⟩ := hy
  exact ⟨m - n, by push_cast; grind⟩
theorem Grid.mul {p q : Int} {x y : Rat} (hx : Grid p x) (hy : Grid q y) : Grid (p + q) (x * y) := by
  obtain ⟨m, rfl⟩ := hx
  obtain ⟨n, rfl⟩ := hy
  exact ⟨m * n, by rw [p2_add]; push_cast; grind⟩
theorem Grid.round {q : Int} {x : Rat} {r : Nat} (h : Grid q x) (hr : R32 x r) (hq : -149 ≤ q) : Grid q (V r) := by
  obtain ⟨L, k, l1, l2, l3, l4, l5, l6⟩ := Rounds.err hr
  have hV : fval Ieee.single r = V r := rfl
  rw [hV] at l5
  rcases Int.lt_or_le L q with hL | hL
  · obtain ⟨n, rfl⟩ := h
    have hpq := p2_pos q
    have hlt : p2 L ≤ p2 q := p2_mono (by omega)
    rw [binade_single] at l6
    have hb : Flt.ab (n : Rat) < 16777216 := by
      rw [ab_mul, ab_of_nonneg (Rat.le_of_lt hpq)] at l6
      refine Rat.lt_of_mul_lt_mul_right (c := p2 q) ?_ (Rat.le_of_lt hpq)
      push_cast at l6
      grind
    have b1 := le_ab (n : Rat)
    have b2 := neg_le_ab (n : Rat)
    have n1 : (n : Rat) < ((16777216 : Int) : Rat) := by push_cast; grind
    have n2 : ((-16777216 : Int) : Rat) < n := by push_cast; grind
    have n3 := Rat.intCast_lt_intCast.1 n1
    have n4 := Rat.intCast_lt_intCast.1 n2
    exact ⟨n, hr.eq rfl (by omega) (by omega) hq⟩
  · rw [l5]
    exact Grid.up ⟨k, rfl⟩ hL
theorem Grid.pos {q : Int} {x : Rat} (h : Grid q x) (hx : 0 < x) : p2 q ≤ x := by
  obtain ⟨n, rfl⟩ := h
  have hq := p2_pos q
  have hn : 0 < n := by
    rcases Int.lt_or_le 0 n with hc | hc
    · exact hc
    · have h2 : (n : Rat) ≤ 0 := by exact_mod_cast hc
      have := Rat.mul_le_mul_of_nonneg_right h2 (Rat.le_of_lt hq)
      grind
  have h1 : (1 : Rat) ≤ n := by exact_mod_cast (by omega : (1 : Int) ≤ n)
  have := Rat.mul_le_mul_of_nonneg_right h1 (Rat.le_of_lt hq)
  grind
theorem Grid.int (n : Int) : Grid 0 (n : Rat) := ⟨n, by rw [p2_zero, Rat.mul_one]⟩
theorem Q64.grid {a : Nat} {n : Int} (h : Q64 a n) : Grid (-6) (V a) := ⟨n, by rw [h.2, p2_m6]; grind⟩
end Go.Proofs.Ytmgcbodlolnheaa
