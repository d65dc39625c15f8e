/-
  Coordinates in 64ths of a pixel as float32; lines between such points, and between near points, in the numbers of fixed point.
-/
import Derived.Test.YtmgcbodlolnheaaFixOk
namespace Go.Proofs.Ytmgcbodlolnheaa
open Flt

theorem c64 : F32 1115684864 ∧ V 1115684864 = 64 := by
  obtain ⟨h1, h2⟩ := read_V (a := 1115684864) (s := false) (m := 8388608) (e := -17) (by decide)
  refine ⟨h1, ?_⟩
  rw [h2]
  have := p2_neg 17
  simp only [sgn]
  push_cast at this ⊢
  grind
theorem p2_m6 : p2 (-6) = 1 / 64 := by
  have h := p2_neg 6
  have e : p2 (-6) = p2 (-((6 : Nat) : Int)) := rfl
  rw [e]
  push_cast at h
  grind
theorem ofInt_any {n : Int} (h1 : -16777216 ≤ n) (h2 : n ≤ 16777216) : F32 (floatOfInt .f32 n) ∧ V (floatOfInt .f32 n) = n := by
  have hr := ofInt_ok n (by
    refine big126 ?_
    have := ab_int_le (n := n) (b := 16777216) (by omega) (by omega)
    grind)
  exact ⟨hr.fin, hr.eq (n := n) (q := 0) (by rw [p2_zero, Rat.mul_one]) h2 h1 (by decide)⟩
/-- A float32 that is n 64ths. -/
def Q64 (a : Nat) (n : Int) : Prop := F32 a ∧ V a = (n : Rat) / 64
theorem quo64 {n : Int} (h1 : -16777216 ≤ n) (h2 : n ≤ 16777216) : Fok .quo (floatOfInt .f32 n) 1115684864 ∧ Q64 (fop .quo (floatOfInt .f32 n) 1115684864) n := by
  obtain ⟨a1, a2⟩ := ofInt_any h1 h2
  obtain ⟨c1, c2⟩ := c64
  obtain ⟨q1, q2⟩ := fquo_ok a1 c1 (by rw [c2]; decide) (by
    rw [a2, c2]
    have h3 := ab_int_le (n := n) (b := 16777216) (by omega) (by omega)
    have h4 : (1000000000000000000000000000000 : Rat) ≤ p2 125 := big125 Rat.le_refl
    have h5 : ab 64 = 64 := by decide
    rw [h5]
    grind)
  rw [a2, c2] at q2
  exact ⟨q1, q2.fin, q2.eq (n := n) (q := -6) (by rw [p2_m6]; grind) h2 h1 (by decide)⟩
theorem Q64.zero : Q64 0 0 := ⟨fzero.1, by rw [fzero.2]; grind⟩
theorem Q64.bd {a : Nat} {n : Int} (h : Q64 a n) {m : Nat} (h1 : n ≤ m) (h2 : -(m : Int) ≤ n) : ab (V a) ≤ (m : Rat) / 64 := by
  rw [h.2]
  have h3 := ab_int_le h1 h2
  have h4 := le_ab (n : Rat)
  have h5 := neg_le_ab (n : Rat)
  exact ab_le (by grind) (by grind)
theorem Q64.le_iff {a b : Nat} {m n : Int} (ha : Q64 a m) (hb : Q64 b n) : V a ≤ V b ↔ m ≤ n := by
  rw [ha.2, hb.2]
  constructor
  · intro h
    have : (m : Rat) ≤ n := by grind
    exact Rat.intCast_le_intCast.1 this
  · intro h
    have := Rat.intCast_le_intCast.2 h
    grind
theorem Q64.lt_iff {a b : Nat} {m n : Int} (ha : Q64 a m) (hb : Q64 b n) : V a < V b ↔ m < n := by
  have := hb.le_iff ha
  constructor
  · intro h
    rcases Int.lt_or_le m n with h1 | h1
    · exact h1
    · have := this.2 h1
      grind
  · intro h
    have h2 : ¬ V b ≤ V a := fun hc => by have := this.1 hc; omega
    grind
/-- Differences are exact. -/
theorem Q64.sub {a b : Nat} {m n : Int} (ha : Q64 a m) (hb : Q64 b n) (h1 : -16777216 ≤ m - n) (h2 : m - n ≤ 16777216) : Fok .sub a b ∧ Q64 (fop .sub a b) (m - n) := by
  have hv : V a - V b = ((m - n : Int) : Rat) / 64 := by rw [ha.2, hb.2]; push_cast; grind
  obtain ⟨q1, q2⟩ := fsub_ok ha.1 hb.1 (by
    rw [hv]
    refine big126 ?_
    have h3 := ab_int_le (n := m - n) (b := 16777216) (by omega) (by omega)
    have h4 := le_ab ((m - n : Int) : Rat)
    have h5 := neg_le_ab ((m - n : Int) : Rat)
    exact ab_le (by grind) (by grind))
  rw [hv] at q2
  exact ⟨q1, q2.fin, by
    have := q2.eq (n := m - n) (q := -6) (by rw [p2_m6]; grind) h2 h1 (by decide)
    exact this⟩

/-- A line between points in 64ths, at most 4096 pixels from the beginning. -/
theorem fixUp_sixty {s : Bool} {H : Int} {ax ay bx qy : Nat} {m1 m2 m3 m4 : Int} (h1 : Q64 ax m1) (h2 : Q64 ay m2) (h3 : Q64 bx m3) (h4 : Q64 qy m4)
    (b1 : -262144 ≤ m1 ∧ m1 ≤ 262144) (b2 : -262144 ≤ m2 ∧ m2 ≤ 262144) (b3 : -262144 ≤ m3 ∧ m3 ≤ 262144) (b4 : -262144 ≤ m4 ∧ m4 ≤ 262144) (hle : m2 ≤ m4) : FixUpOk s H ax ay bx qy := by
  have hbd : ∀ {a : Nat} {m : Int}, Q64 a m → (-262144 ≤ m ∧ m ≤ 262144) → ab (V a) ≤ 4096 := by
    intro a m h hb
    have := h.bd (m := 262144) (by omega) (by omega)
    push_cast at this
    grind
  have c1 := hbd h1 b1; have c2 := hbd h2 b2; have c3 := hbd h3 b3; have c4 := hbd h4 b4
  refine fixUp_ok h1.1 h2.1 h3.1 h4.1 c1 c2 c3 c4 ((h2.le_iff h4).2 hle) fun hlt => ?_
  obtain ⟨d1, d2⟩ := h4.sub h2 (by omega) (by omega)
  have hv := d2.2
  have ht := cTiny.2.1
  have hpos : 0 < m4 - m2 := by
    rcases Int.lt_or_le 0 (m4 - m2) with h | h
    · exact h
    · have : ((m4 - m2 : Int) : Rat) ≤ 0 := by exact_mod_cast h
      grind
  have hge : (1 : Rat) ≤ ((m4 - m2 : Int) : Rat) := by exact_mod_cast (by omega : (1 : Int) ≤ m4 - m2)
  have hX : ab (V bx - V ax) ≤ 8192 := by
    have a1 := le_ab (V ax); have a2 := neg_le_ab (V ax)
    have a5 := le_ab (V bx); have a6 := neg_le_ab (V bx)
    exact ab_le (by grind) (by grind)
  have hX0 := ab_nonneg (V bx - V ax)
  rw [hv]
  generalize ((m4 - m2 : Int) : Rat) = d at *
  generalize ab (V bx - V ax) = X at *
  have hm := Rat.mul_le_mul_of_nonneg_left hX (c := 512 * (d / 64) + 1) (by grind)
  grind
theorem fixOk_sixty {H : Int} {px py qx qy : Nat} {m1 m2 m3 m4 : Int} (h1 : Q64 px m1) (h2 : Q64 py m2) (h3 : Q64 qx m3) (h4 : Q64 qy m4)
    (b1 : -262144 ≤ m1 ∧ m1 ≤ 262144) (b2 : -262144 ≤ m2 ∧ m2 ≤ 262144) (b3 : -262144 ≤ m3 ∧ m3 ≤ 262144) (b4 : -262144 ≤ m4 ∧ m4 ≤ 262144) : FixOk H px py qx qy := by
  unfold FixOk
  have hg := fgt_iff h2.1 h4.1
  by_cases h : fgt py qy = true
  · rw [if_pos h]
    exact fixUp_sixty h3 h4 h1 h2 b3 b4 b1 b2 (by have := (h4.lt_iff h2).1 (hg.1 h); omega)
  · rw [if_neg h]
    refine fixUp_sixty h1 h2 h3 h4 b1 b2 b3 b4 ?_
    rcases Int.lt_or_le m4 m2 with hc | hc
    · exact absurd (hg.2 ((h4.lt_iff h2).2 hc)) h
    · exact hc
/-- A line between near points. -/
theorem fixOk_near {H : Int} {px py qx qy : Nat} (h1 : F32 px) (h2 : F32 py) (h3 : F32 qx) (h4 : F32 qy) (b1 : ab (V px) ≤ 65) (b2 : ab (V py) ≤ 65) (b3 : ab (V qx) ≤ 65) (b4 : ab (V qy) ≤ 65) : FixOk H px py qx qy := by
  have ht := cTiny.2.1
  have key : ∀ {δ X : Rat}, V 897988541 < δ → X ≤ 130 → 0 ≤ X → (512 * δ + 1) * X ≤ 140000000 * δ := by
    intro δ X hd hX h0
    have hm := Rat.mul_le_mul_of_nonneg_left hX (c := 512 * δ + 1) (by grind)
    grind
  have a1 := le_ab (V px); have a2 := neg_le_ab (V px)
  have a3 := le_ab (V qx); have a4 := neg_le_ab (V qx)
  unfold FixOk
  have hg := fgt_iff h2 h4
  by_cases h : fgt py qy = true
  · rw [if_pos h]
    refine fixUp_ok h3 h4 h1 h2 (by grind) (by grind) (by grind) (by grind) (by have := hg.1 h; grind) fun hlt => key hlt (ab_le (by grind) (by grind)) (ab_nonneg _)
  · rw [if_neg h]
    refine fixUp_ok h1 h2 h3 h4 (by grind) (by grind) (by grind) (by grind) ?_ fun hlt => key hlt (ab_le (by grind) (by grind)) (ab_nonneg _)
    have hn : ¬ V qy < V py := fun hc => h (hg.2 hc)
    grind
end Go.Proofs.Ytmgcbodlolnheaa
