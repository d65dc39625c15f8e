/-
  A row of a line in the floating kind goes well. No program is walked here.
-/
import Derived.Test.YtmgcbodlolnheaaZFloBd
namespace Go.Proofs.Ytmgcbodlolnheaa
open Flt
set_option linter.unusedVariables false

theorem p2_15 : p2 15 = 32768 := by
  have : p2 ((15 : Nat) : Int) = ((2 ^ 15 : Nat) : Rat) := p2_nat 15
  simpa using this
theorem fone : Bd 1065353216 0 ∧ V 1065353216 = 1 := by
  obtain ⟨h1, h2⟩ := read_V (a := 1065353216) (s := false) (m := 8388608) (e := -23) (by decide)
  have hv : V 1065353216 = 1 := by
    rw [h2]
    have := p2_neg 23
    simp only [sgn]
    push_cast at this ⊢
    grind
  exact ⟨⟨h1, by rw [hv, p2_zero]; exact Rat.le_refl, by rw [hv, p2_zero]; grind⟩, hv⟩
theorem fhalf : Bd 1056964608 0 ∧ V 1056964608 = 1 / 2 := by
  obtain ⟨h1, h2⟩ := read_V (a := 1056964608) (s := false) (m := 8388608) (e := -24) (by decide)
  have hv : V 1056964608 = 1 / 2 := by
    rw [h2]
    have := p2_neg 24
    simp only [sgn]
    push_cast at this ⊢
    grind
  exact ⟨⟨h1, by rw [hv, p2_zero]; grind, by rw [hv, p2_zero]; grind⟩, hv⟩
theorem fmone : Bd 3212836864 0 ∧ V 3212836864 = -1 := by
  obtain ⟨h1, h2⟩ := read_V (a := 3212836864) (s := true) (m := 8388608) (e := -23) (by decide)
  have hv : V 3212836864 = -1 := by
    rw [h2]
    have := p2_neg 23
    simp only [sgn]
    push_cast at this ⊢
    grind
  exact ⟨⟨h1, by rw [hv, p2_zero]; grind, by rw [hv, p2_zero]; grind⟩, hv⟩
theorem f15 : Bd 1069547520 1 ∧ V 1069547520 = 3 / 2 := by
  obtain ⟨h1, h2⟩ := read_V (a := 1069547520) (s := false) (m := 12582912) (e := -23) (by decide)
  have hv : V 1069547520 = 3 / 2 := by
    rw [h2]
    have := p2_neg 23
    simp only [sgn]
    push_cast at this ⊢
    grind
  exact ⟨⟨h1, by rw [hv, p2_one]; grind, by rw [hv, p2_one]; grind⟩, hv⟩
theorem ofInt_bd {n : Int} {k : Nat} (hk : k ≤ 24) (h1 : -(2 ^ k : Nat) ≤ n) (h2 : n ≤ (2 ^ k : Nat)) : Bd (floatOfInt .f32 n) k ∧ V (floatOfInt .f32 n) = n := by
  have hp : (2 ^ k : Nat) ≤ 16777216 := Nat.pow_le_pow_right (n := 2) (by decide) hk
  obtain ⟨a1, a2⟩ := ofInt_any (n := n) (by omega) (by omega)
  refine ⟨Bd.of a1 ?_, a2⟩
  rw [a2, p2_nat]
  exact ab_int_le h2 h1

theorem flo_fhi {x xn : Nat} (hx : F32 x) (hn : F32 xn) : (flo x xn = x ∧ fhi x xn = xn ∧ V x ≤ V xn) ∨ (flo x xn = xn ∧ fhi x xn = x ∧ V xn ≤ V x) := by
  unfold flo fhi
  have h := fgt_iff hx hn
  by_cases hg : fgt x xn = true
  · rw [if_pos hg, if_pos hg]
    have := h.1 hg
    exact .inr ⟨rfl, rfl, by grind⟩
  · rw [if_neg hg, if_neg hg]
    have : ¬ V xn < V x := fun hc => hg (h.2 hc)
    exact .inl ⟨rfl, rfl, by grind⟩
theorem floor_bd {x : Rat} (h1 : -32768 ≤ x) (h2 : x ≤ 32768) : -32768 ≤ x.floor ∧ x.floor ≤ 32768 := by
  constructor
  · rw [Rat.le_floor_iff]
    push_cast
    exact h1
  · have h3 := Rat.floor_le x
    have h4 : (x.floor : Rat) ≤ ((32768 : Int) : Rat) := by push_cast; grind
    exact Rat.intCast_le_intCast.1 h4
theorem ceil_bd {x : Rat} (h1 : -32768 ≤ x) (h2 : x ≤ 32768) : -32768 ≤ ceilR x ∧ ceilR x ≤ 32768 := by
  have := floor_bd (x := -x) (by grind) (by grind)
  unfold ceilR
  omega
theorem ceil_near (x : Rat) : x ≤ ceilR x ∧ (ceilR x : Rat) < x + 1 := by
  have h1 := Rat.floor_le (-x)
  have h2 := Rat.lt_floor_add_one (-x)
  unfold ceilR
  push_cast at h2 ⊢
  constructor <;> grind
theorem floor_near (x : Rat) : (x.floor : Rat) ≤ x ∧ x < x.floor + 1 := by
  have h1 := Rat.floor_le x
  have h2 := Rat.lt_floor_add_one x
  push_cast at h2
  exact ⟨h1, h2⟩

theorem int15 {n : Int} (h1 : -32768 ≤ n) (h2 : n ≤ 32768) : Bd (floatOfInt .f32 n) 15 ∧ V (floatOfInt .f32 n) = n := ofInt_bd (k := 15) (by decide) (by omega) (by omega)
theorem mem_ffill {base W : Nat} {x0 : Int} {v : Nat} {p : Nat × Nat} : ∀ {j : Nat}, p ∈ ffill base W x0 v j → p.2 = v
  | 0, h => by simp [ffill] at h
  | j + 1, h => by
    rw [ffill, List.mem_append] at h
    rcases h with h | h
    · exact mem_ffill h
    · simp only [List.mem_singleton] at h
      rw [h]
end Go.Proofs.Ytmgcbodlolnheaa
