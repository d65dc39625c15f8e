/-
  Closed paths in the floating kind: edges and masks go well. No program is walked here.
-/
import Derived.Test.YtmgcbodlolnheaaZFloOk
namespace Go.Proofs.Ytmgcbodlolnheaa
open Flt
set_option linter.unusedVariables false

/-- Every cell is a number, not too great. -/
def CellsBd (l : List Nat) : Prop := ∀ a ∈ l, Bd a 100
theorem bd_zero (k : Int) : Bd 0 k := by
  have := p2_pos k
  exact ⟨fzero.1, by rw [fzero.2]; grind, by rw [fzero.2]; grind⟩
theorem CellsBd.zero (n : Nat) : CellsBd (List.replicate n 0) := by
  intro a ha
  rw [List.mem_replicate] at ha
  rw [ha.2]
  exact bd_zero _
theorem CellsBd.at {l : List Nat} (h : CellsBd l) (k : Nat) : Bd (fAt l k) 100 := by
  unfold fAt
  by_cases hk : k < l.length
  · have : l.getD k 0 = l[k] := by simp [List.getD, hk]
    rw [this]
    exact h _ (List.getElem_mem hk)
  · have : l.getD k 0 = 0 := by simp [List.getD, hk]
    rw [this]
    exact bd_zero _
theorem CellsBd.bump {l : List Nat} (h : CellsBd l) {k v : Nat} (hv : Bd v 68) : CellsBd (fbump l k v) := by
  intro a ha
  unfold fbump at ha
  rw [List.mem_iff_getElem] at ha
  obtain ⟨i, hi, rfl⟩ := ha
  rw [List.getElem_modify]
  have hi' : i < l.length := by simpa using hi
  have hm := h _ (List.getElem_mem hi')
  split
  · exact (Bd.sat hm (hv.mono (by decide)) (by decide) (by decide)).2
  · exact hm
theorem fadds_ok : ∀ (t : List (Nat × Nat)) (l : List Nat), CellsBd l → (∀ p ∈ t, Bd p.2 68) → FaddsOk t l ∧ CellsBd (fadds t l)
  | [], l, h, _ => ⟨trivial, h⟩
  | (k, v) :: t, l, h, hv => by
    have hv0 := hv (k, v) (by simp)
    obtain ⟨a, b⟩ := fadds_ok t (fbump l k v) (h.bump hv0) fun p hp => hv p (by simp [hp])
    exact ⟨⟨fun _ => (Bd.sat (h.at k) (hv0.mono (by decide)) (by decide) (by decide)).1, a⟩, b⟩
/-! ### the mask -/
theorem fneg_ok {a : Nat} (ha : F32 a) : F32 (fneg a) ∧ V (fneg a) = -V a := by
  obtain ⟨s, m, i, ea⟩ := ha
  have hr : Ieee.single.read (fneg a) = .number (!s) m i := by
    have e : fneg a = a ^^^ 2147483648 := rfl
    have hsw : Ieee.single.signWeight = 2147483648 := by decide
    have hmod : (a ^^^ 2147483648) % 2147483648 = a % 2147483648 := by
      have := Nat.xor_mod_two_pow (a := a) (b := 2147483648) (n := 31)
      simpa using this
    have hdiv : (a ^^^ 2147483648) / 2147483648 = (a / 2147483648) ^^^ 1 := by
      have := Nat.xor_div_two_pow (a := a) (b := 2147483648) (n := 31)
      simpa using this
    have hpar : ((a / 2147483648) ^^^ 1) % 2 = 1 - a / 2147483648 % 2 := by
      have := Nat.xor_mod_two_pow (a := a / 2147483648) (b := 1) (n := 1)
      simp only [Nat.pow_one] at this
      rw [this]
      rcases Nat.mod_two_eq_zero_or_one (a / 2147483648) with h | h <;> rw [h] <;> rfl
    rw [e]
    unfold Ieee.Format.read at ea ⊢
    rw [hsw] at ea ⊢
    simp only at ea ⊢
    rw [hmod, hdiv, hpar]
    have hs2 : (1 - a / 2147483648 % 2 == 1) = !(a / 2147483648 % 2 == 1) := by
      rcases Nat.mod_two_eq_zero_or_one (a / 2147483648) with h | h <;> rw [h] <;> rfl
    rw [hs2]
    split at ea
    · rename_i hc
      rw [if_pos hc]
      injection ea with h1 h2 h3
      rw [h1, h2, h3]
    · rename_i hc
      rw [if_neg hc]
      split at ea
      · rename_i hc2
        rw [if_pos hc2]
        injection ea with h1 h2 h3
        rw [h1, h2, h3]
      · split at ea <;> cases ea
  obtain ⟨f1, f2⟩ := read_V hr
  refine ⟨f1, ?_⟩
  rw [f2, (read_V ea).2]
  cases s <;> simp [sgn] <;> grind
theorem c255 : F32 1132462079 ∧ V 1132462079 = 16777215 * p2 (-16) := by
  obtain ⟨h1, h2⟩ := read_V (a := 1132462079) (s := false) (m := 16777215) (e := -16) (by decide)
  refine ⟨h1, ?_⟩
  rw [h2]
  simp only [sgn]
  push_cast
  grind
theorem p2_m16 : p2 (-16) = 1 / 65536 := by
  have h := p2_neg 16
  have e : p2 (-16) = p2 (-((16 : Nat) : Int)) := rfl
  rw [e]
  push_cast at h
  grind
theorem fint8_ok {a : Nat} (ha : F32 a) (h1 : 0 ≤ truncR (V a)) (h2 : truncR (V a) ≤ 255) : Iok8 a ∧ fint8 a = truncR (V a) := by
  have h : (FloatKind.f32.decode a).toInt .zero = some (truncR (V a)) := toInt_val (f := Ieee.single) ha (way := .zero) (by decide)
  have e : floatToIntVal .f32 a .u8 = some (truncR (V a)) := by
    unfold floatToIntVal
    rw [h]
    simp only [show IntKind.u8.min = 0 by decide, show IntKind.u8.max = 255 by decide]
    rw [if_pos ⟨h1, h2⟩]
  unfold Iok8 fint8
  rw [e]
  exact ⟨rfl, rfl⟩
/-- The part of one that a sum stands for. -/
theorem fpart_ok {a : Nat} (ha : F32 a) : F32 (fpart a) ∧ V (fpart a) = (if 1 < Flt.ab (V a) then 1 else Flt.ab (V a)) := by
  obtain ⟨n1, n2⟩ := fneg_ok ha
  have h0 := flt_iff ha fzero.1
  rw [fzero.2] at h0
  have h1 := fgt_iff n1 fone.1.fin
  have h2 := fgt_iff ha fone.1.fin
  rw [fone.2] at h1 h2
  rw [n2] at h1
  unfold fpart
  by_cases hc : V a < 0
  · rw [if_pos (h0.2 hc), ab_of_nonpos (by grind)]
    by_cases hd : 1 < -V a
    · rw [if_pos (h1.2 hd), if_pos hd]
      exact ⟨fone.1.fin, fone.2⟩
    · rw [if_neg (fun h => hd (h1.1 h)), if_neg hd]
      exact ⟨n1, n2⟩
  · rw [if_neg (fun h => hc (h0.1 h)), ab_of_nonneg (by grind)]
    by_cases hd : 1 < V a
    · rw [if_pos (h2.2 hd), if_pos hd]
      exact ⟨fone.1.fin, fone.2⟩
    · rw [if_neg (fun h => hd (h2.1 h)), if_neg hd]
      exact ⟨ha, rfl⟩
/-- The byte of a sum. -/
theorem floByte_ok {a : Nat} (ha : F32 a) : FloByteOk a ∧ ∃ r, R32 (16777215 / 65536 * V (fpart a)) r ∧ floByte a = truncR (V r) ∧ 0 ≤ V r ∧ V r ≤ 16777215 / 65536 := by
  obtain ⟨p1, p2'⟩ := fpart_ok ha
  have hp0 : 0 ≤ V (fpart a) := by rw [p2']; have := ab_nonneg (V a); split <;> grind
  have hp1 : V (fpart a) ≤ 1 := by rw [p2']; split <;> grind
  obtain ⟨c1, c2⟩ := c255
  rw [p2_m16] at c2
  have hx0 : 0 ≤ V 1132462079 * V (fpart a) := by rw [c2]; exact Rat.mul_nonneg (by grind) hp0
  have hx1 : V 1132462079 * V (fpart a) ≤ 16777215 / 65536 := by
    rw [c2]
    have := Rat.mul_le_mul_of_nonneg_left hp1 (show (0 : Rat) ≤ 16777215 / 65536 by grind)
    grind
  obtain ⟨q1, q2⟩ := fmul_ok c1 p1 (big126 (by rw [ab_of_nonneg hx0]; grind))
  have hv0 := q2.nonneg hx0
  have hv1 : V (fop .mul 1132462079 (fpart a)) ≤ 16777215 / 65536 := by
    have := q2.le (n := 16777215) (q := -16) (by rw [p2_m16]; push_cast; grind) (by decide) (by decide) (by decide)
    rw [p2_m16] at this
    push_cast at this
    grind
  obtain ⟨t1, t2, _⟩ := truncR_pos_bd hv0
  have ht : truncR (V (fop .mul 1132462079 (fpart a))) ≤ 255 := by
    have h3 : ((truncR (V (fop .mul 1132462079 (fpart a))) : Int) : Rat) < ((256 : Int) : Rat) := by push_cast; grind
    have := Rat.intCast_lt_intCast.1 h3
    omega
  obtain ⟨i1, i2⟩ := fint8_ok q2.fin t1 ht
  refine ⟨⟨q1, i1⟩, _, ?_, i2, hv0, hv1⟩
  rw [c2] at q2
  have e : (16777215 : Rat) * (1 / 65536) = 16777215 / 65536 := by grind
  rw [e] at q2
  exact q2
theorem floBytes_ok : ∀ (l : List Nat) (acc : Nat), CellsBd l → Bd acc 125 → FloBytesOk acc l
  | [], _, _, _ => trivial
  | v :: t, acc, h, ha => by
    obtain ⟨s1, s2⟩ := Bd.sat ha ((h v (by simp)).mono (by decide)) (by decide) (by decide)
    exact ⟨s1, (floByte_ok s2.fin).1, floBytes_ok t _ (fun a ha => h a (by simp [ha])) s2⟩
end Go.Proofs.Ytmgcbodlolnheaa
