/-
  In the numbers of fixed point: a mask's bytes against the area. No program is walked here.
  Each pixel of a mask is near the area: of closed paths in numbers of fixed point, and of rectangles in either kind. No program is walked here.
-/
import Derived.Test.YtmgcbodlolnheaaZFixEdge
import Derived.Test.YtmgcbodlolnheaaZAreaNum
namespace Go.Proofs.Ytmgcbodlolnheaa
open Flt Go.RowKit
set_option linter.unusedVariables false

theorem cap_near {a b e : Rat} (h : ab (a - b) ≤ e) : ab (capR a - capR b) ≤ e := by
  have h1 := ab_sub_le a (a - b)
  have h2 := ab_add_le b (a - b)
  have e1 : a - (a - b) = b := by grind
  have e2 : b + (a - b) = a := by grind
  rw [e1] at h1
  rw [e2] at h2
  have h3 := ab_nonneg (a - b)
  unfold capR
  split <;> split <;> exact ab_le (by grind) (by grind)
end Go.Proofs.Ytmgcbodlolnheaa

namespace Go.Proofs.Ytmgcbodlolnheaa
open Flt Go.RowKit
set_option linter.unusedVariables false

/-- Each pixel is near. -/
def NearAll (bs : List Int) (W H : Nat) (es : List (Pt × Pt)) (far : Nat) : Prop :=
  ∀ Y X : Nat, Y < H → X < W → ∃ b, bs[Y * W + X]? = some b ∧ AreaOk es X Y ∧ CloseOk b (areaW es X Y) far ∧ closeB b (areaW es X Y) far = true

theorem pixel_rat {z A b n E F : Rat} (hn : n ≤ 200) (a3 : ab (capR z - capR A) ≤ n * (1 / 49000000) + 1 / 1000000000) (h : ab (255 * capR A - b) ≤ E) (hE : E + 1 / 100 ≤ F) : ab (255 * capR z - b) + 1 / 1000000000000 ≤ F := by
  generalize capR z = u at *
  generalize capR A = v at *
  obtain ⟨p1, p2⟩ := ab_iff.1 a3
  obtain ⟨q1, q2⟩ := ab_iff.1 h
  have : ab (255 * u - b) ≤ F - 1 / 1000000000000 := ab_le (by grind) (by grind)
  grind
theorem pixel_near {es : List (Pt × Pt)} {X Y : Nat} {b : Int} {far : Nat} {E F : Rat} (he : ∀ e ∈ es, Edge16 e) (hX : X ≤ 600) (hY : Y ≤ 600) (hn : es.length ≤ 200) (hb : 0 ≤ b) (hb1 : b ≤ 255) (hf : F64 far) (hfv : VV far = F)
    (h : ab (255 * capR (areaR es X Y) - b) ≤ E) (hE : E + 1 / 100 ≤ F) : AreaOk es X Y ∧ CloseOk b (areaW es X Y) far ∧ closeB b (areaW es X Y) far = true := by
  obtain ⟨a1, a2, a3⟩ := area_num he hX hY hn
  have h1 := cap_near a3
  have hn' : (es.length : Rat) ≤ 200 := by exact_mod_cast hn
  obtain ⟨c1, c2⟩ := near_num hb hb1 a2 hf (by rw [hfv]; exact pixel_rat hn' h1 h hE)
  exact ⟨a1, c1, c2⟩

/-! ### fixed point -/
/-- The rows of the longest edge. -/
def rowsAll : List (Pt × Pt) → Int → Int
  | [], r => r
  | e :: t, r => rowsAll t (imax r (rowsE e))
theorem rowsAll_snoc : ∀ (l : List (Pt × Pt)) (e : Pt × Pt) (r : Int), rowsAll (l ++ [e]) r = imax (rowsAll l r) (rowsE e)
  | [], _, _ => rfl
  | a :: l, e, r => by rw [List.cons_append, rowsAll, rowsAll_snoc l e, rowsAll]
theorem rowsAll_ge : ∀ (l : List (Pt × Pt)) (r : Int), r ≤ rowsAll l r
  | [], _ => Int.le_refl _
  | a :: l, r => by
    have h := rowsAll_ge l (imax r (rowsE a))
    have h1 : r ≤ imax r (rowsE a) := by unfold imax; split <;> omega
    rw [rowsAll]
    omega
theorem rowsAll_mem : ∀ {l : List (Pt × Pt)} {r : Int} {e : Pt × Pt}, e ∈ l → rowsE e ≤ rowsAll l r
  | a :: l, r, e, h => by
    rw [rowsAll]
    rcases List.mem_cons.1 h with rfl | h
    · have h := rowsAll_ge l (imax r (rowsE e))
      have h1 : rowsE e ≤ imax r (rowsE e) := by unfold imax; split <;> omega
      omega
    · exact rowsAll_mem h
theorem rowsAll_le {m : Int} : ∀ {l : List (Pt × Pt)} {r : Int}, r ≤ m → (∀ e ∈ l, rowsE e ≤ m) → rowsAll l r ≤ m
  | [], _, h, _ => h
  | a :: l, r, h, hl => by
    rw [rowsAll]
    refine rowsAll_le ?_ fun e he => hl e (by simp [he])
    have := hl a (by simp)
    unfold imax
    split <;> omega
/-- 'laws.slack'. -/
def slackW (es : List (Pt × Pt)) : Nat := floatOfInt .f64 (4 + rowsAll es 0 * es.length)
/-! ### floating numbers: a byte -/
theorem byte_flo {c r : Rat} {q : Int} (h0 : 0 ≤ c) (h1 : c ≤ 1) (q1 : (q : Rat) ≤ r) (q2 : r < q + 1) (hr : ab (r - 16777215 / 65536 * c) ≤ 1 / 50000) : ab (255 * c - q) ≤ 1 + 1 / 50000 := by
  obtain ⟨a, b⟩ := ab_iff.1 hr
  exact ab_le (by grind) (by grind)
theorem floByte_near {a : Nat} (ha : F32 a) : 0 ≤ floByte a ∧ floByte a ≤ 255 ∧ ab (255 * capR (V a) - (floByte a : Int)) ≤ 1 + 1 / 50000 := by
  obtain ⟨_, r, h1, h2, h3, h4⟩ := floByte_ok ha
  have hp : V (fpart a) = capR (V a) := (fpart_ok ha).2
  rw [hp] at h1
  have cb := cap_bd (V a)
  obtain ⟨t1, t2, t3⟩ := truncR_pos_bd h3
  rw [← h2] at t1 t2 t3
  refine ⟨t1, ?_, ?_⟩
  · have u : ((floByte a : Int) : Rat) < ((256 : Int) : Rat) := by push_cast; grind
    have := Rat.intCast_lt_intCast.1 u
    omega
  · refine byte_flo cb.1 cb.2 t2 t3 ?_
    obtain ⟨_, k⟩ := h1.near5
    have hx : ab (16777215 / 65536 * capR (V a)) ≤ 256 := ab_pos_le (Rat.mul_nonneg (by decide +kernel) cb.1) (by grind)
    grind

/-! ### rectangles -/
end Go.Proofs.Ytmgcbodlolnheaa
