/-
  In the numbers of fixed point: a mask's bytes against the area. No program is walked here.
  Each pixel of a mask is near the area: of closed paths in numbers of fixed point, and of rectangles in either kind. No program is walked here.
-/
import Derived.Test.YtmgcbodlolnheaaFixEdge
import Derived.Test.YtmgcbodlolnheaaAreaNum
namespace Go.Proofs.Ytmgcbodlolnheaa
open Flt Go.RowKit
set_option linter.unusedVariables false

theorem cap_near {a b e : Rat} (h : ab (a - b) ≤ e) : ab (capR a - capR b) ≤ e := by
  have h1 := ab_sub_le a (a - b)
  have h2 := ab_add_le b (a - b)
  have e1 : a - (a - b) = b := by grind
  have e2 : b + (a - b) = a := by grind
  rw [e1] at h1
  rw [e2] at h2
  have h3 := ab_nonneg (a - b)
  unfold capR
  split <;> split <;> exact ab_le (by grind) (by grind)
theorem byte_rat {n : Int} {q : Int} {A E : Rat} (hq : q = (n.natAbs : Int) / 1024) (h : ab ((n : Rat) - 262144 * A) ≤ E) :
    ab (255 * capR A - ((if 255 < q then 255 else q : Int) : Rat)) ≤ 1 + E * (255 / 262144) := by
  obtain ⟨a, ha⟩ : ∃ a : Rat, a = (n : Rat) / 262144 := ⟨_, rfl⟩
  have hd : ab (A - a) ≤ E / 262144 := by
    have e : (n : Rat) - 262144 * A = -(262144 * (A - a)) := by rw [ha]; grind
    rw [e, ab_neg, ab_mul, ab_of_nonneg (x := (262144 : Rat)) (by decide +kernel)] at h
    grind
  have hc := cap_near hd
  have hn : ab (n : Rat) = ((n.natAbs : Int) : Rat) := by
    rcases Int.le_total 0 n with h0 | h0
    · have : (0 : Rat) ≤ n := by exact_mod_cast h0
      rw [ab_of_nonneg this, show ((n.natAbs : Int)) = n by omega]
    · have : (n : Rat) ≤ 0 := by exact_mod_cast h0
      rw [ab_of_nonpos this, show ((n.natAbs : Int)) = -n by omega]
      push_cast
      rfl
  have haa : ab a = ((n.natAbs : Int) : Rat) / 262144 := by
    rw [← hn, ha]
    have e : (n : Rat) / 262144 = n * (1 / 262144) := by grind
    rw [e, ab_mul, ab_of_nonneg (x := (1 / 262144 : Rat)) (by decide +kernel)]
    grind
  have b1 := castLe (show 1024 * q ≤ (n.natAbs : Int) by omega)
  have b2 := castLe (show (n.natAbs : Int) ≤ 1024 * q + 1023 by omega)
  have b0 := castLe (show 0 ≤ q by omega)
  have e0 : ((0 : Int) : Rat) = 0 := rfl
  rw [e0] at b0
  push_cast at b1 b2
  have hcap : capR a = if 1 < ab a then 1 else ab a := rfl
  obtain ⟨c1, c2⟩ := ab_iff.1 hc
  by_cases hbig : 255 < q
  · have b3 := castLe (show 256 ≤ q by omega)
    have e5 : ((256 : Int) : Rat) = 256 := rfl
    rw [e5] at b3
    rw [if_pos hbig]
    have e4 : ((255 : Int) : Rat) = 255 := rfl
    rw [e4]
    have h1 : capR a = 1 := by
      rw [hcap]
      split
      · rfl
      · rw [haa] at *; push_cast at *; grind
    rw [h1] at c1 c2
    exact ab_le (by grind) (by grind)
  · have b3 := castLe (show q ≤ 255 by omega)
    have e4 : ((255 : Int) : Rat) = 255 := rfl
    rw [e4] at b3
    rw [if_neg hbig]
    have h1 : ab (255 * capR a - q) ≤ 1 := by
      rw [hcap, haa]
      push_cast
      split <;> exact ab_le (by grind) (by grind)
    obtain ⟨g1, g2⟩ := ab_iff.1 h1
    exact ab_le (by grind) (by grind)
/-- A byte of the mask. -/
theorem fixByte_near {n : Int} {A E : Rat} (hn : n.natAbs ≤ 2147483647) (h : ab ((n : Rat) - 262144 * A) ≤ E) : 0 ≤ fixByte n ∧ fixByte n ≤ 255 ∧ ab (255 * capR A - (fixByte n : Int)) ≤ 1 + E * (255 / 262144) := by
  have hf := fixByte_of hn
  have k := byte_rat (q := (n.natAbs : Int) / 1024) rfl h
  rw [← hf] at k
  refine ⟨?_, ?_, k⟩
  · rw [hf]; split <;> omega
  · rw [hf]; split <;> omega
/-- A pixel of the mask of closed paths. -/
theorem fix_pixel {W H X Y : Nat} (hX : X < W) (hY : Y < H) {ps : List (List Pt)} (hne : ∀ p ∈ ps, p ≠ []) {N : Nat} (hN : N ≤ 2000) (hn : (ps.flatMap edges).length ≤ 100) (h : ∀ e ∈ ps.flatMap edges, NearE e ∧ rowsE e ≤ N) :
    ∃ b : Int, (maskR false W H (ps.flatMap pathOps))[Y * W + X]? = some b ∧ 0 ≤ b ∧ b ≤ 255 ∧
      ab (255 * capR (areaR (ps.flatMap edges) X Y) - b) ≤ 1 + ((ps.flatMap edges).length * (884 + N * 516) : Rat) * (255 / 262144) := by
  have hp : Y * W + X < W * H := by
    have h1 : (Y + 1) * W ≤ H * W := Nat.mul_le_mul_right W hY
    rw [Nat.add_mul, Nat.one_mul, Nat.mul_comm H W] at h1
    omega
  have k := fix_near hX hY ps h
  have rb := areaR_bd X Y (ps.flatMap edges)
  rw [maskR_fixS W H hne, fixMask_at _ _ _ hp]
  generalize sumTo (edgesL W H (ps.flatMap edges)) (Y * W + X) = s at *
  generalize areaR (ps.flatMap edges) X Y = A at *
  generalize (ps.flatMap edges).length = n at *
  have hn' : (n : Rat) ≤ 100 := by exact_mod_cast hn
  have hN' : (N : Rat) ≤ 2000 := by exact_mod_cast hN
  have hn0 : (0 : Rat) ≤ n := by exact_mod_cast Nat.zero_le n
  have hN0 : (0 : Rat) ≤ N := by exact_mod_cast Nat.zero_le N
  have hE : (n : Rat) * (884 + N * 516) ≤ 110000000 := by
    have m1 := Rat.mul_le_mul_of_nonneg_right hn' (show (0 : Rat) ≤ 884 + N * 516 by grind)
    grind
  obtain ⟨k1, k2⟩ := ab_iff.1 k
  obtain ⟨r1, r2⟩ := ab_iff.1 rb
  have s1 : (s : Rat) ≤ ((2000000000 : Int) : Rat) := by push_cast; grind
  have s2 : ((-2000000000 : Int) : Rat) ≤ s := by push_cast; grind
  have s3 := Rat.intCast_le_intCast.1 s1
  have s4 := Rat.intCast_le_intCast.1 s2
  rw [wrap32_small (by omega) (by omega)]
  obtain ⟨q1, q2, q3⟩ := fixByte_near (n := s) (by omega) k
  exact ⟨_, rfl, q1, q2, q3⟩
end Go.Proofs.Ytmgcbodlolnheaa

namespace Go.Proofs.Ytmgcbodlolnheaa
open Flt Go.RowKit
set_option linter.unusedVariables false

/-- Each pixel is near. -/
def NearAll (bs : List Int) (W H : Nat) (es : List (Pt × Pt)) (far : Nat) : Prop :=
  ∀ Y X : Nat, Y < H → X < W → ∃ b, bs[Y * W + X]? = some b ∧ AreaOk es X Y ∧ CloseOk b (areaW es X Y) far ∧ closeB b (areaW es X Y) far = true

theorem pixel_rat {z A b n E F : Rat} (hn : n ≤ 200) (a3 : ab (capR z - capR A) ≤ n * (1 / 49000000) + 1 / 1000000000) (h : ab (255 * capR A - b) ≤ E) (hE : E + 1 / 100 ≤ F) : ab (255 * capR z - b) + 1 / 1000000000000 ≤ F := by
  generalize capR z = u at *
  generalize capR A = v at *
  obtain ⟨p1, p2⟩ := ab_iff.1 a3
  obtain ⟨q1, q2⟩ := ab_iff.1 h
  have : ab (255 * u - b) ≤ F - 1 / 1000000000000 := ab_le (by grind) (by grind)
  grind
theorem pixel_near {es : List (Pt × Pt)} {X Y : Nat} {b : Int} {far : Nat} {E F : Rat} (he : ∀ e ∈ es, Edge16 e) (hX : X ≤ 600) (hY : Y ≤ 600) (hn : es.length ≤ 200) (hb : 0 ≤ b) (hb1 : b ≤ 255) (hf : F64 far) (hfv : VV far = F)
    (h : ab (255 * capR (areaR es X Y) - b) ≤ E) (hE : E + 1 / 100 ≤ F) : AreaOk es X Y ∧ CloseOk b (areaW es X Y) far ∧ closeB b (areaW es X Y) far = true := by
  obtain ⟨a1, a2, a3⟩ := area_num he hX hY hn
  have h1 := cap_near a3
  have hn' : (es.length : Rat) ≤ 200 := by exact_mod_cast hn
  obtain ⟨c1, c2⟩ := near_num hb hb1 a2 hf (by rw [hfv]; exact pixel_rat hn' h1 h hE)
  exact ⟨a1, c1, c2⟩

/-! ### fixed point -/
/-- The rows of the longest edge. -/
def rowsAll : List (Pt × Pt) → Int → Int
  | [], r => r
  | e :: t, r => rowsAll t (imax r (rowsE e))
theorem rowsAll_snoc : ∀ (l : List (Pt × Pt)) (e : Pt × Pt) (r : Int), rowsAll (l ++ [e]) r = imax (rowsAll l r) (rowsE e)
  | [], _, _ => rfl
  | a :: l, e, r => by rw [List.cons_append, rowsAll, rowsAll_snoc l e, rowsAll]
theorem rowsAll_ge : ∀ (l : List (Pt × Pt)) (r : Int), r ≤ rowsAll l r
  | [], _ => Int.le_refl _
  | a :: l, r => by
    have h := rowsAll_ge l (imax r (rowsE a))
    have h1 : r ≤ imax r (rowsE a) := by unfold imax; split <;> omega
    rw [rowsAll]
    omega
theorem rowsAll_mem : ∀ {l : List (Pt × Pt)} {r : Int} {e : Pt × Pt}, e ∈ l → rowsE e ≤ rowsAll l r
  | a :: l, r, e, h => by
    rw [rowsAll]
    rcases List.mem_cons.1 h with rfl | h
    · have h := rowsAll_ge l (imax r (rowsE e))
      have h1 : rowsE e ≤ imax r (rowsE e) := by unfold imax; split <;> omega
      omega
    · exact rowsAll_mem h
theorem rowsAll_le {m : Int} : ∀ {l : List (Pt × Pt)} {r : Int}, r ≤ m → (∀ e ∈ l, rowsE e ≤ m) → rowsAll l r ≤ m
  | [], _, h, _ => h
  | a :: l, r, h, hl => by
    rw [rowsAll]
    refine rowsAll_le ?_ fun e he => hl e (by simp [he])
    have := hl a (by simp)
    unfold imax
    split <;> omega
/-- 'laws.slack'. -/
def slackW (es : List (Pt × Pt)) : Nat := floatOfInt .f64 (4 + rowsAll es 0 * es.length)
/-- Edges that are near: at most 16896 from the beginning, in 64ths. -/
def Edge17 (e : Pt × Pt) : Prop := (-16896 ≤ e.1.1 ∧ e.1.1 ≤ 16896) ∧ (-16896 ≤ e.1.2 ∧ e.1.2 ≤ 16896) ∧ (-16896 ≤ e.2.1 ∧ e.2.1 ≤ 16896) ∧ (-16896 ≤ e.2.2 ∧ e.2.2 ≤ 16896)
theorem edge17_of {ps : List (List Pt)} (hf : ∀ p ∈ ps, Far p 16896) : ∀ e ∈ ps.flatMap edges, Edge17 e := by
  intro e he
  obtain ⟨p, hp, h1, h2⟩ := mem_several he
  have a := hf p hp _ h1
  have b := hf p hp _ h2
  exact ⟨a.1, a.2, b.1, b.2⟩
theorem rowsE_bd {e : Pt × Pt} (h : Edge17 e) : 1 ≤ rowsE e ∧ rowsE e ≤ 529 ∧ (e.1.2 ≠ e.2.2 → 2 ≤ rowsE e) := by
  obtain ⟨_, h1, _, h2⟩ := h
  unfold rowsE imax
  split <;> omega
theorem rowsAll_bd {es : List (Pt × Pt)} (h : ∀ e ∈ es, Edge17 e) : 0 ≤ rowsAll es 0 ∧ rowsAll es 0 ≤ 529 :=
  ⟨rowsAll_ge es 0, rowsAll_le (by omega) fun e he => (rowsE_bd (h e he)).2.1⟩
theorem slack_val {es : List (Pt × Pt)} (h : ∀ e ∈ es, Edge17 e) (hn : es.length ≤ 200) : F64 (slackW es) ∧ VV (slackW es) = 4 + (rowsAll es 0 : Rat) * es.length := by
  obtain ⟨r0, r1⟩ := rowsAll_bd h
  have hb : 0 ≤ rowsAll es 0 * (es.length : Int) ∧ rowsAll es 0 * (es.length : Int) ≤ 529 * 200 := ⟨Int.mul_nonneg r0 (by omega), by
    have a1 := Int.mul_le_mul_of_nonneg_right r1 (show (0 : Int) ≤ es.length by omega)
    omega⟩
  obtain ⟨f1, f2⟩ := int64w (n := 4 + rowsAll es 0 * es.length) (by omega) (by omega)
  refine ⟨f1, ?_⟩
  unfold slackW
  rw [f2]
  push_cast
  rfl
theorem slack_rat {n N : Rat} (hn : 0 ≤ n) (hN : 2 ≤ N) : 1 + (n * (884 + N * 516)) * (255 / 262144) + 1 / 100 ≤ 4 + N * n := by
  have := Rat.mul_nonneg hn (show (0 : Rat) ≤ N - 2 by grind)
  grind
theorem level_zero {W H X Y : Nat} {es : List (Pt × Pt)} (h : ∀ e ∈ es, Edge17 e) (hl : ∀ e ∈ es, e.1.2 = e.2.2) : edgesL W H es = [] ∧ areaR es X Y = 0 := by
  induction es with
  | nil => exact ⟨rfl, rfl⟩
  | cons e t ih =>
    obtain ⟨i1, i2⟩ := ih (fun e he => h e (by simp [he])) fun e he => hl e (by simp [he])
    have he := hl e (by simp)
    have hb := h e (by simp)
    obtain ⟨⟨a1, a2⟩, ⟨b1, b2⟩⟩ := e
    obtain ⟨k1, k2, k3, k4⟩ := hb
    simp only at k1 k2 k3 k4
    refine ⟨?_, ?_⟩
    · rw [edgesL, i1, edgeL_flat W H (a := (a1, a2)) (b := (b1, b2)) ⟨by simp only; omega, by simp only; omega⟩ ⟨by simp only; omega, by simp only; omega⟩ he]
      rfl
    · have hz : dph Y ((a1, a2), (b1, b2)) = 0 := by unfold dph; simp only at he ⊢; rw [he]; omega
      unfold areaR at i2 ⊢
      rw [sumE, i2, areaE, hz, cast_zero]
      grind
theorem fixed_all {W H : Nat} {ps : List (List Pt)} (hW : W ≤ 600) (hH : H ≤ 600) (hne : ∀ p ∈ ps, p ≠ []) (hf : ∀ p ∈ ps, Far p 16896) (hn : (ps.flatMap edges).length ≤ 100) :
    NearAll (maskR false W H (ps.flatMap pathOps)) W H (ps.flatMap edges) (slackW (ps.flatMap edges)) := by
  intro Y X hY hX
  have h17 := edge17_of hf
  have h16 : ∀ e ∈ ps.flatMap edges, Edge16 e := fun e he => by have := h17 e he; unfold Edge17 at this; unfold Edge16; omega
  obtain ⟨s1, s2⟩ := slack_val h17 (by omega)
  by_cases hl : ∀ e ∈ ps.flatMap edges, e.1.2 = e.2.2
  · obtain ⟨l1, l2⟩ := level_zero (W := W) (H := H) (X := X) (Y := Y) h17 hl
    have hp : Y * W + X < W * H := by
      have h1 : (Y + 1) * W ≤ H * W := Nat.mul_le_mul_right W hY
      rw [Nat.add_mul, Nat.one_mul, Nat.mul_comm H W] at h1
      omega
    have hb : (maskR false W H (ps.flatMap pathOps))[Y * W + X]? = some 0 := by
      rw [maskR_fixS W H hne, fixMask_at _ _ _ hp, l1]
      show some (fixByte (wrap32 0)) = some 0
      decide +kernel
    refine ⟨0, hb, pixel_near (E := 0) h16 (by omega) (by omega) (by omega) (by omega) (by omega) s1 s2 ?_ ?_⟩
    · rw [l2]
      decide +kernel
    · have r0 := castLe (rowsAll_bd h17).1
      have := Rat.mul_nonneg (a := (rowsAll (ps.flatMap edges) 0 : Rat)) (b := ((ps.flatMap edges).length : Rat)) r0 (by exact_mod_cast Nat.zero_le _)
      grind
  · obtain ⟨e, he, hne2⟩ : ∃ e ∈ ps.flatMap edges, e.1.2 ≠ e.2.2 := by
      apply Classical.byContradiction
      intro hc
      exact hl fun e he => Classical.byContradiction fun h => hc ⟨e, he, h⟩
    obtain ⟨r0, r1⟩ := rowsAll_bd h17
    have hr2 : 2 ≤ rowsAll (ps.flatMap edges) 0 := by
      have h1 := (rowsE_bd (h17 e he)).2.2 hne2
      have h2 := rowsAll_mem (r := 0) he
      omega
    obtain ⟨N, hN⟩ : ∃ N : Nat, rowsAll (ps.flatMap edges) 0 = N := ⟨(rowsAll (ps.flatMap edges) 0).toNat, by omega⟩
    obtain ⟨b, b1, b2, b3, b4⟩ := fix_pixel (W := W) (H := H) hX hY hne (N := N) (by omega) hn fun e he => ⟨by
      have := h17 e he
      unfold Edge17 at this
      exact ⟨⟨by omega, by omega⟩, ⟨by omega, by omega⟩, by omega, by omega, by omega, by omega⟩, by rw [← hN]; exact rowsAll_mem he⟩
    refine ⟨b, b1, pixel_near h16 (by omega) (by omega) (by omega) b2 b3 s1 s2 b4 ?_⟩
    rw [hN]
    have hN2 : (2 : Rat) ≤ N := by
      have : 2 ≤ N := by omega
      exact_mod_cast this
    exact slack_rat (n := ((ps.flatMap edges).length : Rat)) (N := N) (by exact_mod_cast Nat.zero_le _) hN2

/-! ### floating numbers: a byte -/
theorem p2_m24b : p2 (-24) = 1 / 16777216 := by have := p2_neg 24; push_cast at this ⊢; grind
theorem byte_flo {c r : Rat} {q : Int} (h0 : 0 ≤ c) (h1 : c ≤ 1) (q1 : (q : Rat) ≤ r) (q2 : r < q + 1) (hr : ab (r - 16777215 / 65536 * c) ≤ 1 / 50000) : ab (255 * c - q) ≤ 1 + 1 / 50000 := by
  obtain ⟨a, b⟩ := ab_iff.1 hr
  exact ab_le (by grind) (by grind)
theorem floByte_near {a : Nat} (ha : F32 a) : 0 ≤ floByte a ∧ floByte a ≤ 255 ∧ ab (255 * capR (V a) - (floByte a : Int)) ≤ 1 + 1 / 50000 := by
  obtain ⟨_, r, h1, h2, h3, h4⟩ := floByte_ok ha
  have hp : V (fpart a) = capR (V a) := (fpart_ok ha).2
  rw [hp] at h1
  have cb := cap_bd (V a)
  obtain ⟨t1, t2, t3⟩ := truncR_pos_bd h3
  rw [← h2] at t1 t2 t3
  refine ⟨t1, ?_, ?_⟩
  · have u : ((floByte a : Int) : Rat) < ((256 : Int) : Rat) := by push_cast; grind
    have := Rat.intCast_lt_intCast.1 u
    omega
  · refine byte_flo cb.1 cb.2 t2 t3 ?_
    obtain ⟨_, k⟩ := h1.near5
    have hx : ab (16777215 / 65536 * capR (V a)) ≤ 256 := ab_pos_le (Rat.mul_nonneg (by decide +kernel) cb.1) (by grind)
    grind

/-! ### rectangles -/
theorem cl_64 (X : Nat) (x : Int) : cl ((X : Rat) + 1 - (x : Rat) / 64) = (cl64 X x : Rat) / 64 := by
  have eX : (((X : Int)) : Rat) = (X : Rat) := by push_cast; rfl
  rcases cl64_cases X x with ⟨h, e⟩ | ⟨h1, h2, e⟩ | ⟨h, e⟩
  · have h3 := castLe h
    push_cast at h3
    rw [e, cast_zero]
    unfold cl
    rw [if_pos (by grind)]
    grind
  · have h3 := castLe h1
    have h4 := castLe h2
    push_cast at h3 h4
    rw [e, cl_id (by grind) (by grind)]
    push_cast
    grind
  · have h3 := castLe h
    push_cast at h3
    rw [e]
    have : 1 ≤ (X : Rat) + 1 - (x : Rat) / 64 := by grind
    have e1 : ((64 : Int) : Rat) = 64 := rfl
    rw [e1]
    unfold cl
    rw [if_neg (by grind)]
    split <;> grind
theorem mE_up (X Y : Nat) (x m2 m4 : Int) : mE X Y x m2 x m4 = (cl64 X x : Rat) / 64 := by
  have hs : slopeR x m2 x m4 = 0 := by
    unfold slopeR
    rw [Int.sub_self, cast_zero, Rat.div_def]
    exact Rat.zero_mul _
  have hu : ∀ y, uE x m2 x m4 X y = (X : Rat) + 1 - (x : Rat) / 64 := by
    intro y
    unfold uE xE
    rw [hs]
    grind
  unfold mE
  rw [hu, hu, mean_self, cl_64]
theorem areaE_up {e : Pt × Pt} (h : Up e) (X Y : Nat) : areaE X Y e = ((dph Y e * cl64 X e.1.1 : Int) : Rat) / 4096 := by
  obtain ⟨⟨x0, y0⟩, ⟨x1, y1⟩⟩ := e
  obtain ⟨_, _, h3⟩ := h
  simp only at h3
  unfold areaE mEdge
  by_cases hy : y0 = y1
  · have hz : dph Y ((x0, y0), (x1, y1)) = 0 := by unfold dph; simp only; rw [hy]; omega
    rw [hz, Int.zero_mul, cast_zero]
    grind
  · obtain rfl : x0 = x1 := by omega
    simp only [mE_up, ite_self]
    push_cast
    grind
theorem areaR_up {es : List (Pt × Pt)} (h : ∀ e ∈ es, Up e) (X Y : Nat) : areaR es X Y = (area64 es X Y : Rat) / 4096 := by
  unfold areaR area64
  rw [zsum_sumE, sumE_congr (g := fun e => (1 / 4096) * ((dph Y e * cl64 X e.1.1 : Int) : Rat)) fun e he => by rw [areaE_up (h e he)]; grind]
  rw [sumE_mul]
  grind
def rectPts (x0 y0 x1 y1 : Int) : List Pt := [(x0, y0), (x1, y0), (x1, y1), (x0, y1)]
theorem two_val : F64 4611686018427387904 ∧ VV 4611686018427387904 = 2 := two64
theorem p2_m12 : p2 (-12) = 1 / 4096 := by have := p2_neg 12; push_cast at this ⊢; grind
theorem upright_all (mode : Bool) {W H : Nat} (hW : W ≤ 600) (hH : H ≤ 600) {ps : List (List Pt)} (hne : ∀ p ∈ ps, p ≠ []) (hup : ∀ e ∈ ps.flatMap edges, Up e) (h16 : ∀ e ∈ ps.flatMap edges, Edge16 e) (hn : (ps.flatMap edges).length ≤ 6) :
    NearAll (maskR mode W H (ps.flatMap pathOps)) W H (ps.flatMap edges) 4611686018427387904 := by
  intro Y X hY hX
  have hp : Y * W + X < W * H := by
    have h1 : (Y + 1) * W ≤ H * W := Nat.mul_le_mul_right W hY
    rw [Nat.add_mul, Nat.one_mul, Nat.mul_comm H W] at h1
    omega
  obtain ⟨s1, s2⟩ := two64
  have hA := areaR_up hup X Y
  have hbd := areaR_bd X Y (ps.flatMap edges)
  have hn6 : ((ps.flatMap edges).length : Rat) ≤ 6 := by exact_mod_cast hn
  cases mode
  · have hs : ab (((sumTo (edgesL W H (ps.flatMap edges)) (Y * W + X) : Int) : Rat) - 262144 * areaR (ps.flatMap edges) X Y) ≤ 0 := by
      rw [fix_area hX hY ps hup, hA]
      push_cast
      have : 64 * (area64 (ps.flatMap edges) X Y : Rat) - 262144 * ((area64 (ps.flatMap edges) X Y : Rat) / 4096) = 0 := by grind
      rw [this]
      decide +kernel
    have hsm : ab ((area64 (ps.flatMap edges) X Y : Rat)) ≤ 6 * 4096 := by
      rw [hA] at hbd
      have e : (area64 (ps.flatMap edges) X Y : Rat) / 4096 = (1 / 4096) * (area64 (ps.flatMap edges) X Y : Rat) := by grind
      rw [e, ab_mul, ab_of_nonneg (x := (1 / 4096 : Rat)) (by decide +kernel)] at hbd
      grind
    obtain ⟨w1, w2⟩ := ab_iff.1 hsm
    have v1 := Rat.intCast_le_intCast.1 (show (area64 (ps.flatMap edges) X Y : Rat) ≤ ((24576 : Int) : Rat) by push_cast; grind)
    have v2 := Rat.intCast_le_intCast.1 (show ((-24576 : Int) : Rat) ≤ (area64 (ps.flatMap edges) X Y : Rat) by push_cast; grind)
    have hsv := fix_area (W := W) (H := H) hX hY ps hup
    obtain ⟨q1, q2, q3⟩ := fixByte_near (n := sumTo (edgesL W H (ps.flatMap edges)) (Y * W + X)) (by rw [hsv]; omega) hs
    refine ⟨_, ?_, pixel_near h16 (by omega) (by omega) (by omega) q1 q2 s1 s2 q3 (by grind)⟩
    rw [maskR_fixS W H hne, fixMask_at _ _ _ hp, wrap32_small (by rw [hsv]; omega) (by rw [hsv]; omega)]
  · obtain ⟨z, z1, z2, z3, _⟩ := flo_area (H := H) hX hY ps hup
    have hbig : sizeL z ≤ 16777216 := by
      have h1 : 4096 * H * (ps.flatMap edges).length ≤ 4096 * 600 * 6 := Nat.mul_le_mul (Nat.mul_le_mul (Nat.le_refl _) hH) hn
      omega
    obtain ⟨a, e1, e2⟩ := floMask_ex (by decide) (by decide) z1 hbig hp
    have hv : V a = areaR (ps.flatMap edges) X Y := by
      rw [e2.2, z2, hA, p2_m12]
      grind
    obtain ⟨q1, q2, q3⟩ := floByte_near e2.1
    rw [hv] at q3
    refine ⟨_, ?_, pixel_near h16 (by omega) (by omega) (by omega) q1 q2 s1 s2 q3 (by grind)⟩
    rw [maskR_floS W H hne, e1]
theorem rect_all (mode : Bool) {W H : Nat} (hW : W ≤ 600) (hH : H ≤ 600) {x0 y0 x1 y1 : Int} (hf : Far (rectPts x0 y0 x1 y1) 64000) :
    NearAll (maskR mode W H (pathOps (rectPts x0 y0 x1 y1))) W H (edges (rectPts x0 y0 x1 y1)) 4611686018427387904 := by
  have a := hf (x0, y0) (by simp [rectPts])
  have b := hf (x1, y1) (by simp [rectPts])
  simp only at a b
  have e0 : [rectPts x0 y0 x1 y1].flatMap edges = edges (rectPts x0 y0 x1 y1) := by simp
  have e1 : [rectPts x0 y0 x1 y1].flatMap pathOps = pathOps (rectPts x0 y0 x1 y1) := by simp
  have key : ∀ e ∈ edges (rectPts x0 y0 x1 y1), Up e ∧ Edge16 e := by
    intro e he
    simp only [rectPts, edges, edgesFrom, List.mem_cons, List.not_mem_nil, or_false] at he
    rcases he with rfl | rfl | rfl | rfl
    all_goals
      refine ⟨⟨⟨?_, ?_⟩, ⟨?_, ?_⟩, ?_⟩, ?_⟩
      all_goals first | exact .inr rfl | exact .inl rfl | ((try unfold Edge16); simp only; omega)
  rw [← e0, ← e1]
  refine upright_all mode hW hH (by simp [rectPts]) ?_ ?_ ?_
  · rw [e0]; exact fun e he => (key e he).1
  · rw [e0]; exact fun e he => (key e he).2
  · rw [e0, length_edges]; simp [rectPts]
end Go.Proofs.Ytmgcbodlolnheaa
