/-
  The plain law of FnMovedIsMoved: a path within the bounds, moved by whole pixels within them, in the numbers of fixed point. No program is walked here.
-/
import Derived.Test.YtmgcbodlolnheaaTrack
namespace Go.Proofs.Ytmgcbodlolnheaa
open Flt Go.RowKit
set_option linter.unusedVariables false

/-! ### words of one value are one word -/
theorem word_uniq {a b : Nat} (ha : a < 4294967296) (hb : b < 4294967296) (fa : F32 a) (fb : F32 b) (h0 : V a ≠ 0) (h : V a = V b) : a = b := by
  obtain ⟨s, m, i, ea⟩ := fa
  obtain ⟨t, n, j, eb⟩ := fb
  have va := (read_V ea).2
  have vb := (read_V eb).2
  rw [va] at h h0
  rw [vb] at h
  have hbin : Ieee.single.binade = 8388608 := by decide
  have hsw : Ieee.single.signWeight = 2147483648 := by decide
  have hlp : Ieee.single.leastPlace = -149 := by decide
  -- what a word tells of itself
  have key : ∀ {a : Nat} {s : Bool} {m : Nat} {i : Int}, a < 4294967296 → Ieee.single.read a = .number s m i →
      (s = decide (2147483648 ≤ a)) ∧ ((m = a % 2147483648 ∧ i = -149 ∧ m < 8388608) ∨ (8388608 ≤ m ∧ m < 16777216 ∧ a % 2147483648 = (i + 149).toNat * 8388608 + m ∧ -149 ≤ i)) := by
    intro a s m i ha h
    unfold Ieee.Format.read at h
    rw [hbin, hsw, hlp] at h
    simp only at h
    have hsg : (a / 2147483648 % 2 == 1) = decide (2147483648 ≤ a) := by
      rw [Bool.eq_iff_iff]
      simp
      omega
    rw [hsg] at h
    split at h
    · injection h with h1 h2 h3
      exact ⟨h1.symm, .inl ⟨h2.symm, h3.symm, by omega⟩⟩
    · split at h
      · injection h with h1 h2 h3
        refine ⟨h1.symm, .inr ?_⟩
        subst h2 h3
        have hd := Nat.div_add_mod (a % 2147483648) 8388608
        refine ⟨by omega, by omega, by omega, by omega⟩
      · split at h <;> cases h
  obtain ⟨k1, k2⟩ := key ha ea
  obtain ⟨k3, k4⟩ := key hb eb
  have hm : m ≠ 0 := by rintro rfl; simp at h0
  have pi := p2_pos i
  have pj := p2_pos j
  have hmp : (0 : Rat) < m * p2 i := Rat.mul_pos (by have := Nat.pos_of_ne_zero hm; exact_mod_cast this) pi
  have hnp : (0 : Rat) ≤ n * p2 j := Rat.mul_nonneg Rat.natCast_nonneg (Rat.le_of_lt pj)
  have hst : s = t ∧ (m : Rat) * p2 i = n * p2 j := by
    cases s <;> cases t <;> simp [sgn] at h ⊢ <;> grind
  obtain ⟨rfl, hv⟩ := hst
  have hmn : m = n ∧ i = j := by
    rcases Int.lt_trichotomy i j with hij | hij | hij
    · exfalso
      have hj : -149 ≤ i := by rcases k2 with k | k <;> omega
      rcases k4 with k | k
      · omega
      · have e1 : p2 (i + 1) ≤ p2 j := p2_mono (by omega)
        rw [p2_succ] at e1
        have e2 : (m : Rat) < 16777216 := by
          have : m < 16777216 := by rcases k2 with k | k <;> omega
          have := Rat.natCast_lt_natCast.2 this
          push_cast at this
          exact this
        have e3 : (8388608 : Rat) ≤ n := by
          have := Rat.natCast_le_natCast.2 k.1
          push_cast at this
          exact this
        have e4 := Rat.mul_lt_mul_of_pos_right e2 pi
        have e5 := Rat.mul_le_mul_of_nonneg_right e3 (Rat.le_of_lt pj)
        grind
    · subst hij
      refine ⟨?_, rfl⟩
      have h1 := nat_le_of_cast_mul pi (show (m : Rat) * p2 i ≤ n * p2 i by grind)
      have h2 := nat_le_of_cast_mul pi (show (n : Rat) * p2 i ≤ m * p2 i by grind)
      omega
    · exfalso
      rcases k2 with k | k
      · have hi : -149 ≤ j := by rcases k4 with k | k <;> omega
        omega
      · have e1 : p2 (j + 1) ≤ p2 i := p2_mono (by omega)
        rw [p2_succ] at e1
        have e2 : (n : Rat) < 16777216 := by
          have : n < 16777216 := by rcases k4 with k | k <;> omega
          have := Rat.natCast_lt_natCast.2 this
          push_cast at this
          exact this
        have e3 : (8388608 : Rat) ≤ m := by
          have := Rat.natCast_le_natCast.2 k.1
          push_cast at this
          exact this
        have e4 := Rat.mul_lt_mul_of_pos_right e2 pj
        have e5 := Rat.mul_le_mul_of_nonneg_right e3 (Rat.le_of_lt pi)
        grind
  obtain ⟨rfl, rfl⟩ := hmn
  have hss : decide (2147483648 ≤ a) = decide (2147483648 ≤ b) := by rw [← k1, ← k3]
  simp only [decide_eq_decide] at hss
  rcases k2 with k | k <;> rcases k4 with k' | k' <;> omega
theorem fop_lt (op : BinOp) (a b : Nat) : fop op a b < 4294967296 := by
  unfold fop
  cases h : floatBits op .f32 a b with
  | none => decide
  | some r =>
    have hw := floatBits_wf h
    simp [Lit.wf] at hw
    simpa using hw
/-- A number less itself is the zero without a sign. -/
theorem fsub_self {a : Nat} (fa : F32 a) : fop .sub a a = 0 := by
  obtain ⟨s, m, i, ea⟩ := fa
  unfold fop
  have h : floatBits .sub .f32 a a = Ieee.single.sub a a := rfl
  rw [h]
  unfold Ieee.Format.sub
  rw [ea]
  simp only [Ieee.Datum.opposite, Ieee.Datum.sum]
  have ht : Ieee.signed s m (i - min i i).toNat + Ieee.signed (!s) m (i - min i i).toNat = 0 := by
    unfold Ieee.signed
    cases s <;> simp <;> omega
  rw [ht]
  have hz : (s && !s) = false := by cases s <;> rfl
  simp [hz, Ieee.Format.write, Ieee.Format.nearest, Ieee.Format.word]
/-- Differences of points in 64ths depend on the difference alone. -/
theorem sub_moved {m n d : Int} (h1 : -262144 ≤ m ∧ m ≤ 262144) (h2 : -262144 ≤ n ∧ n ≤ 262144) (h3 : -262144 ≤ m + d ∧ m + d ≤ 262144) (h4 : -262144 ≤ n + d ∧ n + d ≤ 262144) :
    fop .sub (wq (m + d)) (wq (n + d)) = fop .sub (wq m) (wq n) := by
  have qm := (wq_ok (n := m) (by omega) (by omega)).2
  have qn := (wq_ok (n := n) (by omega) (by omega)).2
  have qm' := (wq_ok (n := m + d) (by omega) (by omega)).2
  have qn' := (wq_ok (n := n + d) (by omega) (by omega)).2
  by_cases e : m = n
  · subst e
    rw [fsub_self qm'.1, fsub_self qm.1]
  · obtain ⟨_, s1⟩ := qm.sub qn (by omega) (by omega)
    obtain ⟨_, s2⟩ := qm'.sub qn' (by omega) (by omega)
    have e2 : m + d - (n + d) = m - n := by omega
    rw [e2] at s2
    refine word_uniq (fop_lt _ _ _) (fop_lt _ _ _) s2.1 s1.1 ?_ (by rw [s1.2, s2.2])
    rw [s2.2]
    have : ((m - n : Int) : Rat) ≠ 0 := by
      intro hc
      have : m - n = 0 := by exact_mod_cast hc
      omega
    grind

/-! ### an edge's additions -/
section
variable {m1 m2 m3 m4 : Int}
/-- How many rows a line has. -/
def rowsOf (H m2 m4 : Int) : Nat := (imin H ((8 * m4 + 511) / 512) - 8 * m2 / 512).toNat
theorem fixUpL_is (h : Span m1 m2 m3 m4) (s : Bool) (W : Nat) (H : Int) :
    fixUpL s W H (wq m1) (wq m2) (wq m3) (wq m4) = (⟨8 * m2, 8 * m4, if s then -1 else 1, slopeW m1 m2 m3 m4⟩ : FL).adds W (rowsOf H m2 m4) (8 * m2 / 512) (8 * m1) := by
  unfold fixUpL
  rw [h.goes, if_neg (by decide), h.fxl_is, fint8of h.q1 h.a1]
  have e1 : fxBeg (wq m2) = 8 * m2 / 512 := by unfold fxBeg; rw [fint8of h.q2 h.a2]
  have e2 : fxEnd (wq m4) H = imin H ((8 * m4 + 511) / 512) := by unfold fxEnd imin; rw [fint8of h.q4 h.a4]
  rw [e1, e2]
  rfl
end
def Small (q : Pt) : Prop := (-262144 ≤ q.1 ∧ q.1 ≤ 262144) ∧ (-262144 ≤ q.2 ∧ q.2 ≤ 262144)
theorem edgeL_down (W : Nat) (H : Int) {a b : Pt} (ha : Small a) (hb : Small b) (h : a.2 < b.2) :
    edgeL W H (a, b) = (⟨8 * a.2, 8 * b.2, 1, slopeW a.1 a.2 b.1 b.2⟩ : FL).adds W (rowsOf H a.2 b.2) (8 * a.2 / 512) (8 * a.1) := by
  have hs : Span a.1 a.2 b.1 b.2 := ⟨ha.1, ha.2, hb.1, hb.2, h⟩
  unfold edgeL fixLineL
  rw [if_neg (by rw [fgt_iff hs.q2.1 hs.q4.1, hs.q4.lt_iff hs.q2]; omega)]
  exact fixUpL_is hs false W H
theorem edgeL_up (W : Nat) (H : Int) {a b : Pt} (ha : Small a) (hb : Small b) (h : b.2 < a.2) :
    edgeL W H (a, b) = (⟨8 * b.2, 8 * a.2, -1, slopeW b.1 b.2 a.1 a.2⟩ : FL).adds W (rowsOf H b.2 a.2) (8 * b.2 / 512) (8 * b.1) := by
  have hs : Span b.1 b.2 a.1 a.2 := ⟨hb.1, hb.2, ha.1, ha.2, h⟩
  unfold edgeL fixLineL
  rw [if_pos (by rw [fgt_iff hs.q4.1 hs.q2.1, hs.q2.lt_iff hs.q4]; omega)]
  exact fixUpL_is hs true W H
theorem edgeL_flat (W : Nat) (H : Int) {a b : Pt} (ha : Small a) (hb : Small b) (h : a.2 = b.2) : edgeL W H (a, b) = [] := by
  have q2 := (wq_ok (n := a.2) (by have := ha.2; omega) (by have := ha.2; omega)).2
  unfold edgeL fixLineL
  simp only
  rw [← h, if_neg (by rw [fgt_iff q2.1 q2.1]; grind)]
  unfold fixUpL
  rw [fsub_self q2.1, if_pos]
  rw [fle_iff fzero.1 cTiny.1, fzero.2]
  have := cTiny.2.1
  grind

/-! ### moving -/
section
variable {W p p' : Nat} {y dx dy : Int}
/-- One place: moved as the pixel. -/
theorem place_moved (hy : 0 ≤ y) (hy' : 0 ≤ y + dy) (hp : (p' : Int) = p + dy * W + dx) {c c' : Int} (hc' : c' = c + dx) (h1 : 0 ≤ c) (h2 : c ≤ W) (h3 : 0 ≤ c') (h4 : c' ≤ W) :
    (y + dy).toNat * W + clampN c' W ≤ p' ↔ y.toNat * W + clampN c W ≤ p := by
  have e1 : (((y + dy).toNat * W : Nat) : Int) = y * W + dy * W := by
    push_cast
    rw [Int.toNat_of_nonneg hy', Int.add_mul]
  have e2 : ((y.toNat * W : Nat) : Int) = y * W := by
    push_cast
    rw [Int.toNat_of_nonneg hy]
  have k1 : ((clampN c' W : Nat) : Int) = c' := by unfold clampN; split <;> (try split) <;> omega
  have k2 : ((clampN c W : Nat) : Int) = c := by unfold clampN; split <;> (try split) <;> omega
  generalize (y + dy).toNat * W = A at *
  generalize y.toNat * W = B at *
  generalize y * (W : Int) = C at *
  generalize dy * (W : Int) = D at *
  omega
theorem sum1_moved (hy : 0 ≤ y) (hy' : 0 ≤ y + dy) (hp : (p' : Int) = p + dy * W + dx) {c c' v v' : Int} (hc' : c' = c + dx) (h1 : 0 ≤ c) (h2 : c ≤ W) (h3 : 0 ≤ c') (h4 : c' ≤ W) (hv : v' = v) :
    (if (y + dy).toNat * W + clampN c' W ≤ p' then v' else 0) = (if y.toNat * W + clampN c W ≤ p then v else 0) := by
  rw [hv]
  simp only [place_moved hy hy' hp hc' h1 h2 h3 h4]
theorem fill_moved (hy : 0 ≤ y) (hy' : 0 ≤ y + dy) (hp : (p' : Int) = p + dy * W + dx) {c c' v v' : Int} (hc' : c' = c + dx) (h1 : 0 ≤ c) (h3 : 0 ≤ c') (hv : v' = v) :
    ∀ j : Nat, c + j ≤ W + 1 → c' + j ≤ W + 1 → sumTo (fillL ((y + dy).toNat * W) W c' v' j) p' = sumTo (fillL (y.toNat * W) W c v j) p
  | 0, _, _ => rfl
  | j + 1, h2, h4 => by
    rw [fillL, fillL, sumTo_append, sumTo_append, fill_moved hy hy' hp hc' h1 h3 hv j (by omega) (by omega)]
    simp only [sumTo, Int.add_zero]
    rw [sum1_moved hy hy' hp (c := c + j) (c' := c' + j) (by omega) (by omega) (by omega) (by omega) (by omega) hv]
theorem row_moved (hy : 0 ≤ y) (hy' : 0 ≤ y + dy) (hp : (p' : Int) = p + dy * W + dx) {x xn d : Int} (h1 : 0 ≤ x) (h2 : x ≤ 512 * W) (h3 : 0 ≤ xn) (h4 : xn ≤ 512 * W)
    (k1 : 0 ≤ x + 512 * dx) (k2 : x + 512 * dx ≤ 512 * W) (k3 : 0 ≤ xn + 512 * dx) (k4 : xn + 512 * dx ≤ 512 * W) :
    sumTo (rowL W ((y + dy).toNat * W) (x + 512 * dx) (xn + 512 * dx) d) p' = sumTo (rowL W (y.toNat * W) x xn d) p := by
  have e1 : imin (x + 512 * dx) (xn + 512 * dx) = imin x xn + 512 * dx := by unfold imin; split <;> split <;> omega
  have e2 : imax (x + 512 * dx) (xn + 512 * dx) = imax x xn + 512 * dx := by unfold imax; split <;> split <;> omega
  have e3 : (imin x xn + 512 * dx) / 512 = imin x xn / 512 + dx := by omega
  have e4 : (imax x xn + 512 * dx + 511) / 512 = (imax x xn + 511) / 512 + dx := by omega
  have e5 : imax x xn + 512 * dx - (imin x xn + 512 * dx) = imax x xn - imin x xn := by omega
  have e6 : imin x xn + 512 * dx - (imin x xn / 512 + dx) * 512 = imin x xn - imin x xn / 512 * 512 := by omega
  have e7 : imax x xn + 512 * dx - ((imax x xn + 511) / 512 + dx) * 512 = imax x xn - (imax x xn + 511) / 512 * 512 := by omega
  have e8 : (x + 512 * dx + (xn + 512 * dx)) / 2 - (imin x xn / 512 + dx) * 512 = (x + xn) / 2 - imin x xn / 512 * 512 := by omega
  have b1 : 0 ≤ imin x xn := by unfold imin; split <;> omega
  have b2 : imax x xn ≤ 512 * W := by unfold imax; split <;> omega
  have b3 : imin x xn ≤ imax x xn := imin_le_imax x xn
  have b4 : 0 ≤ imin x xn + 512 * dx := by unfold imin; split <;> omega
  have b5 : imax x xn + 512 * dx ≤ 512 * W := by unfold imax; split <;> omega
  have b6 : imin x xn ≤ x ∧ imin x xn ≤ xn ∧ x ≤ imax x xn ∧ xn ≤ imax x xn := by unfold imin imax; split <;> split <;> omega
  unfold rowL
  simp only
  rw [e1, e2, e3, e4, e5, e6, e7, e8]
  generalize imin x xn = lo at *
  generalize imax x xn = hi at *
  by_cases hn : (hi + 511) / 512 ≤ lo / 512 + 1
  · rw [if_pos (by omega), if_pos hn]
    simp only [sumTo, Int.add_zero]
    rw [sum1_moved hy hy' hp (c := lo / 512) (c' := lo / 512 + dx) rfl (by omega) (by omega) (by omega) (by omega) rfl]
    by_cases hw : lo / 512 + 1 ≤ W ∧ lo / 512 + dx + 1 ≤ W
    · rw [sum1_moved hy hy' hp (c := lo / 512 + 1) (c' := lo / 512 + dx + 1) (by omega) (by omega) (by omega) (by omega) (by omega) rfl]
    · have hz : (x + xn) / 2 - lo / 512 * 512 = 0 := by omega
      rw [hz]
      have hz2 : wrap32 (d * 0) = 0 := by rw [Int.mul_zero]; unfold wrap32; omega
      rw [hz2]
      simp
  · rw [if_neg (by omega), if_neg hn]
    rw [sumTo, sumTo]
    rw [sum1_moved hy hy' hp (c := lo / 512) (c' := lo / 512 + dx) rfl (by omega) (by omega) (by omega) (by omega) rfl]
    rw [sumTo_append, sumTo_append]
    congr 1
    by_cases h2' : (hi + 511) / 512 = lo / 512 + 2
    · rw [if_pos (by omega), if_pos h2']
      simp only [sumTo, Int.add_zero]
      rw [sum1_moved hy hy' hp (c := lo / 512 + 1) (c' := lo / 512 + dx + 1) (by omega) (by omega) (by omega) (by omega) (by omega) rfl]
      rw [sum1_moved hy hy' hp (c := (hi + 511) / 512) (c' := (hi + 511) / 512 + dx) rfl (by omega) (by omega) (by omega) (by omega) rfl]
    · rw [if_neg (by omega), if_neg h2']
      have ej : ((hi + 511) / 512 + dx - 1 - (lo / 512 + dx + 2)).toNat = ((hi + 511) / 512 - 1 - (lo / 512 + 2)).toNat := by omega
      rw [ej]
      simp only [sumTo, sumTo_append, Int.add_zero]
      rw [sum1_moved hy hy' hp (c := lo / 512 + 1) (c' := lo / 512 + dx + 1) (by omega) (by omega) (by omega) (by omega) (by omega) rfl]
      rw [fill_moved hy hy' hp (c := lo / 512 + 2) (c' := lo / 512 + dx + 2) (by omega) (by omega) (by omega) rfl _ (by omega) (by omega)]
      rw [sum1_moved hy hy' hp (c := (hi + 511) / 512 - 1) (c' := (hi + 511) / 512 + dx - 1) (by omega) (by omega) (by omega) (by omega) (by omega) rfl]
      rw [sum1_moved hy hy' hp (c := (hi + 511) / 512) (c' := (hi + 511) / 512 + dx) rfl (by omega) (by omega) (by omega) (by omega) rfl]
end

theorem imin_add (a b c : Int) : imin (a + c) (b + c) = imin a b + c := by unfold imin; split <;> split <;> omega
theorem imax_add (a b c : Int) : imax (a + c) (b + c) = imax a b + c := by unfold imax; split <;> split <;> omega
theorem dy_moved (A E dir dir' : Int) (dd : Nat) (y dy : Int) : (⟨A + 512 * dy, E + 512 * dy, dir', dd⟩ : FL).dy (y + dy) = (⟨A, E, dir, dd⟩ : FL).dy y := by
  unfold FL.dy
  simp only
  rw [show (y + dy + 1) * 512 = (y + 1) * 512 + 512 * dy by omega, show (y + dy) * 512 = y * 512 + 512 * dy by omega, imin_add, imax_add]
  omega
theorem dx_moved (A E dir dir' : Int) (dd : Nat) (y dy : Int) : (⟨A + 512 * dy, E + 512 * dy, dir', dd⟩ : FL).dx (y + dy) = (⟨A, E, dir, dd⟩ : FL).dx y := by
  unfold FL.dx
  rw [dy_moved A E dir dir' dd]
section
variable {W p p' : Nat} {dx dy m1 m2 m3 m4 : Int}
theorem adds_moved (hp : (p' : Int) = p + dy * W + dx) (h : Span m1 m2 m3 m4) (dir : Int)
    (c1 : 0 ≤ m1 ∧ m1 ≤ 64 * W) (c3 : 0 ≤ m3 ∧ m3 ≤ 64 * W) (c1' : 0 ≤ m1 + 64 * dx ∧ m1 + 64 * dx ≤ 64 * W) (c3' : 0 ≤ m3 + 64 * dx ∧ m3 + 64 * dx ≤ 64 * W) (hW : W ≤ 2000) (c2 : 0 ≤ m2) (c2' : 0 ≤ m2 + 64 * dy) :
    ∀ (k n : Nat) (y x : Int), On m1 m2 m3 m4 n y x → 8 * m2 / 512 ≤ y → y + k ≤ (8 * m4 + 511) / 512 → n + k ≤ 100000 →
      sumTo ((⟨8 * m2 + 512 * dy, 8 * m4 + 512 * dy, dir, slopeW m1 m2 m3 m4⟩ : FL).adds W k (y + dy) (x + 512 * dx)) p' = sumTo ((⟨8 * m2, 8 * m4, dir, slopeW m1 m2 m3 m4⟩ : FL).adds W k y x) p
  | 0, _, _, _, _, _, _, _ => rfl
  | k + 1, n, y, x, ho, h1, h2, h3 => by
    have ho' := ho.next h (dir := dir) h1 (by omega)
    obtain ⟨w1, w2⟩ := ho.within h (by omega) (by omega) (by omega)
    obtain ⟨w3, w4⟩ := ho'.within h (by omega) (by omega) (by omega)
    have ih := adds_moved hp h dir c1 c3 c1' c3' hW c2 c2' k (n + 1) (y + 1) _ ho' (by omega) (by omega) (by omega)
    have hy : 0 ≤ y := by omega
    have hy' : 0 ≤ y + dy := by omega
    have l1 : 0 ≤ imin (8 * m1) (8 * m3) ∧ imax (8 * m1) (8 * m3) ≤ 512 * W := by unfold imin imax; split <;> split <;> omega
    have l2 : 0 ≤ imin (8 * m1) (8 * m3) + 512 * dx ∧ imax (8 * m1) (8 * m3) + 512 * dx ≤ 512 * W := by unfold imin imax; split <;> split <;> omega
    rw [FL.adds, FL.adds, sumTo_append, sumTo_append, if_neg (by omega), if_neg (by omega), dx_moved _ _ dir, dy_moved _ _ dir]
    have e1 : x + 512 * dx + (⟨8 * m2, 8 * m4, dir, slopeW m1 m2 m3 m4⟩ : FL).dx y = x + (⟨8 * m2, 8 * m4, dir, slopeW m1 m2 m3 m4⟩ : FL).dx y + 512 * dx := by omega
    have e2 : y + dy + 1 = y + 1 + dy := by omega
    rw [e1, e2, ih]
    congr 1
    generalize x + (⟨8 * m2, 8 * m4, dir, slopeW m1 m2 m3 m4⟩ : FL).dx y = xn at *
    exact row_moved hy hy' hp (by omega) (by omega) (by omega) (by omega) (by omega) (by omega) (by omega) (by omega)
end
/-- A point moved by whole pixels. -/
def mv (dx dy : Int) (q : Pt) : Pt := (q.1 + 64 * dx, q.2 + 64 * dy)
def Within (W H : Nat) (q : Pt) : Prop := (0 ≤ q.1 ∧ q.1 ≤ 64 * W) ∧ (0 ≤ q.2 ∧ q.2 ≤ 64 * H)
theorem Within.small {W H : Nat} {q : Pt} (h : Within W H q) (hW : W ≤ 2000) (hH : H ≤ 2000) : Small q := by
  obtain ⟨a, b⟩ := h
  exact ⟨by omega, by omega⟩
theorem slopeW_moved {m1 m2 m3 m4 dx dy : Int} (h1 : -262144 ≤ m1 ∧ m1 ≤ 262144) (h2 : -262144 ≤ m2 ∧ m2 ≤ 262144) (h3 : -262144 ≤ m3 ∧ m3 ≤ 262144) (h4 : -262144 ≤ m4 ∧ m4 ≤ 262144)
    (k1 : -262144 ≤ m1 + dx ∧ m1 + dx ≤ 262144) (k2 : -262144 ≤ m2 + dy ∧ m2 + dy ≤ 262144) (k3 : -262144 ≤ m3 + dx ∧ m3 + dx ≤ 262144) (k4 : -262144 ≤ m4 + dy ∧ m4 + dy ≤ 262144) :
    slopeW (m1 + dx) (m2 + dy) (m3 + dx) (m4 + dy) = slopeW m1 m2 m3 m4 := by
  unfold slopeW
  rw [sub_moved h3 h1 k3 k1, sub_moved h4 h2 k4 k2]
section
variable {W H p p' : Nat} {dx dy : Int} (hp : (p' : Int) = p + dy * W + dx) (hW : W ≤ 2000) (hH : H ≤ 2000)
include hp hW hH
theorem line_moved {a b : Pt} (dir : Int) (ha : Within W H a) (hb : Within W H b) (ha' : Within W H (mv dx dy a)) (hb' : Within W H (mv dx dy b)) (h : a.2 < b.2) :
    sumTo ((⟨8 * (mv dx dy a).2, 8 * (mv dx dy b).2, dir, slopeW (mv dx dy a).1 (mv dx dy a).2 (mv dx dy b).1 (mv dx dy b).2⟩ : FL).adds W (rowsOf H (mv dx dy a).2 (mv dx dy b).2) (8 * (mv dx dy a).2 / 512) (8 * (mv dx dy a).1)) p' =
      sumTo ((⟨8 * a.2, 8 * b.2, dir, slopeW a.1 a.2 b.1 b.2⟩ : FL).adds W (rowsOf H a.2 b.2) (8 * a.2 / 512) (8 * a.1)) p := by
  have sa := ha.small hW hH
  have sb := hb.small hW hH
  have sa' := ha'.small hW hH
  have sb' := hb'.small hW hH
  obtain ⟨ha1, ha2⟩ := ha
  obtain ⟨hb1, hb2⟩ := hb
  obtain ⟨ha1', ha2'⟩ := ha'
  obtain ⟨hb1', hb2'⟩ := hb'
  have hs : Span a.1 a.2 b.1 b.2 := ⟨sa.1, sa.2, sb.1, sb.2, h⟩
  unfold mv at *
  simp only at *
  have er : rowsOf H (a.2 + 64 * dy) (b.2 + 64 * dy) = rowsOf H a.2 b.2 := by unfold rowsOf imin; split <;> split <;> omega
  have hr : 8 * a.2 / 512 + (rowsOf H a.2 b.2 : Int) ≤ (8 * b.2 + 511) / 512 := by unfold rowsOf imin; split <;> omega
  have hr2 : rowsOf H a.2 b.2 ≤ 100000 := by unfold rowsOf imin; split <;> omega
  rw [er, slopeW_moved sa.1 sa.2 sb.1 sb.2 sa'.1 sa'.2 sb'.1 sb'.2]
  rw [show 8 * (a.2 + 64 * dy) / 512 = 8 * a.2 / 512 + dy by omega, show 8 * (a.2 + 64 * dy) = 8 * a.2 + 512 * dy by omega, show 8 * (b.2 + 64 * dy) = 8 * b.2 + 512 * dy by omega,
    show 8 * (a.1 + 64 * dx) = 8 * a.1 + 512 * dx by omega]
  exact adds_moved hp hs dir ha1 hb1 ha1' hb1' hW ha2.1 ha2'.1 _ 0 _ _ (On.first hs) (Int.le_refl _) hr (by omega)
theorem edge_moved {a b : Pt} (ha : Within W H a) (hb : Within W H b) (ha' : Within W H (mv dx dy a)) (hb' : Within W H (mv dx dy b)) :
    sumTo (edgeL W H (mv dx dy a, mv dx dy b)) p' = sumTo (edgeL W H (a, b)) p := by
  have sa := ha.small hW hH
  have sb := hb.small hW hH
  have sa' := ha'.small hW hH
  have sb' := hb'.small hW hH
  have e : (mv dx dy a).2 = a.2 + 64 * dy ∧ (mv dx dy b).2 = b.2 + 64 * dy := ⟨rfl, rfl⟩
  rcases Int.lt_trichotomy a.2 b.2 with h | h | h
  · rw [edgeL_down W H sa sb h, edgeL_down W H sa' sb' (by omega)]
    exact line_moved hp hW hH 1 ha hb ha' hb' h
  · rw [edgeL_flat W H sa sb h, edgeL_flat W H sa' sb' (by omega)]
    rfl
  · rw [edgeL_up W H sa sb h, edgeL_up W H sa' sb' (by omega)]
    exact line_moved hp hW hH (-1) hb ha hb' ha' h
theorem edgesFrom_moved : ∀ (t : List Pt) (first cur : Pt), Within W H first → Within W H (mv dx dy first) → Within W H cur → Within W H (mv dx dy cur) → (∀ q ∈ t, Within W H q ∧ Within W H (mv dx dy q)) →
    sumTo (edgesL W H (edgesFrom (mv dx dy first) (mv dx dy cur) (t.map (mv dx dy)))) p' = sumTo (edgesL W H (edgesFrom first cur t)) p
  | [], first, cur, h1, h2, h3, h4, _ => by
    simp only [List.map_nil, edgesFrom, edgesL, List.append_nil]
    exact edge_moved hp hW hH h3 h1 h4 h2
  | q :: t, first, cur, h1, h2, h3, h4, h5 => by
    simp only [List.map_cons, edgesFrom, edgesL, sumTo_append]
    obtain ⟨h6, h7⟩ := h5 q (by simp)
    rw [edge_moved hp hW hH h3 h6 h4 h7, edgesFrom_moved t first q h1 h2 h6 h7 fun q' hq => h5 q' (by simp [hq])]
end
/-- The mask of a path moved, pixel by pixel. -/
theorem moved_law {W H : Nat} (hW : W ≤ 2000) (hH : H ≤ 2000) {pts : List Pt} (hne : pts ≠ []) {dx dy : Int} (h : ∀ q ∈ pts, Within W H q ∧ Within W H (mv dx dy q)) {p p' : Nat} (hp : (p' : Int) = p + dy * W + dx) (h1 : p < W * H) (h2 : p' < W * H) :
    (maskR false W H (pathOps (pts.map (mv dx dy))))[p']? = (maskR false W H (pathOps pts))[p]? := by
  cases pts with
  | nil => exact absurd rfl hne
  | cons a t =>
    rw [maskR_fix W H (by simp), maskR_fix W H (by simp), fixMask_at _ _ _ h2, fixMask_at _ _ _ h1]
    obtain ⟨h6, h7⟩ := h a (by simp)
    have := edgesFrom_moved hp hW hH t a a h6 h7 h6 h7 fun q hq => h q (by simp [hq])
    simp only [List.map_cons, edges]
    rw [this]
end Go.Proofs.Ytmgcbodlolnheaa
