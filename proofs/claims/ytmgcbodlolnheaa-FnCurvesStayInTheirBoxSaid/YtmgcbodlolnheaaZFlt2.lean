/-
  Floating point: comparing, whole numbers, conversions. No program is named here.
-/
import Derived.Test.YtmgcbodlolnheaaZFlt
namespace Go.Proofs.Ytmgcbodlolnheaa
namespace Flt
open Ieee

/-- How two finite numbers compare. -/
theorem order_val {f : Format} {a b : Nat} (ha : Fin f a) (hb : Fin f b) :
    f.order a b = some (if fval f a < fval f b then .lt else if fval f a = fval f b then .eq else .gt) := by
  obtain ⟨s, m, i, ea⟩ := ha
  obtain ⟨t, n, j, eb⟩ := hb
  unfold Format.order fval
  rw [ea, eb]
  have h1 := signed_val s m (i - min i j).toNat
  have h2 := signed_val t n (j - min i j).toNat
  have e1 : p2 i = p2 ((i - min i j).toNat : Int) * p2 (min i j) := by rw [← p2_add]; congr 1; omega
  have e2 : p2 j = p2 ((j - min i j).toNat : Int) * p2 (min i j) := by rw [← p2_add]; congr 1; omega
  have hp := p2_pos (min i j)
  have v1 : dval (.number s m i) = (signed s m (i - min i j).toNat : Int) * p2 (min i j) := by rw [h1]; simp only [dval]; rw [e1]; grind
  have v2 : dval (.number t n j) = (signed t n (j - min i j).toNat : Int) * p2 (min i j) := by rw [h2]; simp only [dval]; rw [e2]; grind
  rw [v1, v2]
  simp only [Datum.order]
  generalize signed s m (i - min i j).toNat = X
  generalize signed t n (j - min i j).toNat = Y
  congr 1
  have l1 : ((X : Rat) * p2 (min i j) < Y * p2 (min i j)) ↔ X < Y := by
    rw [Rat.mul_lt_mul_right hp]
    exact_mod_cast Iff.rfl
  have l2 : ((X : Rat) * p2 (min i j) = Y * p2 (min i j)) ↔ X = Y := by
    constructor
    · intro h
      have ha := int_le_of_cast_mul hp (show (X : Rat) * p2 (min i j) ≤ Y * p2 (min i j) by grind)
      have hb := int_le_of_cast_mul hp (show (Y : Rat) * p2 (min i j) ≤ X * p2 (min i j) by grind)
      omega
    · rintro rfl; rfl
  simp only [l1, l2]
  exact rfl

/-- A whole number as a float. -/
theorem int_rounds {f : Format} (hgood : Good f) (n : Int) (hbig : ab (n : Rat) ≤ p2 (big f)) : Rounds f (n : Rat) (f.write (.number (decide (n < 0)) n.natAbs 0)) := by
  have hv : dval (.number (decide (n < 0)) n.natAbs 0) = (n : Rat) := by
    simp only [dval, p2_zero, Rat.mul_one]
    by_cases hn : n < 0
    · have e3 : ((n.natAbs : Int) : Rat) = ((-n : Int) : Rat) := by congr 1; omega
      rw [Rat.intCast_natCast] at e3
      rw [e3]
      simp [sgn, hn]
      grind
    · have e3 : ((n.natAbs : Int) : Rat) = ((n : Int) : Rat) := by congr 1; omega
      rw [Rat.intCast_natCast] at e3
      rw [e3]
      simp [sgn, hn]
  have := write_rounds' hgood (decide (n < 0)) n.natAbs 0 (by rw [hv]; exact hbig)
  rwa [hv] at this

/-! ### to whole numbers -/
/-- Cut towards zero. -/
def truncR (x : Rat) : Int := if 0 ≤ x then x.floor else -(-x).floor
theorem shift_floor (m : Nat) (e : Int) : (((m <<< e.toNat) / 2 ^ (-e).toNat : Nat) : Int) = ((m : Rat) * p2 e).floor := by
  rw [Nat.shiftLeft_eq]
  have key : (m : Rat) * p2 e * ((2 ^ (-e).toNat : Nat) : Rat) = ((m * 2 ^ e.toNat : Nat) : Rat) := by
    rcases Int.le_total 0 e with h | h
    · have e1 : (-e).toNat = 0 := by omega
      have e2 : p2 e = ((2 ^ e.toNat : Nat) : Rat) := by rw [← p2_nat]; congr 1; omega
      rw [e1, e2]
      push_cast
      grind
    · have e1 : e.toNat = 0 := by omega
      have e2 : p2 e * ((2 ^ (-e).toNat : Nat) : Rat) = 1 := by
        rw [← p2_nat, ← p2_add, show e + ((-e).toNat : Int) = 0 by omega, p2_zero]
      rw [e1, Rat.mul_assoc, e2]
      simp
  have hg : (0 : Rat) < ((2 ^ (-e).toNat : Nat) : Rat) := by have := Nat.two_pow_pos (-e).toNat; exact_mod_cast this
  have hgn : 0 < 2 ^ (-e).toNat := Nat.two_pow_pos _
  generalize 2 ^ (-e).toNat = g at *
  generalize m * 2 ^ e.toNat = M at *
  generalize (m : Rat) * p2 e = X at *
  have h1 := Nat.div_add_mod M g
  have h2 := Nat.mod_lt M hgn
  generalize M / g = q at *
  generalize M % g = r at *
  symm
  have hr0 : (0 : Rat) ≤ r := Rat.natCast_nonneg
  have hr1 : (r : Rat) < g := by exact_mod_cast h2
  have hM : (M : Rat) = g * q + r := by rw [← h1]; push_cast; rfl
  have l1 : (q : Rat) ≤ X := by
    refine Rat.le_of_mul_le_mul_right (c := g) ?_ hg
    grind
  have l2 : X < q + 1 := by
    refine Rat.lt_of_mul_lt_mul_right (c := (g : Rat)) ?_ (Rat.le_of_lt hg)
    grind
  have a1 : (q : Int) ≤ X.floor := by
    rw [Rat.le_floor_iff]
    rw [Rat.intCast_natCast]
    exact l1
  have a2 : X.floor < (q : Int) + 1 := by
    rw [Rat.floor_lt_iff]
    push_cast
    exact l2
  omega
theorem cut_parts (n drop : Nat) : n / (1 <<< min drop (n.log2 + 2)) = n / 2 ^ drop ∧ (n % (1 <<< min drop (n.log2 + 2)) = 0 ↔ n % 2 ^ drop = 0) := by
  rw [Nat.shiftLeft_eq, Nat.one_mul]
  rcases Nat.le_total drop (n.log2 + 2) with h | h
  · rw [Nat.min_eq_left h]
    exact ⟨rfl, Iff.rfl⟩
  · rw [Nat.min_eq_right h]
    have hlt : n < 2 ^ (n.log2 + 1) := Nat.lt_log2_self
    have h1 : 2 ^ (n.log2 + 1) ≤ 2 ^ (n.log2 + 2) := Nat.pow_le_pow_right (by decide) (by omega)
    have h2 : 2 ^ (n.log2 + 2) ≤ 2 ^ drop := Nat.pow_le_pow_right (by decide) h
    rw [Nat.div_eq_of_lt (by omega), Nat.div_eq_of_lt (by omega), Nat.mod_eq_of_lt (by omega), Nat.mod_eq_of_lt (by omega)]
    exact ⟨rfl, Iff.rfl⟩
/-- What is left over tells whether the number is whole. -/
theorem shift_rest (m : Nat) (e : Int) : (m <<< e.toNat) % 2 ^ (-e).toNat = 0 ↔ (((m : Rat) * p2 e).floor : Rat) = (m : Rat) * p2 e := by
  rw [← shift_floor, Nat.shiftLeft_eq]
  have key : (m : Rat) * p2 e * ((2 ^ (-e).toNat : Nat) : Rat) = ((m * 2 ^ e.toNat : Nat) : Rat) := by
    rcases Int.le_total 0 e with h | h
    · have e1 : (-e).toNat = 0 := by omega
      have e2 : p2 e = ((2 ^ e.toNat : Nat) : Rat) := by rw [← p2_nat]; congr 1; omega
      rw [e1, e2]
      push_cast
      grind
    · have e1 : e.toNat = 0 := by omega
      have e2 : p2 e * ((2 ^ (-e).toNat : Nat) : Rat) = 1 := by
        rw [← p2_nat, ← p2_add, show e + ((-e).toNat : Int) = 0 by omega, p2_zero]
      rw [e1, Rat.mul_assoc, e2]
      simp
  have hg : (0 : Rat) < ((2 ^ (-e).toNat : Nat) : Rat) := by have := Nat.two_pow_pos (-e).toNat; exact_mod_cast this
  generalize 2 ^ (-e).toNat = g at *
  generalize m * 2 ^ e.toNat = M at *
  generalize (m : Rat) * p2 e = X at *
  have h1 := Nat.div_add_mod M g
  rw [Rat.intCast_natCast]
  generalize M / g = q at *
  generalize M % g = r at *
  have hM : (M : Rat) = g * q + r := by rw [← h1]; push_cast; rfl
  constructor
  · rintro rfl
    have : (q : Rat) * g = X * g := by grind
    have h3 := Rat.le_of_mul_le_mul_right (a := (q : Rat)) (b := X) (c := g) (by grind) hg
    have h4 := Rat.le_of_mul_le_mul_right (a := X) (b := (q : Rat)) (c := g) (by grind) hg
    grind
  · intro h
    have : (r : Rat) = 0 := by rw [← h] at key; grind
    exact_mod_cast this
theorem floor_neg (x : Rat) : (-x).floor = -(x.floor + if (x.floor : Rat) = x then 0 else 1) := by
  have h1 := Rat.floor_le x
  have h2 := Rat.lt_floor_add_one x
  by_cases hx : (x.floor : Rat) = x
  · rw [if_pos hx]
    have : -x = ((-x.floor : Int) : Rat) := by push_cast; grind
    rw [this, Rat.floor_intCast]
    omega
  · rw [if_neg hx]
    have a1 : -(x.floor + 1) ≤ (-x).floor := by
      rw [Rat.le_floor_iff]
      push_cast at h2 ⊢
      grind
    have a2 : (-x).floor < -(x.floor + 1) + 1 := by
      rw [Rat.floor_lt_iff]
      push_cast
      grind
    omega
/-- The whole number that a way of cutting gives. -/
def cutR (way : Toward) (x : Rat) : Int :=
  match way with
  | .down => x.floor
  | .up => -(-x).floor
  | _ => truncR x
theorem integral_val {way : Toward} (hway : way ≠ .even) (s : Bool) (m : Nat) (e : Int) :
    ∃ k : Nat, (Datum.number s m e).integral way = .number s k 0 ∧ signed s k 0 = cutR way (dval (.number s m e)) := by
  refine ⟨_, rfl, ?_⟩
  obtain ⟨c1, c2⟩ := cut_parts (m <<< e.toNat) (-e).toNat
  have h1 := shift_floor m e
  have h2 := shift_rest m e
  have hX : 0 ≤ (m : Rat) * p2 e := Rat.mul_nonneg Rat.natCast_nonneg (Rat.le_of_lt (p2_pos _))
  have hF : 0 ≤ ((m : Rat) * p2 e).floor := by rw [Rat.le_floor_iff]; simpa using hX
  have h3 := floor_neg ((m : Rat) * p2 e)
  have h4 : dval (.number s m e) = sgn s * ((m : Rat) * p2 e) := by simp only [dval]; grind
  rw [h4]
  unfold Toward.cut
  simp only
  rw [c1]
  generalize hr : (m <<< e.toNat) % (1 <<< min (-e).toNat ((m <<< e.toNat).log2 + 2)) = R at *
  generalize (m <<< e.toNat) % 2 ^ (-e).toNat = R2 at *
  generalize (m <<< e.toNat) / 2 ^ (-e).toNat = q at *
  generalize (m : Rat) * p2 e = X at *
  have hsg : ∀ k : Nat, signed true k 0 = -(k : Int) ∧ signed false k 0 = (k : Int) := fun k => by simp [signed, Nat.shiftLeft_eq]
  have e1 : sgn true * X = -X := by simp [sgn]; grind
  have e2 : sgn false * X = X := by simp [sgn]
  have hR : (R != 0) = true ↔ ¬ ((X.floor : Rat) = X) := by
    rw [bne_iff_ne]
    constructor
    · intro h h'
      exact h (c2.2 (h2.2 h'))
    · intro h h'
      exact h (h2.1 (c2.1 h'))
  have hz : X = 0 → X.floor = 0 := by
    rintro rfl
    exact Rat.floor_intCast 0
  cases way with
  | even => exact absurd rfl hway
  | zero =>
    cases s
    · rw [(hsg _).2, e2]
      simp only [cutR, truncR, if_pos hX, Bool.toNat_false]
      omega
    · rw [(hsg _).1, e1]
      simp only [cutR, truncR, Bool.toNat_false]
      by_cases hx0 : 0 ≤ -X
      · rw [if_pos hx0]
        have : X = 0 := by grind
        have h5 := hz this
        have h6 : (-X).floor = 0 := by rw [this]; exact Rat.floor_intCast 0
        omega
      · rw [if_neg hx0, Rat.neg_neg]
        omega
  | down =>
    cases s
    · rw [(hsg _).2, e2]
      simp only [cutR, Bool.false_and, Bool.toNat_false]
      omega
    · rw [(hsg _).1, e1]
      simp only [cutR, Bool.true_and]
      rw [h3]
      by_cases hx : (X.floor : Rat) = X
      · rw [if_pos hx]
        have : (R != 0) = false := by
          rw [Bool.eq_false_iff]
          exact fun h => (hR.1 h) hx
        rw [this]
        simp only [Bool.toNat_false]
        omega
      · rw [if_neg hx, hR.2 hx]
        simp only [Bool.toNat_true]
        omega
  | up =>
    cases s
    · rw [(hsg _).2, e2]
      simp only [cutR, Bool.not_false, Bool.true_and]
      rw [h3]
      by_cases hx : (X.floor : Rat) = X
      · rw [if_pos hx]
        have : (R != 0) = false := by
          rw [Bool.eq_false_iff]
          exact fun h => (hR.1 h) hx
        rw [this]
        simp only [Bool.toNat_false]
        omega
      · rw [if_neg hx, hR.2 hx]
        simp only [Bool.toNat_true]
        omega
    · rw [(hsg _).1, e1]
      simp only [cutR, Bool.not_true, Bool.false_and, Bool.toNat_false]
      rw [Rat.neg_neg]
      omega
theorem toInt_val {f : Format} {a : Nat} (ha : Fin f a) {way : Toward} (hway : way ≠ .even) : (f.read a).toInt way = some (cutR way (fval f a)) := by
  obtain ⟨s, m, e, ea⟩ := ha
  obtain ⟨k, h1, h2⟩ := integral_val hway s m e
  unfold fval
  rw [ea]
  unfold Datum.toInt
  rw [h1]
  simp only
  rw [h2]
/-- A float made whole, written as a float again. -/
theorem integral_float {f : Format} (hgood : Good f) {a : Nat} (ha : Fin f a) {way : Toward} (hway : way ≠ .even) (hbig : ab (cutR way (fval f a) : Rat) ≤ p2 (big f)) :
    Rounds f (cutR way (fval f a) : Rat) (f.write ((f.read a).integral way)) := by
  obtain ⟨s, m, e, ea⟩ := ha
  obtain ⟨k, h1, h2⟩ := integral_val hway s m e
  unfold fval at hbig ⊢
  rw [ea] at hbig ⊢
  rw [h1]
  have hv : dval (.number s k 0) = (cutR way (dval (.number s m e)) : Rat) := by
    rw [← h2, signed_val]
    simp [dval, p2_zero]
  have := write_rounds' hgood s k 0 (by rw [hv]; exact hbig)
  rwa [hv] at this

/-! ### from the narrower format to the wider -/
theorem read_bounds {f : Format} {w : Nat} {s : Bool} {m : Nat} {e : Int} (h : f.read w = .number s m e) : m ≤ 2 * f.binade ∧ f.leastPlace ≤ e := by
  have hb := binade_pos f
  unfold Format.read at h
  simp only at h
  split at h
  · injection h with h1 h2 h3
    omega
  · split at h
    · injection h with h1 h2 h3
      have := Nat.mod_lt (w % f.signWeight) hb
      omega
    · split at h <;> cases h
theorem val_rep {f : Format} {a : Nat} (ha : Fin f a) : Rep f (fval f a) := by
  obtain ⟨s, m, e, ea⟩ := ha
  obtain ⟨h1, h2⟩ := read_bounds ea
  unfold fval
  rw [ea]
  cases s
  · exact ⟨m, e, by simp [dval, sgn, Rat.intCast_natCast], by omega, by omega, h2⟩
  · exact ⟨-m, e, by simp [dval, sgn, Rat.intCast_natCast]; grind, by omega, by omega, h2⟩
end Flt
end Go.Proofs.Ytmgcbodlolnheaa
