/-
  The mean of a cut number between two places: what a line covers of a pixel in a row. No program is walked here.
  In the numbers of fixed point: what a row's additions come to, cell by cell, against the mean of the cut number. No program is walked here.
  The area that a closed path goes round in a pixel, edge by edge, row by row. No program is walked here.
  In the numbers of fixed point: what an edge gives to the sum up to a pixel is its area, but for so much. No program is walked here.
-/
import Derived.Test.YtmgcbodlolnheaaRows
import Derived.Test.YtmgcbodlolnheaaUpr
namespace Go.Proofs.Ytmgcbodlolnheaa
set_option linter.unusedVariables false

/-- A number, cut to be from 0 to 1. -/
def cl (z : Rat) : Rat := if z ≤ 0 then 0 else if z ≤ 1 then z else 1
/-- The sum of 'cl' up to there. -/
def kk (z : Rat) : Rat := if z ≤ 0 then 0 else if z ≤ 1 then z * z / 2 else z - 1 / 2
theorem cl_cases (z : Rat) : (z ≤ 0 ∧ cl z = 0 ∧ kk z = 0) ∨ (0 < z ∧ z ≤ 1 ∧ cl z = z ∧ kk z = z * z / 2) ∨ (1 < z ∧ cl z = 1 ∧ kk z = z - 1 / 2) := by
  unfold cl kk
  by_cases h : z ≤ 0
  · left; simp [h]
  · by_cases h1 : z ≤ 1
    · right; left; simp [h, h1]; grind
    · right; right; simp [h, h1]; grind
theorem cl_bd (z : Rat) : 0 ≤ cl z ∧ cl z ≤ 1 := by rcases cl_cases z with h | h | h <;> grind
theorem cl_mono {x y : Rat} (h : x ≤ y) : cl x ≤ cl y := by rcases cl_cases x with h | h | h <;> rcases cl_cases y with k | k | k <;> grind
theorem cl_lip {x y : Rat} (h : x ≤ y) : cl y - cl x ≤ y - x := by rcases cl_cases x with h | h | h <;> rcases cl_cases y with k | k | k <;> grind
theorem sq_nn (x : Rat) : 0 ≤ x * x := by
  rcases Rat.le_total (a := 0) (b := x) with h | h
  · exact Rat.mul_nonneg h h
  · have := Rat.mul_nonneg (a := -x) (b := -x) (by grind) (by grind)
    grind
theorem kk_tan (x y : Rat) : cl x * (y - x) ≤ kk y - kk x := by
  have h1 := sq_nn (y - x)
  have h2 := sq_nn (1 - x)
  have h3 := sq_nn y
  have h4 := sq_nn (y - 1)
  rcases cl_cases x with ⟨a, e1, e2⟩ | ⟨a, b, e1, e2⟩ | ⟨a, e1, e2⟩ <;> rcases cl_cases y with ⟨c, e3, e4⟩ | ⟨c, d, e3, e4⟩ | ⟨c, e3, e4⟩ <;> rw [e1, e2, e4]
  · grind
  · grind
  · grind
  · have := Rat.mul_nonneg (a := x) (b := -y) (by grind) (by grind); have := sq_nn x; grind
  · grind
  · have := Rat.mul_nonneg (a := 1 - x) (b := y - 1) (by grind) (by grind); grind
  · grind
  · grind
  · grind
theorem kk_tan2 (x y : Rat) : kk y - kk x ≤ cl x * (y - x) + (y - x) * (y - x) / 2 := by
  have h1 := sq_nn (y - x)
  have h2 := sq_nn (1 - y)
  have h3 := sq_nn x
  have h4 := sq_nn (x - 1)
  have h5 := sq_nn y
  rcases cl_cases x with ⟨a, e1, e2⟩ | ⟨a, b, e1, e2⟩ | ⟨a, e1, e2⟩ <;> rcases cl_cases y with ⟨c, e3, e4⟩ | ⟨c, d, e3, e4⟩ | ⟨c, e3, e4⟩ <;> rw [e1, e2, e4]
  · grind
  · have := Rat.mul_nonneg (a := -x) (b := y) (by grind) (by grind); grind
  · have := Rat.mul_nonneg (a := -x) (b := y - 1) (by grind) (by grind); grind
  · grind
  · grind
  · grind
  · have := Rat.mul_nonneg (a := x - 1) (b := -y) (by grind) (by grind); have := sq_nn y; grind
  · have := Rat.mul_nonneg (a := x - 1) (b := 1 - y) (by grind) (by grind); grind
  · grind
/-- The mean of 'cl' between two places. -/
def mean (a b : Rat) : Rat := if a = b then cl a else (kk b - kk a) / (b - a)
theorem mean_mul (a b : Rat) : mean a b * (b - a) = kk b - kk a := by
  unfold mean
  by_cases h : a = b
  · subst h; simp; grind
  · rw [if_neg h]
    have : b - a ≠ 0 := by grind
    exact Rat.div_mul_cancel this
theorem mean_comm (a b : Rat) : mean a b = mean b a := by
  unfold mean
  by_cases h : a = b
  · subst h; rfl
  · rw [if_neg h, if_neg (fun e => h e.symm)]
    have : b - a ≠ 0 := by grind
    have : a - b ≠ 0 := by grind
    grind
theorem le_of_mul {x y z : Rat} (hz : 0 < z) (h : x * z ≤ y * z) : x ≤ y := Rat.le_of_mul_le_mul_right h hz
theorem lt_or_eq {a b : Rat} (h : a ≤ b) : a < b ∨ a = b := by
  by_cases e : a = b
  · exact .inr e
  · left; grind
theorem mean_between {a b : Rat} (h : a ≤ b) : cl a ≤ mean a b ∧ mean a b ≤ cl b := by
  rcases lt_or_eq h with hlt | rfl
  · have h0 := mean_mul a b
    have h1 := kk_tan a b
    have h2 := kk_tan b a
    have hp : 0 < b - a := by grind
    exact ⟨le_of_mul hp (by grind), le_of_mul hp (by grind)⟩
  · have e : mean a a = cl a := by simp [mean]
    rw [e]; exact ⟨Rat.le_refl, Rat.le_refl⟩
theorem mean_bd (a b : Rat) : 0 ≤ mean a b ∧ mean a b ≤ 1 := by
  have h1 := cl_bd a
  have h2 := cl_bd b
  rcases Rat.le_total (a := a) (b := b) with h | h
  · have := mean_between h; grind
  · have := mean_between h; rw [mean_comm]; grind
theorem mean_mono_r {a b b' : Rat} (h : b ≤ b') : mean a b ≤ mean a b' := by
  have m1 := mean_mul a b
  have m2 := mean_mul a b'
  have m3 := mean_mul b b'
  have c3 := mean_between h
  have := cl_mono h
  rcases Rat.le_total (a := a) (b := b) with k | k
  · have c1 := mean_between k
    have c2 := mean_between (Rat.le_trans k h)
    by_cases e : b' = a
    · have : b = a := by grind
      subst this; subst e; exact Rat.le_refl
    · refine le_of_mul (z := b' - a) (by grind) ?_
      have q := Rat.mul_le_mul_of_nonneg_right (show mean a b ≤ mean b b' by grind) (show 0 ≤ b' - b by grind)
      grind
  · rcases Rat.le_total (a := a) (b := b') with k2 | k2
    · have c1 := mean_between k
      have c2 := mean_between k2
      rw [mean_comm a b]
      grind
    · have c1 := mean_between k
      have c2 := mean_between k2
      by_cases e : b = a
      · have : b' = a := by grind
        subst this; subst e; exact Rat.le_refl
      · have e1 := mean_comm a b
        have e2 := mean_comm a b'
        refine le_of_mul (z := a - b) (by grind) ?_
        have q := Rat.mul_le_mul_of_nonneg_right (show mean b b' ≤ mean a b' by grind) (show 0 ≤ b' - b by grind)
        grind
theorem mean_mono {a b a' b' : Rat} (h : a ≤ a') (h' : b ≤ b') : mean a b ≤ mean a' b' := by
  have h1 := mean_mono_r (a := a) h'
  have h2 := mean_mono_r (a := b') h
  rw [mean_comm b' a, mean_comm b' a'] at h2
  exact Rat.le_trans h1 h2
/-- What is lacking to the whole number. -/
theorem kk_inc {a b t : Rat} (h : a ≤ b) (ht : 0 ≤ t) : kk (b + t) - kk b - (kk (a + t) - kk a) ≤ t * (b - a) := by
  -- F z = z*z/2 - kk z is convex
  have tan (x y : Rat) : (x - cl x) * (y - x) ≤ (y * y / 2 - kk y) - (x * x / 2 - kk x) := by
    have := kk_tan2 x y
    grind
  have mono {x y : Rat} (h : x ≤ y) : x - cl x ≤ y - cl y := by have := cl_lip h; grind
  rcases Rat.le_total (a := a + t) (b := b) with k | k
  · have h1 := tan b (b + t)
    have h2 := tan (a + t) a
    have h3 := Rat.mul_le_mul_of_nonneg_right (mono k) ht
    grind
  · have h1 := tan (a + t) (b + t)
    have h2 := tan b a
    have h3 := Rat.mul_le_mul_of_nonneg_right (mono k) (show 0 ≤ b - a by grind)
    grind
theorem mean_shift {a b t : Rat} (ht : 0 ≤ t) : mean (a + t) (b + t) ≤ mean a b + t := by
  have key {a b : Rat} (h : a ≤ b) : mean (a + t) (b + t) ≤ mean a b + t := by
    rcases lt_or_eq h with hlt | rfl
    · have m1 := mean_mul a b
      have m2 := mean_mul (a + t) (b + t)
      have k := kk_inc h ht
      exact le_of_mul (z := b - a) (by grind) (by grind)
    · have e1 : mean a a = cl a := by simp [mean]
      have e2 : mean (a + t) (a + t) = cl (a + t) := by simp [mean]
      have := cl_lip (show a ≤ a + t by grind)
      grind
  rcases Rat.le_total (a := a) (b := b) with h | h
  · exact key h
  · rw [mean_comm, mean_comm a b]; exact key h
/-- Ends moved by at most t. -/
theorem mean_lip {a b a' b' t : Rat} (h1 : a' ≤ a + t) (h2 : b' ≤ b + t) (ht : 0 ≤ t) : mean a' b' ≤ mean a b + t := Rat.le_trans (mean_mono h1 h2) (mean_shift ht)
theorem mean_zero {a b : Rat} (h1 : a ≤ 0) (h2 : b ≤ 0) : mean a b = 0 := by
  have := mean_bd a b
  have := mean_mono h1 h2
  have e : mean 0 0 = 0 := by decide +kernel
  grind
theorem mean_one {a b : Rat} (h1 : 1 ≤ a) (h2 : 1 ≤ b) : mean a b = 1 := by
  have := mean_bd a b
  have := mean_mono h1 h2
  have e : mean 1 1 = 1 := by decide +kernel
  grind
theorem mean_self (a : Rat) : mean a a = cl a := by simp [mean]
theorem cl_id {a : Rat} (h0 : 0 ≤ a) (h1 : a ≤ 1) : cl a = a := by rcases cl_cases a with h | h | h <;> grind
/-- Both in the middle piece. -/
theorem mean_mid {a b : Rat} (ha : 0 ≤ a) (ha1 : a ≤ 1) (hb : 0 ≤ b) (hb1 : b ≤ 1) : mean a b = (a + b) / 2 := by
  by_cases h : a = b
  · subst h; rw [mean_self, cl_id ha ha1]; grind
  · have m := mean_mul a b
    have ka : kk a = a * a / 2 := by rcases cl_cases a with h | h | h <;> grind
    have kb : kk b = b * b / 2 := by rcases cl_cases b with h | h | h <;> grind
    have hne : b - a ≠ 0 := by grind
    have e : mean a b * (b - a) = (a + b) / 2 * (b - a) := by rw [m, ka, kb]; grind
    have := congrArg (fun x => x / (b - a)) e
    simpa [Rat.mul_div_cancel, hne] using this
/-- The mean of the ends, where no corner is far inside. -/
theorem mean_trap {a b v0 v1 t : Rat} (h0 : v0 ≤ t) (h0' : -t ≤ v0) (h1 : v1 ≤ 1 + t) (h1' : 1 - t ≤ v1) (k0 : (a ≤ v0 ∧ b ≤ v0) ∨ (v0 ≤ a ∧ v0 ≤ b)) (k1 : (a ≤ v1 ∧ b ≤ v1) ∨ (v1 ≤ a ∧ v1 ≤ b)) :
    mean a b ≤ (cl a + cl b) / 2 + t ∧ (cl a + cl b) / 2 ≤ mean a b + t := by
  have ht : 0 ≤ t := by grind
  have ca := cl_bd a
  have cb := cl_bd b
  have mb := mean_bd a b
  rcases k0 with ⟨x, y⟩ | ⟨x, y⟩
  · have := mean_lip (a := 0) (b := 0) (a' := a) (b' := b) (t := t) (by grind) (by grind) ht
    rw [mean_zero (a := 0) (b := 0) (by grind) (by grind)] at this
    have e1 : cl a ≤ t := by rcases cl_cases a with h | h | h <;> grind
    have e2 : cl b ≤ t := by rcases cl_cases b with h | h | h <;> grind
    constructor <;> grind
  · rcases k1 with ⟨x1, y1⟩ | ⟨x1, y1⟩
    · have g : mean (cl a) (cl b) = (cl a + cl b) / 2 := mean_mid ca.1 ca.2 cb.1 cb.2
      have e1 : cl a ≤ a + t ∧ a ≤ cl a + t := by rcases cl_cases a with h | h | h <;> grind
      have e2 : cl b ≤ b + t ∧ b ≤ cl b + t := by rcases cl_cases b with h | h | h <;> grind
      have l1 := mean_lip (a := a) (b := b) (a' := cl a) (b' := cl b) (t := t) (by grind) (by grind) ht
      have l2 := mean_lip (a := cl a) (b := cl b) (a' := a) (b' := b) (t := t) (by grind) (by grind) ht
      constructor <;> grind
    · have := mean_lip (a := a) (b := b) (a' := 1) (b' := 1) (t := t) (by grind) (by grind) ht
      rw [mean_one (a := 1) (b := 1) (by grind) (by grind)] at this
      have e1 : 1 - t ≤ cl a := by rcases cl_cases a with h | h | h <;> grind
      have e2 : 1 - t ≤ cl b := by rcases cl_cases b with h | h | h <;> grind
      constructor <;> grind
/-- Two parts of a straight line. -/
theorem mean_join {u : Rat → Rat} {c : Rat} (hu : ∀ x y, u x - u y = c * (y - x)) (p q r : Rat) : (q - p) * mean (u p) (u q) + (r - q) * mean (u q) (u r) = (r - p) * mean (u p) (u r) := by
  by_cases hc : c = 0
  · have e1 : u q = u p := by have := hu q p; rw [hc] at this; grind
    have e2 : u r = u p := by have := hu r p; rw [hc] at this; grind
    rw [e1, e2]
    grind
  · have m1 := mean_mul (u p) (u q)
    have m2 := mean_mul (u q) (u r)
    have m3 := mean_mul (u p) (u r)
    have h1 : u q - u p = -c * (q - p) := by have := hu p q; grind
    have h2 : u r - u q = -c * (r - q) := by have := hu q r; grind
    have h3 : u r - u p = -c * (r - p) := by have := hu p r; grind
    rw [h1] at m1
    rw [h2] at m2
    rw [h3] at m3
    have e : ((q - p) * mean (u p) (u q) + (r - q) * mean (u q) (u r)) * c = (r - p) * mean (u p) (u r) * c := by grind
    have := congrArg (fun x => x / c) e
    simpa [Rat.mul_div_cancel, hc] using this
theorem kk_step {a t : Rat} (ht : 0 ≤ t) : 0 ≤ kk (a + t) - kk a ∧ kk (a + t) - kk a ≤ t := by
  have h1 := kk_tan a (a + t)
  have h2 := kk_tan (a + t) a
  have c1 := cl_bd a
  have c2 := cl_bd (a + t)
  have m1 := Rat.mul_le_mul_of_nonneg_right c1.1 ht
  have m2 := Rat.mul_le_mul_of_nonneg_right c2.2 ht
  constructor <;> grind
/-- Both ends moved alike: the farther apart they are, the less it counts. -/
theorem mean_slip {a b t : Rat} (ht : 0 ≤ t) (h : a ≤ b) : (mean (a + t) (b + t) - mean a b) * (b - a) ≤ t ∧ 0 ≤ mean (a + t) (b + t) - mean a b := by
  have m1 := mean_mul a b
  have m2 := mean_mul (a + t) (b + t)
  have k1 := kk_step (a := a) ht
  have k2 := kk_step (a := b) ht
  have e : b + t - (a + t) = b - a := by grind
  rw [e] at m2
  have := mean_mono (show a ≤ a + t by grind) (show b ≤ b + t by grind)
  constructor <;> grind
end Go.Proofs.Ytmgcbodlolnheaa

namespace Go.Proofs.Ytmgcbodlolnheaa
open Go.RowKit
set_option linter.unusedVariables false

theorem tdiv_bd {a b q : Int} (hb : 0 < b) (hq : a.tdiv b = q) : a - b < b * q ∧ b * q < a + b := by
  have h := Int.mul_tdiv_add_tmod a b
  rw [hq] at h
  rcases Int.le_total 0 a with h0 | h0
  · have h1 := Int.tmod_lt_of_pos a hb
    have h2 := Int.tmod_nonneg b h0
    omega
  · have h1 : (-a).tmod b < b := Int.tmod_lt_of_pos (-a) hb
    have h2 := Int.tmod_nonneg b (show 0 ≤ -a by omega)
    rw [Int.neg_tmod] at h1 h2
    omega
/-- Where the threshold lies: of the cells from a to b those up to X are among the places up to p. -/
def Thr (W base p : Nat) (a b X : Int) : Prop := ∀ k : Int, a ≤ k → k ≤ b → (base + clampN k W ≤ p ↔ k ≤ X)
theorem thr_in {W X base : Nat} (hX : X < W) (a b : Int) : Thr W base (base + X) a b X := by
  intro k _ _
  rw [← clamp_le_iff hX]
  omega
theorem thr_all {W base p : Nat} (hp : base + W ≤ p) (a b : Int) : Thr W base p a b b := by
  intro k _ h
  have := clampN_le k W
  constructor
  · intro _; exact h
  · intro _; omega
/-- The count of cells of a fill up to X. -/
def fillN (x0 X : Int) (j : Nat) : Int := imax 0 (imin j (X - x0 + 1))
theorem fill_sum {W base p : Nat} {a b X : Int} (h : Thr W base p a b X) (x0 v : Int) (ha : a ≤ x0) : ∀ j : Nat, x0 + j ≤ b + 1 → sumTo (fillL base W x0 v j) p = fillN x0 X j * v
  | 0, _ => by
    have e : fillN x0 X 0 = 0 := by unfold fillN imin imax; split <;> split <;> omega
    rw [e, fillL, sumTo, Int.zero_mul]
  | j + 1, hj => by
    rw [fillL, sumTo_append, fill_sum h x0 v ha j (by omega), sumTo, sumTo]
    have e : fillN x0 X (j + 1) = fillN x0 X j + if x0 + j ≤ X then 1 else 0 := by
      unfold fillN imin imax
      split <;> split <;> split <;> split <;> (try split) <;> omega
    rw [e]
    simp only [h (x0 + j) (by omega) (by omega)]
    split <;> grind
/-- A cell's addition: what is divided, and its value. -/
theorem cell_q {n d D q : Int} (hD : 0 < D) (hn : 0 ≤ n) (hn2 : n ≤ 1048576) (h1 : -512 ≤ d) (h2 : d ≤ 512) (hq : wrap32 ((wrap32 (n * d)).tdiv D) = q) : n * d - D < D * q ∧ D * q < n * d + D := by
  have b := mul_bd (a := n) (b := d) (m := 1048576) (n := 512) (by omega) (by omega) (by omega) (by omega)
  rw [wrap32_small (a := n * d) (by omega) (by omega)] at hq
  have t := tdiv_bd hD (a := n * d) (q := (n * d).tdiv D) rfl
  have hb : ((n * d).tdiv D).natAbs ≤ (n * d).natAbs := by
    rw [Int.natAbs_tdiv]
    exact Nat.div_le_self _ _
  rw [wrap32_small (by omega) (by omega)] at hq
  subst hq
  exact t
/-- Twice the width times the sum up to X, in a row where the line crosses cells i0 to i1: the exact number. -/
def numN (lo hi d i0 i1 X : Int) : Int :=
  if X < i0 then 0
  else if X = i0 then (512 * (i0 + 1) - lo) * (512 * (i0 + 1) - lo) * d
  else if X < i1 - 1 then 1024 * (512 * (X + 1) - lo - 256) * d
  else if X = i1 - 1 then (1024 * (512 * i1 - lo - 256) - (512 * i1 - hi) * (512 * i1 - hi)) * d
  else 1024 * (hi - lo) * d
theorem multi_cum {W base p : Nat} {X x xn d : Int} (hd1 : -512 ≤ d) (hd2 : d ≤ 512) (hm : ¬ (imax x xn + 511) / 512 ≤ imin x xn / 512 + 1) (h : Thr W base p (imin x xn / 512) (imax x xn / 512 + 1) X) :
    2 * (imax x xn - imin x xn) * sumTo (rowL W base x xn d) p - numN (imin x xn) (imax x xn) d (imin x xn / 512) ((imax x xn + 511) / 512) X ≤ 2 * (imax x xn - imin x xn) * ((imax x xn + 511) / 512 - imin x xn / 512 + 1) ∧
    -(2 * (imax x xn - imin x xn) * ((imax x xn + 511) / 512 - imin x xn / 512 + 1)) ≤ 2 * (imax x xn - imin x xn) * sumTo (rowL W base x xn d) p - numN (imin x xn) (imax x xn) d (imin x xn / 512) ((imax x xn + 511) / 512) X := by
  unfold rowL
  simp only
  rw [if_neg hm]
  generalize imin x xn = lo at *
  generalize imax x xn = hi at *
  generalize hi0 : lo / 512 = i0 at *
  generalize hi1 : (hi + 511) / 512 = i1 at *
  have hib : i1 ≤ hi / 512 + 1 := by omega
  generalize hi / 512 + 1 = b at *
  have g1 : 512 * i0 ≤ lo := by omega
  have g2 : lo < 512 * i0 + 512 := by omega
  have g3 : 512 * i1 < hi + 512 := by omega
  have g4 : hi ≤ 512 * i1 := by omega
  have hS : 0 < 2 * (hi - lo) := by omega
  obtain ⟨o, ho⟩ : ∃ o, o = 512 - (lo - i0 * 512) := ⟨_, rfl⟩
  obtain ⟨f, hf⟩ : ∃ f, f = hi - i1 * 512 + 512 := ⟨_, rfl⟩
  have bo : 1 ≤ o ∧ o ≤ 512 := by omega
  have bf : 1 ≤ f ∧ f ≤ 512 := by omega
  have so := mul_bd (a := o) (b := o) (m := 512) (n := 512) (by omega) (by omega) (by omega) (by omega)
  have sf := mul_bd (a := f) (b := f) (m := 512) (n := 512) (by omega) (by omega) (by omega) (by omega)
  have so0 : 0 ≤ o * o := Int.mul_nonneg (by omega) (by omega)
  have sf0 : 0 ≤ f * f := Int.mul_nonneg (by omega) (by omega)
  have elo : lo - i0 * 512 = 512 - o := by omega
  rw [← ho, ← hf, elo]
  have q0 := cell_q (n := o * o) (D := 2 * (hi - lo)) hS so0 (by omega) hd1 hd2 rfl
  have q4 := cell_q (n := f * f) (D := 2 * (hi - lo)) hS sf0 (by omega) hd1 hd2 rfl
  generalize wrap32 ((wrap32 (o * o * d)).tdiv (2 * (hi - lo))) = a0 at *
  generalize wrap32 ((wrap32 (f * f * d)).tdiv (2 * (hi - lo))) = a4 at *
  by_cases h2 : i1 = i0 + 2
  · rw [if_pos h2]
    have hw : 2 * (hi - lo) = 2 * (o + f) := by omega
    have hn : 2 * (hi - lo) * 512 - o * o - f * f = o * (1024 - o) + f * (1024 - f) := by rw [hw]; grind
    have p1 : 0 ≤ o * (1024 - o) := Int.mul_nonneg (by omega) (by omega)
    have p2 : 0 ≤ f * (1024 - f) := Int.mul_nonneg (by omega) (by omega)
    have p3 := mul_bd (a := o) (b := 1024 - o) (m := 512) (n := 1024) (by omega) (by omega) (by omega) (by omega)
    have p4 := mul_bd (a := f) (b := 1024 - f) (m := 512) (n := 1024) (by omega) (by omega) (by omega) (by omega)
    have q1 := cell_q (n := 2 * (hi - lo) * 512 - o * o - f * f) (D := 2 * (hi - lo)) hS (by omega) (by omega) hd1 hd2 rfl
    generalize wrap32 ((wrap32 ((2 * (hi - lo) * 512 - o * o - f * f) * d)).tdiv (2 * (hi - lo))) = a1 at *
    simp only [sumTo, List.cons_append, List.nil_append, h i0 (by omega) (by omega), h (i0 + 1) (by omega) (by omega), h i1 (by omega) (by omega)]
    obtain rfl : lo = 512 * i0 + 512 - o := by omega
    obtain rfl : hi = 512 * i1 - 512 + f := by omega
    subst h2
    unfold numN
    generalize hSS : 512 * (i0 + 2) - 512 + f - (512 * i0 + 512 - o) = S at *
    obtain rfl : S = o + f := by omega
    have hSp : 0 < 2 * (o + f) := by omega
    by_cases c1 : X < i0
    · rw [if_neg (show ¬ i0 ≤ X by omega), if_neg (show ¬ i0 + 1 ≤ X by omega), if_neg (show ¬ i0 + 2 ≤ X by omega), if_pos c1]
      constructor <;> grind
    · rw [if_pos (show i0 ≤ X by omega), if_neg c1]
      by_cases c2 : X = i0
      · rw [if_neg (show ¬ i0 + 1 ≤ X by omega), if_neg (show ¬ i0 + 2 ≤ X by omega), if_pos c2]
        constructor <;> grind
      · rw [if_pos (show i0 + 1 ≤ X by omega), if_neg c2, if_neg (show ¬ X < i0 + 2 - 1 by omega)]
        by_cases c3 : X = i0 + 2 - 1
        · rw [if_neg (show ¬ i0 + 2 ≤ X by omega), if_pos c3]
          constructor <;> grind
        · rw [if_pos (show i0 + 2 ≤ X by omega), if_neg c3]
          constructor <;> grind
  · rw [if_neg h2]
    have p1 : 0 ≤ o * (1024 - o) := Int.mul_nonneg (by omega) (by omega)
    have p2 : 0 ≤ f * (1024 - f) := Int.mul_nonneg (by omega) (by omega)
    have p3 := mul_bd (a := o) (b := 1024 - o) (m := 512) (n := 1024) (by omega) (by omega) (by omega) (by omega)
    have p4 := mul_bd (a := f) (b := 1024 - f) (m := 512) (n := 1024) (by omega) (by omega) (by omega) (by omega)
    have n1 : (768 - (512 - o)) * 1024 - o * o = 262144 + o * (1024 - o) := by grind
    have n3 : (f * 2 + 512) * 512 - f * f = 262144 + f * (1024 - f) := by grind
    have q1 := cell_q (n := (768 - (512 - o)) * 1024 - o * o) (D := 2 * (hi - lo)) hS (by omega) (by omega) hd1 hd2 rfl
    have q3 := cell_q (n := (f * 2 + 512) * 512 - f * f) (D := 2 * (hi - lo)) hS (by omega) (by omega) hd1 hd2 rfl
    generalize wrap32 ((wrap32 (((768 - (512 - o)) * 1024 - o * o) * d)).tdiv (2 * (hi - lo))) = a1 at *
    generalize wrap32 ((wrap32 (((f * 2 + 512) * 512 - f * f) * d)).tdiv (2 * (hi - lo))) = a3 at *
    obtain ⟨j, hj⟩ : ∃ j : Nat, j = (i1 - 1 - (i0 + 2)).toNat := ⟨_, rfl⟩
    have hji : (j : Int) = i1 - i0 - 3 := by omega
    have hv := tdiv_bd (a := d * 262144) (b := hi - lo) (by omega) rfl
    have hvb : ((d * 262144).tdiv (hi - lo)).natAbs ≤ (d * 262144).natAbs := by
      rw [Int.natAbs_tdiv]
      exact Nat.div_le_self _ _
    rw [← hj, wrap32_small (a := (d * 262144).tdiv (hi - lo)) (by omega) (by omega)]
    generalize (d * 262144).tdiv (hi - lo) = v at *
    simp only [sumTo, sumTo_append, List.cons_append, fill_sum h (i0 + 2) v (by omega) j (by omega), h i0 (by omega) (by omega), h (i0 + 1) (by omega) (by omega), h (i1 - 1) (by omega) (by omega), h i1 (by omega) (by omega)]
    obtain ⟨m, hm2⟩ : ∃ m, m = fillN (i0 + 2) X j := ⟨_, rfl⟩
    rw [← hm2]
    have hmm : (X ≤ i0 + 1 → m = 0) ∧ (i0 + 1 ≤ X → X < i1 - 1 → m = X - i0 - 1) ∧ (i1 - 1 ≤ X → m = i1 - i0 - 3) := by
      unfold fillN imin imax at hm2
      refine ⟨fun _ => ?_, fun _ _ => ?_, fun _ => ?_⟩ <;> (split at hm2 <;> (try split at hm2) <;> omega)
    have hm0 : 0 ≤ m := by unfold fillN imin imax at hm2; split at hm2 <;> omega
    clear hm2
    obtain rfl : lo = 512 * i0 + 512 - o := by omega
    obtain rfl : hi = 512 * i1 - 512 + f := by omega
    unfold numN
    generalize hSS : 512 * i1 - 512 + f - (512 * i0 + 512 - o) = S at *
    have hSp : 0 < 2 * S := by omega
    have w1 := Int.mul_le_mul_of_nonneg_left (Int.le_of_lt hv.1) hm0
    have w2 := Int.mul_le_mul_of_nonneg_left (Int.le_of_lt hv.2) hm0
    by_cases c1 : X < i0
    · rw [if_neg (show ¬ i0 ≤ X by omega), if_neg (show ¬ i0 + 1 ≤ X by omega), if_neg (show ¬ i1 - 1 ≤ X by omega), if_neg (show ¬ i1 ≤ X by omega), if_pos c1]
      have := hmm.1 (by omega)
      subst this
      have : 0 ≤ 2 * S * (i1 - i0 + 1) := Int.mul_nonneg (by omega) (by omega)
      constructor <;> grind
    · rw [if_pos (show i0 ≤ X by omega), if_neg c1]
      by_cases c2 : X = i0
      · rw [if_neg (show ¬ i0 + 1 ≤ X by omega), if_neg (show ¬ i1 - 1 ≤ X by omega), if_neg (show ¬ i1 ≤ X by omega), if_pos c2]
        have := hmm.1 (by omega)
        subst this
        have : 0 ≤ 2 * S * (i1 - i0) := Int.mul_nonneg (by omega) (by omega)
        constructor <;> grind
      · rw [if_pos (show i0 + 1 ≤ X by omega), if_neg c2]
        by_cases c3 : X < i1 - 1
        · rw [if_pos c3, if_neg (show ¬ i1 - 1 ≤ X by omega), if_neg (show ¬ i1 ≤ X by omega)]
          have := hmm.2.1 (by omega) c3
          subst this
          have : 0 ≤ 2 * S * (i1 - 1 - X) := Int.mul_nonneg (by omega) (by omega)
          clear hSS hS hi1 hi0 g1 g2 g3 g4 hf ho elo hmm hji hj hm hib h p1 p2 p3 p4 so sf so0 sf0 n1 n3 q3 q4 c1 c2 c3 hvb hm0 hv h2 bo bf
          have e1 : 1024 * (512 * (X + 1) - (512 * i0 + 512 - o) - 256) * d = o * o * d + ((768 - (512 - o)) * 1024 - o * o) * d + 2 * ((X - i0 - 1) * (d * 262144)) := by grind
          rw [e1]
          have w3 : (X - i0 - 1) * (d * 262144 - S) = (X - i0 - 1) * (d * 262144) - (X - i0 - 1) * S := by grind
          have w4 : (X - i0 - 1) * (d * 262144 + S) = (X - i0 - 1) * (d * 262144) + (X - i0 - 1) * S := by grind
          have w5 : 2 * S * (a0 + (a1 + ((X - i0 - 1) * v + (0 + 0)) + (0 + 0))) = 2 * S * a0 + 2 * S * a1 + 2 * ((X - i0 - 1) * (S * v)) := by grind
          rw [w3] at w1
          rw [w4] at w2
          constructor <;> grind
        · rw [if_neg c3, if_pos (show i1 - 1 ≤ X by omega)]
          have := hmm.2.2 (by omega)
          subst this
          by_cases c4 : X = i1 - 1
          · rw [if_pos c4, if_neg (show ¬ i1 ≤ X by omega)]
            clear hSS hS hi1 hi0 g1 g2 g3 g4 hf ho elo hmm hji hj hm hib h p1 p2 p3 p4 so sf so0 sf0 n1 n3 q4 c1 c2 c3 c4 hvb hm0 hv h2 bo bf
            have e1 : (1024 * (512 * i1 - (512 * i0 + 512 - o) - 256) - (512 * i1 - (512 * i1 - 512 + f)) * (512 * i1 - (512 * i1 - 512 + f))) * d = o * o * d + ((768 - (512 - o)) * 1024 - o * o) * d + ((f * 2 + 512) * 512 - f * f) * d + 2 * ((i1 - i0 - 3) * (d * 262144)) := by grind
            rw [e1]
            have w3 : (i1 - i0 - 3) * (d * 262144 - S) = (i1 - i0 - 3) * (d * 262144) - (i1 - i0 - 3) * S := by grind
            have w4 : (i1 - i0 - 3) * (d * 262144 + S) = (i1 - i0 - 3) * (d * 262144) + (i1 - i0 - 3) * S := by grind
            rw [w3] at w1
            rw [w4] at w2
            constructor <;> grind
          · rw [if_neg c4, if_pos (show i1 ≤ X by omega)]
            have e1 : 1024 * S * d = o * o * d + ((768 - (512 - o)) * 1024 - o * o) * d + ((f * 2 + 512) * 512 - f * f) * d + f * f * d + 2 * ((i1 - i0 - 3) * (d * 262144)) := by rw [← hSS]; grind
            clear hSS hS hi1 hi0 g1 g2 g3 g4 hf ho elo hmm hji hj hm hib h p1 p2 p3 p4 so sf so0 sf0 n1 n3 c1 c2 c3 c4 hvb hm0 hv h2 bo bf
            rw [e1]
            have w3 : (i1 - i0 - 3) * (d * 262144 - S) = (i1 - i0 - 3) * (d * 262144) - (i1 - i0 - 3) * S := by grind
            have w4 : (i1 - i0 - 3) * (d * 262144 + S) = (i1 - i0 - 3) * (d * 262144) + (i1 - i0 - 3) * S := by grind
            rw [w3] at w1
            rw [w4] at w2
            constructor <;> grind

theorem kk_low {z : Rat} (h : z ≤ 0) : kk z = 0 := by rcases cl_cases z with c | c | c <;> grind
theorem kk_mid {z : Rat} (h : 0 ≤ z) (h1 : z ≤ 1) : kk z = z * z / 2 := by rcases cl_cases z with c | c | c <;> grind
theorem kk_high {z : Rat} (h : 1 ≤ z) : kk z = z - 1 / 2 := by rcases cl_cases z with c | c | c <;> grind
theorem castLe {a b : Int} (h : a ≤ b) : (a : Rat) ≤ (b : Rat) := Rat.intCast_le_intCast.2 h
theorem castLt {a b : Int} (h : a < b) : (a : Rat) < (b : Rat) := Rat.intCast_lt_intCast.2 h
theorem numN_eq {lo hi d i0 i1 X : Int} (g1 : 512 * i0 ≤ lo) (g2 : lo < 512 * i0 + 512) (g3 : 512 * i1 < hi + 512) (g4 : hi ≤ 512 * i1) (hm : i0 + 2 ≤ i1) :
    ((numN lo hi d i0 i1 X : Int) : Rat) = 524288 * d * (kk ((X : Rat) + 1 - (lo : Rat) / 512) - kk ((X : Rat) + 1 - (hi : Rat) / 512)) := by
  have r1 := castLe g1
  have r2 := castLt g2
  have r3 := castLt g3
  have r4 := castLe g4
  have r5 := castLe hm
  push_cast at r1 r2 r3 r4 r5
  unfold numN
  by_cases c1 : X < i0
  · have r6 := castLe (show X + 1 ≤ i0 by omega)
    push_cast at r6
    rw [if_pos c1, kk_low (z := (X : Rat) + 1 - (lo : Rat) / 512) (by grind), kk_low (z := (X : Rat) + 1 - (hi : Rat) / 512) (by grind)]
    push_cast
    grind
  rw [if_neg c1]
  by_cases c2 : X = i0
  · subst c2
    rw [if_pos rfl, kk_mid (z := (X : Rat) + 1 - (lo : Rat) / 512) (by grind) (by grind), kk_low (z := (X : Rat) + 1 - (hi : Rat) / 512) (by grind)]
    push_cast
    grind
  rw [if_neg c2]
  have r6 := castLe (show i0 + 1 ≤ X by omega)
  push_cast at r6
  by_cases c3 : X < i1 - 1
  · have r7 := castLe (show X + 2 ≤ i1 by omega)
    push_cast at r7
    rw [if_pos c3, kk_high (z := (X : Rat) + 1 - (lo : Rat) / 512) (by grind), kk_low (z := (X : Rat) + 1 - (hi : Rat) / 512) (by grind)]
    push_cast
    grind
  rw [if_neg c3]
  by_cases c4 : X = i1 - 1
  · have r7 : (X : Rat) = i1 - 1 := by rw [c4]; push_cast; rfl
    rw [if_pos c4, kk_high (z := (X : Rat) + 1 - (lo : Rat) / 512) (by grind), kk_mid (z := (X : Rat) + 1 - (hi : Rat) / 512) (by grind) (by grind), r7]
    push_cast
    grind
  · have r7 := castLe (show i1 ≤ X by omega)
    rw [if_neg c4, kk_high (z := (X : Rat) + 1 - (lo : Rat) / 512) (by grind), kk_high (z := (X : Rat) + 1 - (hi : Rat) / 512) (by grind)]
    push_cast
    grind
theorem imm (x xn : Int) : (imin x xn = x ∧ imax x xn = xn ∧ x ≤ xn) ∨ (imin x xn = xn ∧ imax x xn = x ∧ xn ≤ x) := by
  unfold imin imax
  split <;> split <;> omega
/-- How far a line in a row goes sideways, and three cells more: in parts of 2 ^ 18. -/
def cellsR (x xn : Int) : Rat := ((imax x xn - imin x xn : Int) : Rat) / 512 + 3
theorem cells_pos (x xn : Int) : 3 ≤ cellsR x xn := by
  unfold cellsR
  have := castLe (show 0 ≤ imax x xn - imin x xn by rcases imm x xn with h | h <;> omega)
  have e : ((0 : Int) : Rat) = 0 := rfl
  grind
/-- A row's additions up to X. -/
theorem rowL_cum {W base p : Nat} {X x xn d : Int} (hd1 : -512 ≤ d) (hd2 : d ≤ 512) (h : Thr W base p (imin x xn / 512) (imax x xn / 512 + 1) X) :
    (sumTo (rowL W base x xn d) p : Rat) ≤ 512 * d * mean ((X : Rat) + 1 - (x : Rat) / 512) ((X : Rat) + 1 - (xn : Rat) / 512) + cellsR x xn + (if X < imax x xn / 512 + 1 then 256 else 0) ∧
    512 * d * mean ((X : Rat) + 1 - (x : Rat) / 512) ((X : Rat) + 1 - (xn : Rat) / 512) ≤ (sumTo (rowL W base x xn d) p : Rat) + cellsR x xn + (if X < imax x xn / 512 + 1 then 256 else 0) := by
  have hmean : mean ((X : Rat) + 1 - (x : Rat) / 512) ((X : Rat) + 1 - (xn : Rat) / 512) = mean ((X : Rat) + 1 - ((imin x xn : Int) : Rat) / 512) ((X : Rat) + 1 - ((imax x xn : Int) : Rat) / 512) := by
    rcases imm x xn with ⟨h1, h2, _⟩ | ⟨h1, h2, _⟩
    · rw [h1, h2]
    · rw [h1, h2, mean_comm]
  rw [hmean]
  have hif : (0 : Rat) ≤ (if X < imax x xn / 512 + 1 then 256 else 0) := by split <;> grind
  have hle : imin x xn ≤ imax x xn := by rcases imm x xn with h | h <;> omega
  by_cases hm : (imax x xn + 511) / 512 ≤ imin x xn / 512 + 1
  · have hc := cells_pos x xn
    have hsum : x + xn = imin x xn + imax x xn := by rcases imm x xn with h | h <;> omega
    have hs : sumTo (rowL W base x xn d) p = (if imin x xn / 512 ≤ X then d * (512 - ((x + xn) / 2 - imin x xn / 512 * 512)) else 0) + if imin x xn / 512 + 1 ≤ X then d * ((x + xn) / 2 - imin x xn / 512 * 512) else 0 := by
      unfold rowL
      simp only
      rw [if_pos hm]
      have b1 : 0 ≤ (x + xn) / 2 - imin x xn / 512 * 512 ∧ (x + xn) / 2 - imin x xn / 512 * 512 ≤ 512 := by omega
      have b2 := mul_bd (a := d) (b := 512 - ((x + xn) / 2 - imin x xn / 512 * 512)) (m := 512) (n := 512) (by omega) (by omega) (by omega) (by omega)
      have b3 := mul_bd (a := d) (b := ((x + xn) / 2 - imin x xn / 512 * 512)) (m := 512) (n := 512) (by omega) (by omega) (by omega) (by omega)
      rw [wrap32_small (by omega) (by omega), wrap32_small (by omega) (by omega)]
      simp only [sumTo, h (imin x xn / 512) (by omega) (by omega), h (imin x xn / 512 + 1) (by omega) (by omega), Int.add_zero]
    rw [hs, hsum]
    generalize imin x xn = lo at *
    generalize imax x xn = hi at *
    have g1 := castLe (show 512 * (lo / 512) ≤ lo by omega)
    have g2 := castLe (show hi ≤ 512 * (lo / 512) + 512 by omega)
    have g3 := castLe hle
    obtain ⟨h2, hh2⟩ : ∃ h2, h2 = (lo + hi) / 2 := ⟨_, rfl⟩
    have g4 := castLe (show 2 * h2 ≤ lo + hi by omega)
    have g5 := castLe (show lo + hi ≤ 2 * h2 + 1 by omega)
    rw [← hh2]
    push_cast at g1 g2 g4 g5
    have gd1 := castLe hd1
    have gd2 := castLe hd2
    push_cast at gd1 gd2
    by_cases c1 : X < lo / 512
    · have r6 := castLe (show X + 1 ≤ lo / 512 by omega)
      push_cast at r6
      rw [if_neg (show ¬ lo / 512 ≤ X by omega), if_neg (show ¬ lo / 512 + 1 ≤ X by omega), mean_zero (a := (X : Rat) + 1 - (lo : Rat) / 512) (b := (X : Rat) + 1 - (hi : Rat) / 512) (by grind) (by grind)]
      push_cast
      constructor <;> grind
    rw [if_pos (show lo / 512 ≤ X by omega)]
    by_cases c2 : X = lo / 512
    · rw [if_neg (show ¬ lo / 512 + 1 ≤ X by omega), if_pos (show X < hi / 512 + 1 by omega)]
      rw [← c2] at g1 g2 ⊢
      rw [mean_mid (a := (X : Rat) + 1 - (lo : Rat) / 512) (b := (X : Rat) + 1 - (hi : Rat) / 512) (by grind) (by grind) (by grind) (by grind)]
      have e : ((d * (512 - (h2 - X * 512)) + 0 : Int) : Rat) = d * (512 + 512 * X - h2) := by push_cast; grind
      rw [e]
      have e2 : (512 : Rat) * d * (((X : Rat) + 1 - (lo : Rat) / 512 + ((X : Rat) + 1 - (hi : Rat) / 512)) / 2) = d * (512 + 512 * X - h2) + d * (2 * h2 - lo - hi) / 2 := by grind
      rw [e2]
      have e3 : -512 ≤ (d : Rat) * (2 * h2 - lo - hi) ∧ (d : Rat) * (2 * h2 - lo - hi) ≤ 512 := by
        rcases Rat.le_total (a := 0) (b := (d : Rat)) with hp | hp
        · have m1 := Rat.mul_le_mul_of_nonneg_left (show (2 * (h2 : Rat) - lo - hi) ≤ 0 by grind) hp
          have m2 := Rat.mul_le_mul_of_nonneg_left (show -1 ≤ (2 * (h2 : Rat) - lo - hi) by grind) hp
          constructor <;> grind
        · have m1 := Rat.mul_le_mul_of_nonneg_left (show (2 * (h2 : Rat) - lo - hi) ≤ 0 by grind) (show 0 ≤ -(d : Rat) by grind)
          have m2 := Rat.mul_le_mul_of_nonneg_left (show -1 ≤ (2 * (h2 : Rat) - lo - hi) by grind) (show 0 ≤ -(d : Rat) by grind)
          constructor <;> grind
      constructor <;> grind
    · have r6 := castLe (show lo / 512 + 1 ≤ X by omega)
      push_cast at r6
      rw [if_pos (show lo / 512 + 1 ≤ X by omega), mean_one (a := (X : Rat) + 1 - (lo : Rat) / 512) (b := (X : Rat) + 1 - (hi : Rat) / 512) (by grind) (by grind)]
      push_cast
      constructor <;> grind
  · have m := multi_cum hd1 hd2 hm h
    have g1 : 512 * (imin x xn / 512) ≤ imin x xn := by omega
    have g2 : imin x xn < 512 * (imin x xn / 512) + 512 := by omega
    have g3 : 512 * ((imax x xn + 511) / 512) < imax x xn + 512 := by omega
    have g4 : imax x xn ≤ 512 * ((imax x xn + 511) / 512) := by omega
    have e := numN_eq (d := d) (X := X) g1 g2 g3 g4 (by omega)
    have mm := mean_mul ((X : Rat) + 1 - ((imin x xn : Int) : Rat) / 512) ((X : Rat) + 1 - ((imax x xn : Int) : Rat) / 512)
    have hcnt : 512 * ((imax x xn + 511) / 512 - imin x xn / 512 + 1) ≤ imax x xn - imin x xn + 3 * 512 := by omega
    unfold cellsR
    generalize sumTo (rowL W base x xn d) p = s at *
    generalize numN (imin x xn) (imax x xn) d (imin x xn / 512) ((imax x xn + 511) / 512) X = N at *
    generalize (imax x xn + 511) / 512 - imin x xn / 512 + 1 = c at *
    have hS : 0 < imax x xn - imin x xn := by omega
    have hL : ((imax x xn - imin x xn : Int) : Rat) = ((imax x xn : Int) : Rat) - ((imin x xn : Int) : Rat) := by push_cast; rfl
    generalize (if X < imax x xn / 512 + 1 then (256 : Rat) else 0) = z at *
    have hS' : (0 : Rat) < ((imax x xn - imin x xn : Int) : Rat) := castLt hS
    generalize hSe : imax x xn - imin x xn = S at *
    generalize ((imax x xn : Int) : Rat) = Hi at *
    generalize ((imin x xn : Int) : Rat) = Lo at *
    generalize mean ((X : Rat) + 1 - Lo / 512) ((X : Rat) + 1 - Hi / 512) = M at *
    have hcR := castLe hcnt
    push_cast at hcR
    have m1 := castLe m.1
    have m2 := castLe m.2
    push_cast at m1 m2
    have eN : (N : Rat) = 2 * S * (512 * d * M) := by
      rw [e]
      grind
    rw [eN] at m1 m2
    have k := Rat.mul_le_mul_of_nonneg_left (show (c : Rat) ≤ S / 512 + 3 by grind) (Rat.le_of_lt hS')
    constructor
    · refine le_of_mul (z := 2 * (S : Rat)) (by grind) ?_
      have := Rat.mul_nonneg (Rat.le_of_lt hS') hif
      grind
    · refine le_of_mul (z := 2 * (S : Rat)) (by grind) ?_
      have := Rat.mul_nonneg (Rat.le_of_lt hS') hif
      grind
end Go.Proofs.Ytmgcbodlolnheaa

namespace Go.Proofs.Ytmgcbodlolnheaa
open Flt Go.RowKit
set_option linter.unusedVariables false

theorem ab_add_le (x y : Rat) : ab (x + y) ≤ ab x + ab y := by unfold Flt.ab; split <;> split <;> split <;> grind
theorem ab_sub_le (x y : Rat) : ab (x - y) ≤ ab x + ab y := by unfold Flt.ab; split <;> split <;> split <;> grind
theorem ab_iff {x y : Rat} : ab x ≤ y ↔ x ≤ y ∧ -y ≤ x := ⟨fun h => ab_bounds h, fun h => ab_le h.1 (by grind)⟩
theorem ab_mul_le {x y a b : Rat} (hx : ab x ≤ a) (hy : ab y ≤ b) : ab (x * y) ≤ a * b := by
  rw [ab_mul]
  have h1 := ab_nonneg x
  have h2 := ab_nonneg y
  have h3 := Rat.mul_le_mul_of_nonneg_right hx h2
  have h4 := Rat.mul_le_mul_of_nonneg_left hy (Rat.le_trans h1 hx)
  exact Rat.le_trans h3 h4
/-- What row r gives to the sum up to a pixel of row Y: d of it, whole in the rows above, the part m in its own. -/
def rowF (Y : Nat) (m : Rat) (d : Int) (r : Int) : Rat := if r < 0 then 0 else if r < Y then d else if r = Y then d * m else 0
theorem rowF_zero (Y : Nat) (m : Rat) (r : Int) : rowF Y m 0 r = 0 := by
  unfold rowF
  split
  · rfl
  · split
    · rfl
    · split
      · rw [cast_zero]; grind
      · rfl
theorem rows_upto {m2 m4 dir H : Int} {Y : Nat} (m : Rat) (hlt : m2 < m4) (hY : (Y : Int) < H) :
    rowsR (fun r => rowF Y m (dir * (ph r m4 - ph r m2)) r) (m2 / 64) (imin H ((m4 + 63) / 64) - m2 / 64).toNat =
      rowsR (fun r => ((dir * (ph r m4 - ph r m2) : Int) : Rat)) 0 Y + ((dir * (ph Y m4 - ph Y m2) : Int) : Rat) * m := by
  rw [rowsR_same (b := 0) (j := Y + 1), rowsR_last]
  · congr 1
    · refine rowsR_congr fun r h1 h2 => ?_
      unfold rowF
      rw [if_neg (by omega), if_pos (by omega)]
    · unfold rowF
      rw [if_neg (by omega), if_neg (by omega), if_pos rfl]
  · intro r hr
    have a1 := ph_cases r m2
    have a2 := ph_cases r m4
    by_cases hin : m2 / 64 ≤ r ∧ r < (m4 + 63) / 64
    · have hH : H ≤ r := by
        unfold imin at hr
        split at hr <;> omega
      unfold rowF
      split
      · rfl
      · rw [if_neg (by omega), if_neg (by omega)]
    · have : ph r m4 - ph r m2 = 0 := by omega
      rw [this, Int.mul_zero, rowF_zero]
  · intro r hr
    unfold rowF
    split
    · rfl
    · rw [if_neg (by omega), if_neg (by omega)]
/-- Where an edge is at a height, in 64ths. -/
def xE (m1 m2 m3 m4 : Int) (y : Rat) : Rat := m1 + slopeR m1 m2 m3 m4 * (y - m2)
/-- How far the right side of the pixel's column is from the edge, in pixels. -/
def uE (m1 m2 m3 m4 : Int) (X : Nat) (y : Rat) : Rat := X + 1 - xE m1 m2 m3 m4 y / 64
/-- The part of a pixel's row that is right of an edge, on the edge's mean. -/
def mE (X Y : Nat) (m1 m2 m3 m4 : Int) : Rat := mean (uE m1 m2 m3 m4 X ((64 * (Y : Int) + ph Y m2 : Int) : Rat)) (uE m1 m2 m3 m4 X ((64 * (Y : Int) + ph Y m4 : Int) : Rat))
def mEdge (X Y : Nat) (e : Pt × Pt) : Rat := if e.1.2 < e.2.2 then mE X Y e.1.1 e.1.2 e.2.1 e.2.2 else mE X Y e.2.1 e.2.2 e.1.1 e.1.2
/-- What an edge gives to a pixel's area. -/
def areaE (X Y : Nat) (e : Pt × Pt) : Rat := (dph Y e : Int) / 64 * mEdge X Y e
def areaR (es : List (Pt × Pt)) (X Y : Nat) : Rat := sumE (areaE X Y) es
end Go.Proofs.Ytmgcbodlolnheaa

namespace Go.Proofs.Ytmgcbodlolnheaa
open Flt Go.RowKit
set_option linter.unusedVariables false

theorem sumTo_none : ∀ {s : List (Nat × Int)} {p : Nat}, (∀ x ∈ s, p < x.1) → sumTo s p = 0
  | [], _, _ => rfl
  | (k, v) :: t, p, h => by
    have h0 := h (k, v) (by simp)
    rw [sumTo, if_neg (by simp only at h0; omega), sumTo_none fun x hx => h x (by simp [hx])]
    rfl
theorem fillL_places {base W : Nat} {x0 v : Int} : ∀ {j : Nat} {x : Nat × Int}, x ∈ fillL base W x0 v j → base ≤ x.1
  | 0, x, h => by simp [fillL] at h
  | j + 1, x, h => by
    rw [fillL, List.mem_append] at h
    rcases h with h | h
    · exact fillL_places h
    · simp at h; subst h; simp
theorem rowL_places {W base : Nat} {x xn d : Int} {e : Nat × Int} (h : e ∈ rowL W base x xn d) : base ≤ e.1 := by
  unfold rowL at h
  simp only at h
  split at h
  · simp only [List.mem_cons, List.not_mem_nil, or_false] at h
    rcases h with rfl | rfl <;> simp
  · simp only [List.mem_cons, List.mem_append, List.not_mem_nil, or_false] at h
    rcases h with rfl | h | rfl
    · simp
    · split at h
      · simp at h; subst h; simp
      · simp only [List.mem_cons, List.mem_append, List.not_mem_nil, or_false] at h
        rcases h with rfl | h | rfl
        · simp
        · exact fillL_places h
        · simp
    · simp

section
variable {m1 m2 m3 m4 : Int}
/-- How far a line in the numbers of fixed point is from where it should be. -/
theorem On.near (h : Span m1 m2 m3 m4) {n : Nat} {y x : Int} (ho : On m1 m2 m3 m4 n y x) (hs1 : m3 - m1 ≤ 65536) (hs2 : -65536 ≤ m3 - m1) :
    (x : Rat) ≤ 8 * m1 + slopeR m1 m2 m3 m4 * prog m2 m4 y + n * (1000001 / 1000000) + 1 / 8 ∧ 8 * m1 + slopeR m1 m2 m3 m4 * prog m2 m4 y ≤ (x : Rat) + n * (1000001 / 1000000) + 1 / 8 := by
  obtain ⟨p1, p2⟩ := prog_bd h.lt y
  have hpr := h.slope_prog p1 p2
  have hc1 := castLe hs1
  have hc2 := castLe hs2
  have hn : (0 : Rat) ≤ n := by exact_mod_cast Nat.zero_le n
  have e : ((x - 8 * m1 : Int) : Rat) = x - 8 * m1 := by push_cast; rfl
  have hp0 : (0 : Rat) ≤ (prog m2 m4 y : Int) := by exact_mod_cast p1
  push_cast at hc1 hc2
  rcases Int.le_total 0 (m3 - m1) with hp | hp
  · obtain ⟨o1, o2, o3⟩ := ho.right hp
    have q := hpr.1 hp
    have hs := Rat.mul_nonneg (h.slopeR_nonneg hp) hp0
    rw [e] at o2 o3
    push_cast at q
    constructor <;> grind
  · obtain ⟨o1, o2, o3⟩ := ho.left hp
    have q := hpr.2 hp
    have hs := Rat.mul_nonneg (show 0 ≤ -slopeR m1 m2 m3 m4 by have := h.slopeR_nonpos hp; grind) hp0
    rw [e] at o2 o3
    push_cast at q
    constructor <;> grind
theorem dx_sign (h : Span m1 m2 m3 m4) {dir y : Int} (h1 : 8 * m2 / 512 ≤ y) (h2 : y < (8 * m4 + 511) / 512) :
    (0 ≤ m3 - m1 → 0 ≤ (⟨8 * m2, 8 * m4, dir, slopeW m1 m2 m3 m4⟩ : FL).dx y) ∧ (m3 - m1 ≤ 0 → (⟨8 * m2, 8 * m4, dir, slopeW m1 m2 m3 m4⟩ : FL).dx y ≤ 0) := by
  obtain ⟨p1, p2, p3⟩ := prog_next h.lt h1 h2
  have hd : (⟨8 * m2, 8 * m4, dir, slopeW m1 m2 m3 m4⟩ : FL).dx y = fint (fop .mul (floatOfInt .f32 (imin ((y + 1) * 512) (8 * m4) - imax (y * 512) (8 * m2))) (slopeW m1 m2 m3 m4)) := rfl
  rw [hd]
  have hpb := prog_bd h.lt (y + 1)
  have hpb0 := prog_bd h.lt y
  generalize imin ((y + 1) * 512) (8 * m4) - imax (y * 512) (8 * m2) = k at *
  have hsl := h.slope.1
  have hbig : ab ((m3 - m1 : Int) : Rat) ≤ 524288 := by
    have := ab_int_le (n := m3 - m1) (b := 524288) (by have := h.a1; have := h.a3; omega) (by have := h.a1; have := h.a3; omega)
    push_cast at this ⊢
    exact this
  have b1 := le_ab ((m3 - m1 : Int) : Rat)
  have b2 := neg_le_ab ((m3 - m1 : Int) : Rat)
  have hpr := h.slope_prog (n := k) p2 (by omega)
  constructor
  · intro hp
    exact (row_step p2 p3 hsl (h.slopeR_nonneg hp) (by have := hpr.1 hp; unfold slopeR at this; grind)).1
  · intro hp
    exact (row_step_neg p2 p3 hsl (h.slopeR_nonpos hp) (by have := hpr.2 hp; unfold slopeR at this; grind)).1
/-- The heights in a row, by the way so far. -/
theorem prog_ph {Y : Nat} (hlt : m2 < m4) (h1 : m2 / 64 ≤ (Y : Int)) (h2 : (Y : Int) < (m4 + 63) / 64) :
    prog m2 m4 Y = 8 * (64 * (Y : Int) + ph Y m2 - m2) ∧ prog m2 m4 (Y + 1) = 8 * (64 * (Y : Int) + ph Y m4 - m2) := by
  have a1 := ph_cases Y m2
  have a2 := ph_cases Y m4
  unfold prog imin imax
  constructor <;> split <;> split <;> omega
theorem uE_prog {Y X : Nat} (hlt : m2 < m4) (h1 : m2 / 64 ≤ (Y : Int)) (h2 : (Y : Int) < (m4 + 63) / 64) :
    uE m1 m2 m3 m4 X ((64 * (Y : Int) + ph Y m2 : Int) : Rat) = X + 1 - (8 * m1 + slopeR m1 m2 m3 m4 * prog m2 m4 Y) / 512 ∧
    uE m1 m2 m3 m4 X ((64 * (Y : Int) + ph Y m4 : Int) : Rat) = X + 1 - (8 * m1 + slopeR m1 m2 m3 m4 * prog m2 m4 (Y + 1)) / 512 := by
  obtain ⟨e1, e2⟩ := prog_ph hlt h1 h2
  rw [e1, e2]
  unfold uE xE
  push_cast
  constructor <;> grind
end
/-- The rest of the way, in cells. -/
def wayR (m3 x : Int) : Rat := ((imax (8 * m3) x - imin (8 * m3) x : Int) : Rat) / 512
/-- What a row's own error is at most. -/
def ownR (R : Nat) : Rat := 320 + R * (512 * (1000001 / 1000000))
theorem adds_area {W X Y : Nat} {m1 m2 m3 m4 dir : Int} (h : Span m1 m2 m3 m4) (hs1 : m3 - m1 ≤ 65536) (hs2 : -65536 ≤ m3 - m1) (hdir : dir = 1 ∨ dir = -1) (hX : X < W) (R : Nat) (hR : R ≤ 100000) :
    ∀ (k n : Nat) (y x : Int), On m1 m2 m3 m4 n y x → 8 * m2 / 512 ≤ y → y + k ≤ (8 * m4 + 511) / 512 → n + k = R →
      ((sumTo ((⟨8 * m2, 8 * m4, dir, slopeW m1 m2 m3 m4⟩ : FL).adds W k y x) (Y * W + X) : Int) : Rat) ≤ 4096 * rowsR (fun r => rowF Y (mE X Y m1 m2 m3 m4) (dir * (ph r m4 - ph r m2)) r) y k + wayR m3 x + 3 * k + (if y ≤ Y ∧ (Y : Int) < y + k then ownR R else 0) ∧
      4096 * rowsR (fun r => rowF Y (mE X Y m1 m2 m3 m4) (dir * (ph r m4 - ph r m2)) r) y k ≤ ((sumTo ((⟨8 * m2, 8 * m4, dir, slopeW m1 m2 m3 m4⟩ : FL).adds W k y x) (Y * W + X) : Int) : Rat) + wayR m3 x + 3 * k + (if y ≤ Y ∧ (Y : Int) < y + k then ownR R else 0)
  | 0, n, y, x, _, _, _, _ => by
    have hw : 0 ≤ wayR m3 x := by
      unfold wayR
      have := castLe (show 0 ≤ imax (8 * m3) x - imin (8 * m3) x by rcases imm (8 * m3) x with h | h <;> omega)
      rw [cast_zero] at this
      grind
    rw [if_neg (by omega)]
    simp only [FL.adds, sumTo, rowsR, cast_zero]
    constructor <;> grind
  | k + 1, n, y, x, ho, hy1, hy2, hn => by
    have hn1 := ho.next h (dir := dir) hy1 (by omega)
    obtain ⟨i1, i2⟩ := adds_area (Y := Y) h hs1 hs2 hdir hX R hR k (n + 1) (y + 1) _ hn1 (by omega) (by omega) (by omega)
    have sg := dx_sign (dir := dir) h hy1 (show y < (8 * m4 + 511) / 512 by omega)
    have wi := hn1.within h (by omega) (by omega) (by omega)
    obtain ⟨q1, q2⟩ := dy_row (dir := dir) (dd := slopeW m1 m2 m3 m4) h.lt hy1 (show y < (8 * m4 + 511) / 512 by omega)
    have near1 := ho.near h hs1 hs2
    have near2 := hn1.near h hs1 hs2
    rw [FL.adds, rowsR, sumTo_append, q1]
    generalize hx' : x + (⟨8 * m2, 8 * m4, dir, slopeW m1 m2 m3 m4⟩ : FL).dx y = x' at *
    have hway : wayR m3 x' + ((imax x x' - imin x x' : Int) : Rat) / 512 = wayR m3 x := by
      unfold wayR
      have : imax (8 * m3) x' - imin (8 * m3) x' + (imax x x' - imin x x') = imax (8 * m3) x - imin (8 * m3) x := by
        unfold imin imax at wi ⊢
        rcases Int.le_total 0 (m3 - m1) with hp | hp
        · have := sg.1 hp
          split at wi <;> split at wi <;> split <;> split <;> split <;> split <;> split <;> split <;> omega
        · have := sg.2 hp
          split at wi <;> split at wi <;> split <;> split <;> split <;> split <;> split <;> split <;> omega
      have := congrArg (fun z : Int => (z : Rat)) this
      push_cast at this ⊢
      grind
    have hcell : cellsR x x' = ((imax x x' - imin x x' : Int) : Rat) / 512 + 3 := rfl
    have hcn := cells_pos x x'
    have hown : 0 ≤ ownR R := by
      unfold ownR
      have : (0 : Rat) ≤ R := by exact_mod_cast Nat.zero_le R
      grind
    have e3 : 8 * (ph y m4 - ph y m2) * dir = 8 * (dir * (ph y m4 - ph y m2)) := by grind
    have pa := ph_cases y m2
    have pb := ph_cases y m4
    simp only
    rw [e3]
    have hk1 : ((k + 1 : Nat) : Rat) = k + 1 := by push_cast; rfl
    rw [hk1]
    generalize hD : dir * (ph y m4 - ph y m2) = D at *
    have hD1 : -64 ≤ D ∧ D ≤ 64 := by
      rcases hdir with rfl | rfl <;> omega
    by_cases hneg : y < 0
    · have hrow : rowF Y (mE X Y m1 m2 m3 m4) D y = 0 := by unfold rowF; rw [if_pos hneg]
      rw [if_pos hneg, hrow]
      have eif : (if y ≤ (Y : Int) ∧ (Y : Int) < y + ((k + 1 : Nat) : Int) then ownR R else 0) = (if y + 1 ≤ (Y : Int) ∧ (Y : Int) < y + 1 + (k : Int) then ownR R else 0) := by
        congr 1
        simp only [eq_iff_iff]
        constructor <;> intro _ <;> omega
      rw [eif]
      simp only [sumTo]
      push_cast
      constructor <;> grind
    · rw [if_neg hneg]
      obtain ⟨r, rfl⟩ : ∃ r : Nat, y = r := ⟨y.toNat, by omega⟩
      rw [show ((r : Int)).toNat = r by omega]
      rcases Nat.lt_trichotomy r Y with hr | hr | hr
      · have hrow : rowF Y (mE X Y m1 m2 m3 m4) D r = D := by unfold rowF; rw [if_neg (by omega), if_pos (by omega)]
        have hp := (place_row (Y := Y) (r := r) (c := W) hX (Nat.le_refl _)).1 hr
        have c := rowL_cum (d := 8 * D) (by omega) (by omega) (thr_all (W := W) (base := r * W) (p := Y * W + X) hp (imin x x' / 512) (imax x x' / 512 + 1))
        have hb1 := castLe (show x ≤ 512 * (imax x x' / 512 + 1) by rcases imm x x' with h | h <;> omega)
        have hb2 := castLe (show x' ≤ 512 * (imax x x' / 512 + 1) by rcases imm x x' with h | h <;> omega)
        push_cast at hb1 hb2
        rw [mean_one (by push_cast; grind) (by push_cast; grind), if_neg (by omega)] at c
        have eif : (if ((r : Nat) : Int) ≤ (Y : Int) ∧ (Y : Int) < (r : Int) + ((k + 1 : Nat) : Int) then ownR R else 0) = (if (r : Int) + 1 ≤ (Y : Int) ∧ (Y : Int) < (r : Int) + 1 + (k : Int) then ownR R else 0) := by
          congr 1
          simp only [eq_iff_iff]
          constructor <;> intro _ <;> omega
        rw [eif, hrow]
        push_cast at c ⊢
        constructor <;> grind
      · subst hr
        have hrow : rowF r (mE X r m1 m2 m3 m4) D r = D * mE X r m1 m2 m3 m4 := by unfold rowF; rw [if_neg (by omega), if_neg (by omega), if_pos rfl]
        have c := rowL_cum (d := 8 * D) (by omega) (by omega) (thr_in (W := W) (base := r * W) hX (imin x x' / 512) (imax x x' / 512 + 1))
        obtain ⟨u1, u2⟩ := uE_prog (m1 := m1) (m3 := m3) (X := X) h.lt (show m2 / 64 ≤ (r : Int) by omega) (show (r : Int) < (m4 + 63) / 64 by omega)
        have hm : mE X r m1 m2 m3 m4 = mean (X + 1 - (8 * m1 + slopeR m1 m2 m3 m4 * prog m2 m4 r) / 512) (X + 1 - (8 * m1 + slopeR m1 m2 m3 m4 * prog m2 m4 (r + 1)) / 512) := by unfold mE; rw [u1, u2]
        have f1 : (if ((r : Nat) : Int) ≤ ((r : Nat) : Int) ∧ ((r : Nat) : Int) < (r : Int) + ((k + 1 : Nat) : Int) then ownR R else 0) = ownR R := if_pos ⟨by omega, by omega⟩
        have f2 : (if (r : Int) + 1 ≤ (r : Int) ∧ (r : Int) < (r : Int) + 1 + (k : Int) then ownR R else 0) = 0 := if_neg (by omega)
        rw [f2] at i1 i2
        rw [hrow, f1]
        have hnR : (n : Rat) + 1 ≤ R := by
          have : n + 1 ≤ R := by omega
          exact_mod_cast this
        have hn0 : (0 : Rat) ≤ n := by exact_mod_cast Nat.zero_le n
        have en : ((n + 1 : Nat) : Rat) = n + 1 := by push_cast; rfl
        rw [en] at near2
        have hXc : ((X : Int) : Rat) = (X : Rat) := by push_cast; rfl
        rw [hXc] at c
        obtain ⟨t, ht⟩ : ∃ t : Rat, t = (R * (1000001 / 1000000) + 1 / 8) / 512 := ⟨_, rfl⟩
        have ht0 : 0 ≤ t := by rw [ht]; grind
        have l1 := mean_lip (a := X + 1 - (8 * m1 + slopeR m1 m2 m3 m4 * prog m2 m4 r) / 512) (b := X + 1 - (8 * m1 + slopeR m1 m2 m3 m4 * prog m2 m4 (r + 1)) / 512) (a' := X + 1 - (x : Rat) / 512) (b' := X + 1 - (x' : Rat) / 512) (t := t) (by rw [ht]; grind) (by rw [ht]; grind) ht0
        have l2 := mean_lip (a' := X + 1 - (8 * m1 + slopeR m1 m2 m3 m4 * prog m2 m4 r) / 512) (b' := X + 1 - (8 * m1 + slopeR m1 m2 m3 m4 * prog m2 m4 (r + 1)) / 512) (a := X + 1 - (x : Rat) / 512) (b := X + 1 - (x' : Rat) / 512) (t := t) (by rw [ht]; grind) (by rw [ht]; grind) ht0
        rw [← hm] at l1 l2
        generalize mE X r m1 m2 m3 m4 = M at *
        generalize mean (X + 1 - (x : Rat) / 512) (X + 1 - (x' : Rat) / 512) = M' at *
        have hg1 := castLe hD1.1
        have hg2 := castLe hD1.2
        push_cast at hg1 hg2
        have hdm : (D : Rat) * (M' - M) ≤ 64 * t ∧ -(64 * t) ≤ (D : Rat) * (M' - M) := by
          have := ab_mul_le (x := (D : Rat)) (y := M' - M) (a := 64) (b := t) (ab_le hg2 (by grind)) (ab_le (by grind) (by grind))
          have := ab_bounds this
          exact this
        have hif : (if (r : Int) < imax x x' / 512 + 1 then (256 : Rat) else 0) ≤ 256 ∧ (if (X : Int) < imax x x' / 512 + 1 then (256 : Rat) else 0) ≤ 256 := by constructor <;> split <;> grind
        have hdd : 512 * ((8 * D : Int) : Rat) * M' = 4096 * (D * M) + 4096 * (D * (M' - M)) := by push_cast; grind
        rw [hdd] at c
        unfold ownR
        push_cast at c ⊢
        constructor <;> grind
      · have hrow : rowF Y (mE X Y m1 m2 m3 m4) D r = 0 := by unfold rowF; rw [if_neg (by omega), if_neg (by omega), if_neg (by omega)]
        have hz : sumTo (rowL W (r * W) x x' (8 * D)) (Y * W + X) = 0 := by
          refine sumTo_none fun e he => ?_
          have := (place_row (Y := Y) (r := r) (c := 0) hX (Nat.zero_le _)).2 hr
          have := rowL_places he
          omega
        have f1 : (if ((r : Nat) : Int) ≤ (Y : Int) ∧ (Y : Int) < (r : Int) + ((k + 1 : Nat) : Int) then ownR R else 0) = 0 := if_neg (by omega)
        have f2 : (if (r : Int) + 1 ≤ (Y : Int) ∧ (Y : Int) < (r : Int) + 1 + (k : Int) then ownR R else 0) = 0 := if_neg (by omega)
        rw [f2] at i1 i2
        rw [hz, hrow, f1]
        push_cast
        constructor <;> grind
/-- Rows that an edge goes through, at most. -/
def rowsE (e : Pt × Pt) : Int := (imax (e.1.2 - e.2.2) (e.2.2 - e.1.2) + 63) / 64 + 1
/-- An edge whose numbers are near. -/
structure NearE (e : Pt × Pt) : Prop where
  s1 : Small e.1
  s2 : Small e.2
  x1 : e.2.1 - e.1.1 ≤ 36000
  x2 : -36000 ≤ e.2.1 - e.1.1
  y1 : e.2.2 - e.1.2 ≤ 65536
  y2 : -65536 ≤ e.2.2 - e.1.2
theorem down_fix {W H X Y : Nat} {m1 m2 m3 m4 dir : Int} (h : Span m1 m2 m3 m4) (hs1 : m3 - m1 ≤ 36000) (hs2 : -36000 ≤ m3 - m1) (hy : m4 - m2 ≤ 65536) (hdir : dir = 1 ∨ dir = -1) (hX : X < W) (hY : Y < H) {N : Nat} (hN : (m4 - m2 + 63) / 64 + 1 ≤ N) :
    Flt.ab (((sumTo ((⟨8 * m2, 8 * m4, dir, slopeW m1 m2 m3 m4⟩ : FL).adds W (rowsOf H m2 m4) (8 * m2 / 512) (8 * m1)) (Y * W + X) : Int) : Rat) - 4096 * (rowsR (fun r => ((dir * (ph r m4 - ph r m2) : Int) : Rat)) 0 Y + ((dir * (ph Y m4 - ph Y m2) : Int) : Rat) * mE X Y m1 m2 m3 m4)) ≤
      884 + N * 516 := by
  have hlt := h.lt
  have e1 : 8 * m2 / 512 = m2 / 64 := by omega
  have e2 : rowsOf H m2 m4 = (imin H ((m4 + 63) / 64) - m2 / 64).toNat := by
    unfold rowsOf
    rw [show (8 * m4 + 511) / 512 = (m4 + 63) / 64 by omega, e1]
  have hR : rowsOf H m2 m4 ≤ N ∧ (8 * m2 / 512 + (rowsOf H m2 m4 : Int) ≤ (8 * m4 + 511) / 512 ∨ rowsOf H m2 m4 = 0) ∧ rowsOf H m2 m4 ≤ 100000 := by
    unfold rowsOf imin
    split <;> omega
  have hup := rows_upto (dir := dir) (mE X Y m1 m2 m3 m4) hlt (show (Y : Int) < H by omega)
  rw [← e2] at hup
  have hNR : ((rowsOf H m2 m4 : Nat) : Rat) ≤ N := by exact_mod_cast hR.1
  have hN0 : (0 : Rat) ≤ ((rowsOf H m2 m4 : Nat) : Rat) := by exact_mod_cast Nat.zero_le _
  have hw : wayR m3 (8 * m1) ≤ 563 ∧ 0 ≤ wayR m3 (8 * m1) := by
    unfold wayR
    have a := castLe (show imax (8 * m3) (8 * m1) - imin (8 * m3) (8 * m1) ≤ 288000 by rcases imm (8 * m3) (8 * m1) with q | q <;> omega)
    have b := castLe (show 0 ≤ imax (8 * m3) (8 * m1) - imin (8 * m3) (8 * m1) by rcases imm (8 * m3) (8 * m1) with q | q <;> omega)
    push_cast at a b ⊢
    constructor <;> grind
  rcases hR.2.1 with hl | hl
  · obtain ⟨a, b⟩ := adds_area (Y := Y) h (by omega) (by omega) hdir hX (rowsOf H m2 m4) hR.2.2 (rowsOf H m2 m4) 0 (8 * m2 / 512) (8 * m1) (On.first h) (Int.le_refl _) hl (by omega)
    rw [e1] at a b
    rw [hup] at a b
    rw [← e1] at a b
    have hif : (if 8 * m2 / 512 ≤ (Y : Int) ∧ (Y : Int) < 8 * m2 / 512 + (rowsOf H m2 m4 : Int) then ownR (rowsOf H m2 m4) else 0) ≤ 320 + N * (512 * (1000001 / 1000000)) := by
      split
      · unfold ownR; grind
      · grind
    refine ab_le ?_ ?_ <;> grind
  · rw [hl] at hup ⊢
    rw [← hup]
    simp only [FL.adds, sumTo, rowsR, cast_zero]
    refine ab_le ?_ ?_ <;> grind
/-- What an edge gives to the sum up to pixel (X, Y): its height in the rows above, and its area. -/
theorem edge_fix {W H X Y : Nat} {e : Pt × Pt} (h : NearE e) (hX : X < W) (hY : Y < H) {N : Nat} (hN : rowsE e ≤ N) :
    Flt.ab (((sumTo (edgeL W H e) (Y * W + X) : Int) : Rat) - (4096 * rowsR (fun r => ((dph r e : Int) : Rat)) 0 Y + 262144 * areaE X Y e)) ≤ 884 + N * 516 := by
  obtain ⟨⟨a1, a2⟩, ⟨b1, b2⟩⟩ := e
  obtain ⟨ha, hb, x1, x2, y1, y2⟩ := h
  simp only at x1 x2 y1 y2
  unfold rowsE at hN
  simp only at hN
  unfold areaE mEdge dph
  simp only
  rcases Int.lt_trichotomy a2 b2 with h | h | h
  · rw [edgeL_down W H ha hb h, if_pos h]
    have hsp : Span a1 a2 b1 b2 := ⟨ha.1, ha.2, hb.1, hb.2, h⟩
    have q := down_fix hsp x1 x2 y1 (.inl rfl) hX hY (N := N) (by unfold imax at hN; split at hN <;> omega)
    simp only [Int.one_mul] at q
    have e : (262144 : Rat) * (((ph Y b2 - ph Y a2 : Int) : Rat) / 64 * mE X Y a1 a2 b1 b2) = 4096 * (((ph Y b2 - ph Y a2 : Int) : Rat) * mE X Y a1 a2 b1 b2) := by grind
    rw [e]
    have e2 : ∀ (s r m : Rat), s - (4096 * r + 4096 * m) = s - 4096 * (r + m) := fun s r m => by grind
    rw [e2]
    exact q
  · have hz : rowsR (fun r => ((ph r b2 - ph r a2 : Int) : Rat)) 0 Y = 0 := rowsR_zero fun r _ _ => by rw [h, Int.sub_self]; rfl
    have hN0 : (0 : Rat) ≤ (N : Rat) := by exact_mod_cast Nat.zero_le N
    rw [edgeL_flat W H ha hb h, hz, h, Int.sub_self]
    simp only [sumTo, cast_zero]
    refine ab_le ?_ ?_ <;> grind
  · rw [edgeL_up W H ha hb h, if_neg (by omega)]
    have hsp : Span b1 b2 a1 a2 := ⟨hb.1, hb.2, ha.1, ha.2, h⟩
    have q := down_fix hsp (dir := -1) (by omega) (by omega) (by omega) (.inr rfl) hX hY (N := N) (by unfold imax at hN; split at hN <;> omega)
    have er : ∀ r, (-1 : Int) * (ph r a2 - ph r b2) = ph r b2 - ph r a2 := fun r => by omega
    simp only [er] at q
    have e : (262144 : Rat) * (((ph Y b2 - ph Y a2 : Int) : Rat) / 64 * mE X Y b1 b2 a1 a2) = 4096 * (((ph Y b2 - ph Y a2 : Int) : Rat) * mE X Y b1 b2 a1 a2) := by grind
    rw [e]
    have e2 : ∀ (s r m : Rat), s - (4096 * r + 4096 * m) = s - 4096 * (r + m) := fun s r m => by grind
    rw [e2]
    exact q
theorem sumE_near {α : Type} {f g : α → Rat} {c : Rat} : ∀ {s : List α}, (∀ e ∈ s, Flt.ab (f e - g e) ≤ c) → Flt.ab (sumE f s - sumE g s) ≤ s.length * c
  | [], _ => by simp [sumE, Flt.ab]; grind
  | a :: t, h => by
    have h1 := h a (by simp)
    have h2 := sumE_near (s := t) (f := f) (g := g) (c := c) fun e he => h e (by simp [he])
    rw [sumE, sumE]
    have h3 := ab_add_le (f a - g a) (sumE f t - sumE g t)
    have e : f a + sumE f t - (g a + sumE g t) = f a - g a + (sumE f t - sumE g t) := by grind
    rw [e]
    have e2 : ((a :: t).length : Rat) * c = c + t.length * c := by simp only [List.length_cons]; push_cast; grind
    rw [e2]
    grind
/-- The sum up to pixel (X, Y), of closed paths. -/
theorem fix_near {W H X Y : Nat} (hX : X < W) (hY : Y < H) (ps : List (List Pt)) {N : Nat} (h : ∀ e ∈ ps.flatMap edges, NearE e ∧ rowsE e ≤ N) :
    Flt.ab (((sumTo (edgesL W H (ps.flatMap edges)) (Y * W + X) : Int) : Rat) - 262144 * areaR (ps.flatMap edges) X Y) ≤ (ps.flatMap edges).length * (884 + N * 516) := by
  have k := sumE_near (s := ps.flatMap edges) fun e he => edge_fix (h e he).1 hX hY (h e he).2
  rw [sumTo_edgesL]
  have hz : sumE (fun e => 4096 * rowsR (fun r => ((dph r e : Int) : Rat)) 0 Y) (ps.flatMap edges) = 0 := by
    have := rows_closed ps Y
    have e : (fun e : Pt × Pt => rowsR (fun r => 64 * ((dph r e : Int) : Rat)) 0 Y) = fun e => 64 * rowsR (fun r => ((dph r e : Int) : Rat)) 0 Y := by funext e; rw [rowsR_mul]
    rw [e, sumE_mul] at this
    rw [sumE_mul]
    grind
  have e : sumE (fun e => 4096 * rowsR (fun r => ((dph r e : Int) : Rat)) 0 Y + 262144 * areaE X Y e) (ps.flatMap edges) = 262144 * areaR (ps.flatMap edges) X Y := by
    rw [sumE_add, hz, sumE_mul]
    unfold areaR
    grind
  rw [e] at k
  exact k
end Go.Proofs.Ytmgcbodlolnheaa
