/-
  What one row of 'fixedLineTo' adds to the buffer, as a plain function.
-/
import Derived.Test.YtmgcbodlolnheaaZBuf
namespace Go.Proofs.Ytmgcbodlolnheaa
open Go.ChangeShapes Go.WideShapes Go.ChangeAt Go.RowKit

/-- j additions of v, at x0, x0 + 1, and so on. -/
def fillAt (l : List Int) (base W : Nat) (x0 v : Int) : Nat → List Int
  | 0 => l
  | j + 1 => bumpAt (fillAt l base W x0 v j) (base + clampN (x0 + (j : Int)) W) v
theorem length_fillAt (l : List Int) (base W : Nat) (x0 v : Int) (j : Nat) : (fillAt l base W x0 v j).length = l.length := by
  induction j with
  | zero => rfl
  | succ j ih => rw [fillAt, length_bumpAt, ih]

/-- One row: from x to xn, d high (with its sign); base: where the row begins. -/
def addRow (W base : Nat) (l : List Int) (x xn d : Int) : List Int :=
  let lo := imin x xn
  let hi := imax x xn
  if (hi + 511) / 512 ≤ lo / 512 + 1 then
    bumpAt (bumpAt l (base + clampN (lo / 512) W) (wrap32 (d * (512 - ((x + xn) / 2 - lo / 512 * 512))))) (base + clampN (lo / 512 + 1) W) (wrap32 (d * ((x + xn) / 2 - lo / 512 * 512)))
  else
    let om := 512 - (lo - lo / 512 * 512)
    let xf := hi - (hi + 511) / 512 * 512 + 512
    let q := fun e : Int => wrap32 ((wrap32 (e * d)).tdiv (2 * (hi - lo)))
    let l1 := bumpAt l (base + clampN (lo / 512) W) (q (om * om))
    let l2 :=
      if (hi + 511) / 512 = lo / 512 + 2 then bumpAt l1 (base + clampN (lo / 512 + 1) W) (q (2 * (hi - lo) * 512 - om * om - xf * xf))
      else
        bumpAt (fillAt (bumpAt l1 (base + clampN (lo / 512 + 1) W) (q ((768 - (lo - lo / 512 * 512)) * 1024 - om * om))) base W (lo / 512 + 2) (wrap32 ((d * 262144).tdiv (hi - lo)))
          ((hi + 511) / 512 - 1 - (lo / 512 + 2)).toNat) (base + clampN ((hi + 511) / 512 - 1) W) (q ((xf * 2 + 512) * 512 - xf * xf))
    bumpAt l2 (base + clampN ((hi + 511) / 512) W) (q (xf * xf))

section
variable (W base : Nat) (l : List Int) (x xn d lo hi : Int)
theorem addRow_narrow (hlo : lo = imin x xn) (hhi : hi = imax x xn) (h : (hi + 511) / 512 ≤ lo / 512 + 1) :
    addRow W base l x xn d = bumpAt (bumpAt l (base + clampN (lo / 512) W) (wrap32 (d * (512 - ((x + xn) / 2 - lo / 512 * 512))))) (base + clampN (lo / 512 + 1) W) (wrap32 (d * ((x + xn) / 2 - lo / 512 * 512))) := by
  subst hlo hhi
  unfold addRow
  exact if_pos h
theorem addRow_two (hlo : lo = imin x xn) (hhi : hi = imax x xn) (h : (hi + 511) / 512 = lo / 512 + 2) :
    addRow W base l x xn d = bumpAt (bumpAt (bumpAt l (base + clampN (lo / 512) W) (wrap32 ((wrap32 ((512 - (lo - lo / 512 * 512)) * (512 - (lo - lo / 512 * 512)) * d)).tdiv (2 * (hi - lo)))))
      (base + clampN (lo / 512 + 1) W) (wrap32 ((wrap32 ((2 * (hi - lo) * 512 - (512 - (lo - lo / 512 * 512)) * (512 - (lo - lo / 512 * 512)) - (hi - (hi + 511) / 512 * 512 + 512) * (hi - (hi + 511) / 512 * 512 + 512)) * d)).tdiv (2 * (hi - lo)))))
      (base + clampN ((hi + 511) / 512) W) (wrap32 ((wrap32 ((hi - (hi + 511) / 512 * 512 + 512) * (hi - (hi + 511) / 512 * 512 + 512) * d)).tdiv (2 * (hi - lo)))) := by
  subst hlo hhi
  unfold addRow
  simp only
  rw [if_neg (by omega), if_pos h]
theorem addRow_many (j : Nat) (hlo : lo = imin x xn) (hhi : hi = imax x xn) (h : (hi + 511) / 512 = lo / 512 + 3 + (j : Int)) :
    addRow W base l x xn d = bumpAt (bumpAt (fillAt (bumpAt (bumpAt l (base + clampN (lo / 512) W) (wrap32 ((wrap32 ((512 - (lo - lo / 512 * 512)) * (512 - (lo - lo / 512 * 512)) * d)).tdiv (2 * (hi - lo)))))
      (base + clampN (lo / 512 + 1) W) (wrap32 ((wrap32 (((768 - (lo - lo / 512 * 512)) * 1024 - (512 - (lo - lo / 512 * 512)) * (512 - (lo - lo / 512 * 512))) * d)).tdiv (2 * (hi - lo)))))
      base W (lo / 512 + 2) (wrap32 ((d * 262144).tdiv (hi - lo))) j)
      (base + clampN ((hi + 511) / 512 - 1) W) (wrap32 ((wrap32 ((((hi - (hi + 511) / 512 * 512 + 512) * 2 + 512) * 512 - (hi - (hi + 511) / 512 * 512 + 512) * (hi - (hi + 511) / 512 * 512 + 512)) * d)).tdiv (2 * (hi - lo)))))
      (base + clampN ((hi + 511) / 512) W) (wrap32 ((wrap32 ((hi - (hi + 511) / 512 * 512 + 512) * (hi - (hi + 511) / 512 * 512 + 512) * d)).tdiv (2 * (hi - lo)))) := by
  subst hlo hhi
  have e : j = ((imax x xn + 511) / 512 - 1 - (imin x xn / 512 + 2)).toNat := by omega
  unfold addRow
  simp only
  rw [if_neg (by omega), if_neg (by omega), ← e]
theorem length_addRow : (addRow W base l x xn d).length = l.length := by
  unfold addRow
  simp only
  split
  · simp [length_bumpAt]
  · split <;> simp [length_bumpAt, length_fillAt]
end
end Go.Proofs.Ytmgcbodlolnheaa
