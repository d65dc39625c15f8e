/-
  The numbers of fixed point: a line as a list of additions; the bytes of the mask out of sums of additions. No program is walked here.
-/
import Derived.Test.YtmgcbodlolnheaaSixty
import Derived.Test.YtmgcbodlolnheaaEqual
namespace Go.Proofs.Ytmgcbodlolnheaa
open Go.RowKit
set_option linter.unusedVariables false

/-- Additions, one behind the other. -/
def bumps : List (Nat × Int) → List Int → List Int
  | [], l => l
  | (k, v) :: t, l => bumps t (bumpAt l k v)
theorem bumps_append : ∀ (s t : List (Nat × Int)) (l : List Int), bumps (s ++ t) l = bumps t (bumps s l)
  | [], _, _ => rfl
  | (k, v) :: s, t, l => by rw [List.cons_append, bumps, bumps_append s t, bumps]
theorem length_bumps : ∀ (s : List (Nat × Int)) (l : List Int), (bumps s l).length = l.length
  | [], _ => rfl
  | (k, v) :: s, l => by rw [bumps, length_bumps s, length_bumpAt]
/-- j equal additions side by side. -/
def fillL (base W : Nat) (x0 v : Int) : Nat → List (Nat × Int)
  | 0 => []
  | j + 1 => fillL base W x0 v j ++ [(base + clampN (x0 + (j : Int)) W, v)]
theorem fillAt_bumps (l : List Int) (base W : Nat) (x0 v : Int) : ∀ j, fillAt l base W x0 v j = bumps (fillL base W x0 v j) l
  | 0 => rfl
  | j + 1 => by rw [fillAt, fillL, bumps_append, ← fillAt_bumps l base W x0 v j]; rfl
/-- The additions of one row. -/
def rowL (W base : Nat) (x xn d : Int) : List (Nat × Int) :=
  let lo := imin x xn
  let hi := imax x xn
  if (hi + 511) / 512 ≤ lo / 512 + 1 then
    [(base + clampN (lo / 512) W, wrap32 (d * (512 - ((x + xn) / 2 - lo / 512 * 512)))), (base + clampN (lo / 512 + 1) W, wrap32 (d * ((x + xn) / 2 - lo / 512 * 512)))]
  else
    let om := 512 - (lo - lo / 512 * 512)
    let xf := hi - (hi + 511) / 512 * 512 + 512
    let q := fun e : Int => wrap32 ((wrap32 (e * d)).tdiv (2 * (hi - lo)))
    (base + clampN (lo / 512) W, q (om * om)) ::
      ((if (hi + 511) / 512 = lo / 512 + 2 then [(base + clampN (lo / 512 + 1) W, q (2 * (hi - lo) * 512 - om * om - xf * xf))]
      else
        (base + clampN (lo / 512 + 1) W, q ((768 - (lo - lo / 512 * 512)) * 1024 - om * om)) ::
          (fillL base W (lo / 512 + 2) (wrap32 ((d * 262144).tdiv (hi - lo))) ((hi + 511) / 512 - 1 - (lo / 512 + 2)).toNat ++
          [(base + clampN ((hi + 511) / 512 - 1) W, q ((xf * 2 + 512) * 512 - xf * xf))])) ++
      [(base + clampN ((hi + 511) / 512) W, q (xf * xf))])
theorem addRow_bumps (W base : Nat) (l : List Int) (x xn d : Int) : addRow W base l x xn d = bumps (rowL W base x xn d) l := by
  unfold addRow rowL
  simp only
  split
  · rfl
  · split
    · rfl
    · simp only [bumps, bumps_append, fillAt_bumps, List.cons_append, List.append_assoc, List.nil_append]
/-- The additions of k rows. -/
def FL.adds (L : FL) (W : Nat) : Nat → Int → Int → List (Nat × Int)
  | 0, _, _ => []
  | k + 1, y, x => (if y < 0 then [] else rowL W (y.toNat * W) x (x + L.dx y) (L.dy y * L.dir)) ++ L.adds W k (y + 1) (x + L.dx y)
theorem FL.run_bumps (L : FL) (W : Nat) : ∀ (k : Nat) (y x : Int) (l : List Int), L.run W k y x l = bumps (L.adds W k y x) l
  | 0, _, _, _ => rfl
  | k + 1, y, x, l => by
    rw [FL.run, FL.run_bumps L W k, FL.adds, bumps_append]
    split
    · rfl
    · rw [addRow_bumps]

/-! ### sums -/
/-- The sum of the additions at places up to p. -/
def sumTo : List (Nat × Int) → Nat → Int
  | [], _ => 0
  | (k, v) :: t, p => (if k ≤ p then v else 0) + sumTo t p
theorem sumTo_append : ∀ (s t : List (Nat × Int)) (p : Nat), sumTo (s ++ t) p = sumTo s p + sumTo t p
  | [], _, _ => by simp [sumTo]
  | (k, v) :: s, t, p => by rw [List.cons_append, sumTo, sumTo_append s t, sumTo]; omega
/-- The sum of what the buffer holds up to p. -/
def psum (l : List Int) (p : Nat) : Int := (l.take (p + 1)).sum
theorem psum_bump (l : List Int) (k p : Nat) (v : Int) (hp : p < l.length) : (psum (bumpAt l k v) p - (psum l p + if k ≤ p then v else 0)) % 4294967296 = 0 := by
  unfold psum bumpAt
  rw [List.take_modify]
  generalize hm : l.take (p + 1) = m
  have hml : m.length = p + 1 := by rw [← hm, List.length_take]; omega
  by_cases hk : k ≤ p
  · rw [if_pos hk]
    have hkm : k < m.length := by omega
    have hs : ((m.modify k (fun a => (a + v) % 4294967296)).sum - (m.sum + v)) % 4294967296 = 0 := by
      clear hm hml hk hp
      induction m generalizing k with
      | nil => simp at hkm
      | cons a t ih =>
        cases k with
        | zero =>
          rw [List.modify_zero_cons, List.sum_cons, List.sum_cons]
          omega
        | succ k =>
          have := ih k (by simpa using hkm)
          rw [List.modify_succ_cons, List.sum_cons, List.sum_cons]
          omega
    exact hs
  · rw [if_neg hk, List.modify_eq_self (by omega)]
    simp
theorem psum_bumps : ∀ (s : List (Nat × Int)) (l : List Int) (p : Nat), p < l.length → (psum (bumps s l) p - (psum l p + sumTo s p)) % 4294967296 = 0
  | [], l, p, _ => by simp [bumps, sumTo]
  | (k, v) :: t, l, p, hp => by
    have h1 := psum_bump l k p v hp
    have h2 := psum_bumps t (bumpAt l k v) p (by rw [length_bumpAt]; exact hp)
    rw [bumps, sumTo]
    omega
theorem wrap32_mod (a b : Int) (h : (a - b) % 4294967296 = 0) : wrap32 a = wrap32 b := by unfold wrap32; omega
theorem wrap32_wrap (a b : Int) : wrap32 (wrap32 a + wrap32 b) = wrap32 (a + b) := by unfold wrap32; omega
theorem fixBytes_at : ∀ (l : List Int) (acc : Int) (p : Nat), p < l.length → (fixBytes (wrap32 acc) l)[p]? = some (fixByte (wrap32 (acc + psum l p)))
  | [], _, _, h => by simp at h
  | v :: t, acc, 0, _ => by simp [fixBytes, psum, wrap32_wrap]
  | v :: t, acc, p + 1, h => by
    rw [fixBytes, wrap32_wrap, List.getElem?_cons_succ, fixBytes_at t (acc + v) p (by simpa using h)]
    simp [psum, Int.add_assoc]
theorem psum_zero (n p : Nat) : psum (List.replicate n 0) p = 0 := by
  unfold psum
  rw [List.take_replicate, List.sum_replicate_int]
  simp
/-- A mask in the numbers of fixed point, byte by byte. -/
theorem fixMask_at (s : List (Nat × Int)) (n p : Nat) (hp : p < n) : (fixBytes 0 (bumps s (List.replicate n 0)))[p]? = some (fixByte (wrap32 (sumTo s p))) := by
  have h0 : wrap32 0 = 0 := by unfold wrap32; omega
  have hl : p < (bumps s (List.replicate n 0)).length := by rw [length_bumps]; simpa using hp
  have h := fixBytes_at (bumps s (List.replicate n 0)) 0 p hl
  rw [h0] at h
  rw [h]
  have h1 := psum_bumps s (List.replicate n 0) p (by simpa using hp)
  rw [psum_zero] at h1
  congr 2
  exact wrap32_mod _ _ (by omega)
end Go.Proofs.Ytmgcbodlolnheaa
