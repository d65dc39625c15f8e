/-
  Stairs: a pixel is covered whole if they go round it, and not at all otherwise. No program is walked here.
  'laws.FnStairsAreWinding': the walk.
  Of closed paths with horizontal and vertical edges on the sides of pixels, a pixel is covered whole if they go round it, and not at all otherwise. No condition beyond the statement's own.
-/
import Derived.Test.YtmgcbodlolnheaaUpr
import Derived.Test.YtmgcbodlolnheaaStOps
import Derived.Test.YtmgcbodlolnheaaLaw
namespace Go.Proofs.Ytmgcbodlolnheaa
open Flt Go.RowKit
set_option linter.unusedVariables false

/-- An edge of stairs. -/
structure Step (e : Pt × Pt) : Prop where
  a1 : e.1.1 % 64 = 0
  a2 : e.1.2 % 64 = 0
  b1 : e.2.1 % 64 = 0
  b2 : e.2.2 % 64 = 0
  up : e.1.1 = e.2.1 ∨ e.1.2 = e.2.2
  far : (-256000 ≤ e.1.1 ∧ e.1.1 ≤ 256000) ∧ (-256000 ≤ e.1.2 ∧ e.1.2 ≤ 256000) ∧ (-256000 ≤ e.2.1 ∧ e.2.1 ≤ 256000) ∧ (-256000 ≤ e.2.2 ∧ e.2.2 ≤ 256000)
theorem Step.is_up {e : Pt × Pt} (h : Step e) : Up e := ⟨⟨by have := h.far; omega, by have := h.far; omega⟩, ⟨by have := h.far; omega, by have := h.far; omega⟩, h.up⟩
theorem step_ph {t r : Int} (h : t % 64 = 0) : ph r t = if t ≤ 64 * r + 32 then 0 else 64 := by
  have := ph_cases r t
  split <;> omega
theorem step_cross {e : Pt × Pt} (h : Step e) (X Y : Nat) : dph Y e * cl64 X e.1.1 = 4096 * crossN e (64 * X + 32) (64 * Y + 32) := by
  obtain ⟨⟨x0, y0⟩, ⟨x1, y1⟩⟩ := e
  obtain ⟨h1, h2, h3, h4, h5, _⟩ := h
  simp only at h1 h2 h3 h4 h5
  unfold dph crossN
  simp only
  rw [step_ph h2, step_ph h4]
  have hc := cl64_cases X x0
  by_cases c1 : y0 ≤ 64 * (Y : Int) + 32
  · by_cases c2 : y1 ≤ 64 * (Y : Int) + 32
    · simp [c1, c2]
    · have hx : x0 = x1 := by omega
      subst hx
      have hlt : ¬ y1 < y0 := by omega
      simp only [c1, c2, if_true, if_false, hlt, eq_iff_iff, iff_false, not_true, Int.sub_self, Int.zero_mul]
      have hp : (0 < (64 * (X : Int) + 32 - x0) * (y1 - y0)) ↔ 0 < 64 * (X : Int) + 32 - x0 := by
        constructor
        · intro h
          rcases Int.lt_or_le 0 (64 * (X : Int) + 32 - x0) with h6 | h6
          · exact h6
          · have := Int.mul_le_mul_of_nonneg_right h6 (show 0 ≤ y1 - y0 by omega)
            omega
        · intro h
          exact Int.mul_pos h (by omega)
      simp only [hp]
      split <;> omega
  · by_cases c2 : y1 ≤ 64 * (Y : Int) + 32
    · have hx : x0 = x1 := by omega
      subst hx
      have hlt : y1 < y0 := by omega
      simp only [c1, c2, if_true, if_false, hlt, eq_iff_iff, false_iff, not_true, Int.sub_self, Int.zero_mul]
      have hp : ((64 * (X : Int) + 32 - x0) * (y1 - y0) < 0) ↔ 0 < 64 * (X : Int) + 32 - x0 := by
        constructor
        · intro h
          rcases Int.lt_or_le 0 (64 * (X : Int) + 32 - x0) with h6 | h6
          · exact h6
          · have := Int.mul_le_mul_of_nonpos_right h6 (show y1 - y0 ≤ 0 by omega)
            omega
        · intro h
          exact Int.mul_neg_of_pos_of_neg h (by omega)
      simp only [hp]
      split <;> omega
    · simp [c1, c2]
theorem area_wind {es : List (Pt × Pt)} (h : ∀ e ∈ es, Step e) (X Y : Nat) : area64 es X Y = 4096 * windTo es (64 * X + 32) (64 * Y + 32) := by
  unfold area64 zsum windTo
  induction es with
  | nil => rfl
  | cons e t ih =>
    rw [List.map_cons, List.sum_cons, List.map_cons, List.sum_cons, ih fun e he => h e (by simp [he]), step_cross (h e (by simp))]
    omega
/-- The byte of a pixel that is gone round n times. -/
def windByte (n : Int) : Int := if n = 0 then 0 else 255
theorem stairs_mask (mode : Bool) {W H X Y : Nat} (hX : X < W) (hY : Y < H) (hH : H ≤ 2000) {ps : List (List Pt)} (hne : ∀ p ∈ ps, p ≠ []) (h : ∀ e ∈ ps.flatMap edges, Step e) (hlen : (ps.flatMap edges).length ≤ 8000) :
    (maskR mode W H (ps.flatMap pathOps))[Y * W + X]? = some (windByte (windTo (ps.flatMap edges) (64 * X + 32) (64 * Y + 32))) := by
  have hp : Y * W + X < W * H := by
    have h1 : (Y + 1) * W ≤ H * W := Nat.mul_le_mul_right W hY
    rw [Nat.add_mul, Nat.one_mul, Nat.mul_comm H W] at h1
    omega
  have hw := windTo_bd (ps.flatMap edges) (64 * (X : Int) + 32) (64 * (Y : Int) + 32)
  have ha := area_wind h X Y
  cases mode
  · rw [maskR_fixS W H hne, fixMask_at _ _ _ hp, fix_area hX hY ps fun e he => (h e he).is_up, ha]
    generalize windTo (ps.flatMap edges) (64 * (X : Int) + 32) (64 * (Y : Int) + 32) = n at hw
    have hn : n.natAbs ≤ 8000 := by omega
    rw [wrap32_small (by omega) (by omega), fixByte_of (by omega)]
    unfold windByte
    congr 1
    split <;> split <;> omega
  · obtain ⟨z, z1, z2, z3, z4⟩ := flo_area hX hY ps fun e he => (h e he).is_up
    have hz : ∀ x ∈ z, x.2 % 4096 = 0 := by
      intro x hx
      obtain ⟨e, he, k, y, hm⟩ := z4 x hx
      refine upL_whole (h e he).a1 (fun r => ?_) hm
      unfold dph
      rw [step_ph (h e he).b2, step_ph (h e he).a2]
      split <;> split <;> rfl
    have hs := coarse_size hz
    have hsum := coarse_sum (Y * W + X) hz
    have hbig : sizeL (coarse z) ≤ 16777216 := by
      have h1 : 4096 * H * (ps.flatMap edges).length ≤ 4096 * 2000 * 8000 := Nat.mul_le_mul (Nat.mul_le_mul (Nat.le_refl _) hH) hlen
      omega
    obtain ⟨a, e1, e2⟩ := floMask_ex (by decide) (by decide) (z1.coarse hz) hbig hp
    rw [maskR_floS W H hne, e1]
    congr 1
    have hn : sumTo (coarse z) (Y * W + X) = windTo (ps.flatMap edges) (64 * X + 32) (64 * Y + 32) := by omega
    rw [hn] at e2
    generalize windTo (ps.flatMap edges) (64 * (X : Int) + 32) (64 * (Y : Int) + 32) = n at hw e2
    have hv : V a = n := by rw [e2.2, p2_zero, Rat.mul_one]
    unfold windByte
    by_cases h0 : n = 0
    · rw [if_pos h0]
      exact floByte_none e2.1 (by rw [hv, h0]; rfl)
    · rw [if_neg h0]
      refine floByte_full e2.1 ?_
      rw [hv]
      have h1 := le_ab (n : Rat)
      have h2 := neg_le_ab (n : Rat)
      rcases Int.lt_or_le 0 n with hpos | hneg
      · have h3 := Rat.intCast_le_intCast.2 (show (1 : Int) ≤ n by omega)
        push_cast at h3
        grind
      · have h3 := Rat.intCast_le_intCast.2 (show n ≤ (-1 : Int) by omega)
        push_cast at h3
        grind
/-! ### the lists -/
theorem stairsTo_get (xs ys : List Int) : ∀ (m k : Nat), k < m → (stairsTo xs ys m)[2 * k]? = some (xs.getD k 0, ys.getD k 0) ∧ (stairsTo xs ys m)[2 * k + 1]? = some (xs.getD ((k + 1) % xs.length) 0, ys.getD k 0)
  | 0, k, h => by omega
  | m + 1, k, h => by
    rw [stairsTo_succ]
    have hl := length_stairsTo xs ys m
    by_cases hk : k < m
    · obtain ⟨h1, h2⟩ := stairsTo_get xs ys m k hk
      rw [List.getElem?_append_left (by omega), List.getElem?_append_left (by omega)]
      exact ⟨h1, h2⟩
    · obtain rfl : k = m := by omega
      rw [List.getElem?_append_right (by omega), List.getElem?_append_right (by omega), hl]
      rw [show 2 * k - k * 2 = 0 by omega, show 2 * k + 1 - k * 2 = 1 by omega]
      exact ⟨rfl, rfl⟩
theorem getD_mem {l : List Int} {i : Nat} (h : i < l.length) : l.getD i 0 ∈ l := by
  rw [getD_at h]
  exact List.getElem_mem h
theorem getD_of {l : List Pt} {i : Nat} {p : Pt} (h : l[i]? = some p) : l.getD i (0, 0) = p := by
  simp [List.getD, h]
theorem stairs_steps {xs ys : List Int} {n : Nat} (hn : 1 ≤ n) (hx : xs.length = n) (hy : ys.length = n) (hfx : ∀ x ∈ xs, x % 64 = 0 ∧ -256000 ≤ x ∧ x ≤ 256000) (hfy : ∀ y ∈ ys, y % 64 = 0 ∧ -256000 ≤ y ∧ y ≤ 256000) :
    ∀ e ∈ edges (stairsTo xs ys n), Step e := by
  intro e he
  rw [← polyTo_edges, length_stairsTo] at he
  unfold polyTo at he
  obtain ⟨i, hi, rfl⟩ := List.mem_map.1 he
  have hi2 : i < n * 2 := by simpa using hi
  rw [length_stairsTo]
  have hX := fun k (h : k < n) => hfx _ (getD_mem (l := xs) (i := k) (by omega))
  have hY := fun k (h : k < n) => hfy _ (getD_mem (l := ys) (i := k) (by omega))
  rcases Nat.mod_two_eq_zero_or_one i with hm | hm
  · obtain ⟨k, rfl⟩ : ∃ k, i = 2 * k := ⟨i / 2, by omega⟩
    obtain ⟨g1, g2⟩ := stairsTo_get xs ys n k (by omega)
    rw [getD_of g1, Nat.mod_eq_of_lt (by omega), getD_of g2]
    have hq : (k + 1) % xs.length < n := by rw [hx]; exact Nat.mod_lt _ (by omega)
    obtain ⟨a1, a2, a3⟩ := hX k (by omega)
    obtain ⟨b1, b2, b3⟩ := hX _ hq
    obtain ⟨c1, c2, c3⟩ := hY k (by omega)
    exact ⟨a1, c1, b1, c1, .inr rfl, ⟨a2, a3⟩, ⟨c2, c3⟩, ⟨b2, b3⟩, ⟨c2, c3⟩⟩
  · obtain ⟨k, rfl⟩ : ∃ k, i = 2 * k + 1 := ⟨i / 2, by omega⟩
    obtain ⟨g1, g2⟩ := stairsTo_get xs ys n k (by omega)
    have hq : (k + 1) % n < n := Nat.mod_lt _ (by omega)
    obtain ⟨j1, _⟩ := stairsTo_get xs ys n ((k + 1) % n) hq
    have e : (2 * k + 1 + 1) % (n * 2) = 2 * ((k + 1) % n) := by
      rw [show 2 * k + 1 + 1 = 2 * (k + 1) by omega, show n * 2 = 2 * n by omega]
      exact Nat.mul_mod_mul_left 2 (k + 1) n
    rw [getD_of g2, e, getD_of j1, hx]
    obtain ⟨a1, a2, a3⟩ := hX _ hq
    obtain ⟨c1, c2, c3⟩ := hY k (by omega)
    obtain ⟨d1, d2, d3⟩ := hY _ hq
    exact ⟨a1, c1, a1, d1, .inl rfl, ⟨a2, a3⟩, ⟨c2, c3⟩, ⟨a2, a3⟩, ⟨d2, d3⟩⟩
/-- What the lists that pass the test are. -/
theorem stTest_all : ∀ {ls : List (List Int)} {all : Nat}, stTest ls all = true → all + stAll ls ≤ 4000 ∨ ls = [] 
  | [], _, _ => .inr rfl
  | l :: t, all, h => by
    simp only [stTest, Bool.and_eq_true, decide_eq_true_eq] at h
    left
    rcases stTest_all h.2 with h1 | rfl
    · simp only [stAll, List.map_cons, List.sum_cons] at h1 ⊢
      omega
    · simp only [stAll, List.map_cons, List.map_nil, List.sum_cons, List.sum_nil]
      omega
theorem stTest_mem : ∀ {ls : List (List Int)} {all : Nat}, stTest ls all = true → ∀ l ∈ ls, farXY (stX l) (stY l) = false ∧ 2 ≤ stN l
  | [], _, _, l, hl => by simp at hl
  | l :: t, all, h, l', hl => by
    simp only [stTest, Bool.and_eq_true, decide_eq_true_eq, Bool.not_eq_true'] at h
    rcases List.mem_cons.1 hl with rfl | hl
    · exact ⟨h.1.1.1, h.1.1.2⟩
    · exact stTest_mem h.2 l' hl
theorem farXY_near {X Y : List Int} (hl : X.length = Y.length) (h : farXY X Y = false) : (∀ x ∈ X, -4000 ≤ x ∧ x ≤ 4000) ∧ ∀ y ∈ Y, -4000 ≤ y ∧ y ≤ 4000 := by
  unfold farXY at h
  rw [List.any_eq_false] at h
  have key : ∀ i, (h1 : i < X.length) → (-4000 ≤ X[i] ∧ X[i] ≤ 4000) ∧ (-4000 ≤ Y[i] ∧ Y[i] ≤ 4000) := by
    intro i h1
    have hm : (X[i], Y[i]) ∈ X.zip Y := by
      rw [List.mem_iff_getElem]
      exact ⟨i, by simp; omega, by simp⟩
    have := h _ hm
    simp only [beyondB, Bool.or_eq_true, decide_eq_true_eq, not_or] at this
    omega
  constructor
  · intro x hx
    obtain ⟨i, h1, rfl⟩ := List.mem_iff_getElem.1 hx
    exact (key i h1).1
  · intro y hy
    obtain ⟨i, h1, rfl⟩ := List.mem_iff_getElem.1 hy
    exact (key i (by omega)).2
theorem sc_near {l : List Int} (h : ∀ x ∈ l, -4000 ≤ x ∧ x ≤ 4000) : ∀ x ∈ sc l, x % 64 = 0 ∧ -256000 ≤ x ∧ x ≤ 256000 := by
  intro x hx
  obtain ⟨y, hy, rfl⟩ := List.mem_map.1 hx
  have := h y hy
  omega
/-- Lists that pass the test make stairs. -/
theorem st_steps {ls : List (List Int)} (h : stTest ls 0 = true) : ∀ e ∈ (ls.map stPts).flatMap edges, Step e := by
  intro e he
  obtain ⟨p, hp, he⟩ := List.mem_flatMap.1 he
  obtain ⟨l, hl, rfl⟩ := List.mem_map.1 hp
  obtain ⟨h1, h2⟩ := stTest_mem h l hl
  obtain ⟨h3, h4⟩ := farXY_near (by rw [length_stX, length_stY]) h1
  exact stairs_steps (by omega) (by simp [sc, length_stX]) (by simp [sc, length_stY]) (sc_near h3) (sc_near h4) e he
theorem st_edges (ls : List (List Int)) : stEdges ls = (ls.map stPts).flatMap edges := by
  unfold stEdges
  rw [List.flatMap_map]
  congr 1
  funext l
  exact polyTo_edges _
theorem st_ops (ls : List (List Int)) : stOps ls = (ls.map stPts).flatMap pathOps := by
  unfold stOps
  rw [List.flatMap_map]
theorem st_ne {ls : List (List Int)} (h : stTest ls 0 = true) : ∀ p ∈ ls.map stPts, p ≠ [] := by
  intro p hp
  obtain ⟨l, hl, rfl⟩ := List.mem_map.1 hp
  obtain ⟨_, h2⟩ := stTest_mem h l hl
  intro h0
  have := length_stPts l
  rw [h0] at this
  simp at this
  omega
theorem edge_of_mem {p : List Pt} {q : Pt} (h : q ∈ p) : ∃ e ∈ edges p, e.1 = q := by
  obtain ⟨i, hi, rfl⟩ := List.mem_iff_getElem.1 h
  rw [← polyTo_edges]
  refine ⟨_, List.mem_map.2 ⟨i, by simpa using hi, rfl⟩, ?_⟩
  simp [List.getD, hi]
theorem st_far {ls : List (List Int)} (h : stTest ls 0 = true) : ∀ p ∈ ls.map stPts, Far p 262144 := by
  intro p hp q hq
  obtain ⟨e, he, rfl⟩ := edge_of_mem hq
  have := (st_steps h e (List.mem_flatMap.2 ⟨p, hp, he⟩)).far
  omega
theorem st_near {ls : List (List Int)} (h : stTest ls 0 = true) : ∀ e ∈ stEdges ls, EdgeNear e := by
  intro e he
  rw [st_edges] at he
  have := (st_steps h e he).far
  unfold EdgeNear
  omega
theorem st_mask (mode : Bool) {W H X Y : Nat} (hX : X < W) (hY : Y < H) (hH : H ≤ 2000) {ls : List (List Int)} (h : stTest ls 0 = true) :
    (maskR mode W H (stOps ls))[Y * W + X]? = some (windByte (windTo (stEdges ls) (64 * X + 32) (64 * Y + 32))) := by
  have hl := length_stEdges ls
  rw [st_edges] at hl
  rw [st_ops, st_edges]
  refine stairs_mask mode hX hY hH (st_ne h) (st_steps h) ?_
  rcases stTest_all h with h1 | rfl
  · omega
  · simp
end Go.Proofs.Ytmgcbodlolnheaa

namespace Go.Proofs.Ytmgcbodlolnheaa.fnStairs
open Go.ChangeShapes Go.WideShapes Go.ChangeAt Go.RowKit Go.Deep
set_option linter.unusedVariables false

theorem windByte_cases (n : Int) : (n = 0 ∧ windByte n = 0) ∨ (n ≠ 0 ∧ windByte n = 255) := by
  unfold windByte
  split
  · exact .inl ⟨by assumption, rfl⟩
  · exact .inr ⟨by assumption, rfl⟩
theorem idx_in {W H x y : Nat} (hy : y < H) (hx : x < W) : y * W + x < W * H := by
  have h1 : (y + 1) * W ≤ H * W := Nat.mul_le_mul_right W hy
  rw [Nat.add_mul, Nat.one_mul, Nat.mul_comm H W] at h1
  omega
set_option maxHeartbeats 40000000 in
set_option maxRecDepth 100000 in
theorem walk_long (W H : Nat) (ls : List (List Int)) (v : Value) (w : World) (hs : sizedB (W : Int) (H : Int) = true) (hv : ListsAt w w.heap.size v ls) (hfit : fitsB ls = true) (hst : stairsB ls = true) :
    Calls Try.prog 6 #[.int .i64 W, .int .i64 H, v] w fun e w' => e = .returned (.bool true) ∧ Same w w' := by
  obtain ⟨s1, s2, s3, s4, s5⟩ := sizedB_iff.1 hs
  have HS := hid hs
  have HV := hid hv
  have HF := hid hfit
  have HB := hid hst
  have htest : stTest ls 0 = true := by unfold stairsB at hst; rw [Bool.and_eq_true] at hst; exact hst.2
  have HT := hid htest
  have hWn : W ≤ 2000 := by omega
  have hHn : H ≤ 2000 := by omega
  have hn : W * H ≤ 65536 := by
    have : ((W * H : Nat) : Int) ≤ 65536 := by push_cast; exact s5
    omega
  have hok : MaskROk (bigB W H) W H (stOps ls) := by rw [st_ops]; exact maskROk_several _ W H (st_ne htest) (st_far htest)
  have HOK := hid hok
  clear hs hv hfit hst htest hok
  go_enter Try.func6, Try.ntmps6
  go_wp2_with fail
  refine (fits1_any ls v w HV.out).mono ?_
  rintro e w' ⟨rfl, rfl⟩
  rw [HF.out]
  go_wp2_with fail
  refine (stairsOps_any ls v w HV.out HF.out).mono ?_
  rintro e w1 ⟨v7, v8, rfl, t1, t2⟩
  rw [HB.out]
  have T1 := hid (t1 HB.out)
  have T2 := hid t2
  clear t1 t2
  go_wp2_with fail
  refine (sized_any (W : Int) (H : Int) w1).mono ?_
  rintro e w' ⟨rfl, rfl⟩
  rw [HS.out]
  go_wp2_with fail
  have hops : OpsAt w1 w1.heap.size v7 (stOps ls) := by
    obtain ⟨xs, r1, r2⟩ := T1.out.ops
    refine opsAt_own rfl ?_ r1 r2
    have h9 := length_stOps ls
    rcases stTest_all HT.out with h8 | rfl
    · have h7 : ls.length ≤ 100 := by
        have h6 := HB.out
        unfold stairsB at h6
        rw [Bool.and_eq_true] at h6
        simpa using h6.1
      omega
    · simp [stOps]
  have HOP := hid hops
  clear hops
  refine (mask_any W H (stOps ls) v7 w1 (by omega) hWn (by omega) hHn hn HOP.out HOK.out).mono ?_
  rintro e w2 ⟨d, rfl, hd, t1, t2⟩
  have BA := hid t1
  have T3 := hid (T2.out.trans t2)
  have E2 := hid (own_sameW T1.out.edges t2)
  have hlA : (maskR (bigB W H) W H (stOps ls)).length = W * H := by rw [st_ops]; exact len_several W H _ (st_ne HT.out)
  have hlaw : ∀ x y, x < W → y < H → (maskR (bigB W H) W H (stOps ls))[y * W + x]? = some (windByte (windTo (stEdges ls) (64 * x + 32) (64 * y + 32))) := fun x y hx hy => st_mask _ hx hy hHn HT.out
  generalize maskR (bigB W H) W H (stOps ls) = m at BA hlA hlaw
  have HLAW := hid hlaw
  have HLA := hid hlA
  have hel : (stEdges ls).length ≤ 1000000 := by
    have h9 := length_stEdges ls
    rcases stTest_all HT.out with h8 | rfl
    · omega
    · simp [stEdges]
  have hen := st_near HT.out
  generalize stEdges ls = es at E2 hlaw HLAW hel hen
  have HEN := hid hen
  have HEL := hid hel
  clear t1 t2 hlaw hlA hel hen
  go_wp2_with fail
  go_loopw [41] (fun i wr => ∃ y : Nat, y ≤ H ∧ i = .int .i64 y ∧ Same w2 wr) (fun i _ => H - (intOf i).toNat)
  case atStart => exact ⟨0, Nat.zero_le _, rfl, Kept.refl _ _⟩
  case round =>
    obtain ⟨y, hy, rfl, hsy⟩ := hrel
    have HSY := hid hsy
    clear hsy
    by_cases hyl : y < H
    · obtain ⟨wo, rfl⟩ : ∃ wo : World, wo = wr := ⟨_, rfl⟩
      go_wp2_with fail
      go_loopw [45] (fun i wr => ∃ x : Nat, x ≤ W ∧ i = .int .i64 x ∧ Same w2 wr) (fun i _ => W - (intOf i).toNat)
      case atStart => exact ⟨0, Nat.zero_le _, rfl, HSY.out⟩
      case round =>
        obtain ⟨x, hx, rfl, hsx⟩ := hrel
        have HSX := hid hsx
        clear hsx
        by_cases hxl : x < W
        · have hidx := idx_in hyl hxl
          have hlx := HLAW.out x y hxl hyl
          have e1 : IntKind.i64.wrap ((y : Int) * (W : Int)) = (y : Int) * (W : Int) := by rw [← Int.natCast_mul]; exact IntWalk.i64_in _ (by omega)
          obtain ⟨k, hk⟩ : ∃ k, k = y * W + x := ⟨_, rfl⟩
          have e2 : IntKind.i64.wrap ((y : Int) * (W : Int) + (x : Int)) = (k : Int) := by rw [hk]; push_cast; exact IntWalk.i64_in _ (by rw [← Int.natCast_mul]; omega)
          rw [← hk] at hlx hidx
          have c1 : wr.cell? ⟨d, k, none⟩ = some (.int .u8 (windByte (windTo es (64 * x + 32) (64 * y + 32)))) := by
            rw [byte_cell (HSX.out.blk BA.out id) (by rw [HLA.out]; omega)]
            simp [List.getD, hlx]
          have E3 := hid (own_sameW E2.out HSX.out)
          obtain ⟨nw, hnw⟩ : ∃ nw, nw = windTo es (64 * x + 32) (64 * y + 32) := ⟨_, rfl⟩
          have HNW := hid hnw
          rw [← hnw] at c1
          have hdl : d < wr.heap.size := World.block_lt_of_cell? wr ⟨d, k, none⟩ c1
          have hki : (k : Int) < ((W * H : Nat) : Int) := by omega
          have hki2 : (k : Int) < (W : Int) * (H : Int) := by rw [← Int.natCast_mul]; exact hki
          have hkn : k < W * H := hidx
          have C1 := hid c1
          clear hlx hk hnw c1 hidx hn s5
          rcases windByte_cases nw with ⟨h0, hb⟩ | ⟨h0, hb⟩
          · rw [hb] at C1
            have c1 := C1.out
            subst h0
            clear hb C1
            go_wp2_with fail
            refine wp_region_held_drew (S := fun w' => w'.cell? ⟨d, k, none⟩ = some (.int .u8 0)) (by kernel_rfl) c1 (fun hHeld => ?_)
            refine' wpAnyH_take (i := 0) (oi := { dst := some 48, op := Go.Op.move (Go.Operand.tmp 8), type := 40, pos := "laws.go:88", after := #[], guard := none }) (v := _) rfl (by kernel_rfl) (by kernel_rfl) (by kernel_rfl) (fun _ _ _ h => h) (Or.inl ⟨by rfl, ?_⟩) hHeld ?_
            rotate_left 1
            · intro w' hSw
              try dsimp only at hSw
              go_simp
              try with_reducible rfl
            try simp only [Act.put, List.setIfInBounds_toArray, List.set_cons_zero, List.set_cons_succ]
            refine' wpAnyH_take (i := 1) (oi := { dst := some 49, op := Go.Op.move (Go.Operand.tmp 12), type := 3, pos := "laws.go:88", after := #[], guard := none }) (v := _) rfl (by kernel_rfl) (by kernel_rfl) (by kernel_rfl) (fun _ _ _ h => h) (Or.inl ⟨by rfl, ?_⟩) hHeld ?_
            rotate_left 1
            · intro w' hSw
              try dsimp only at hSw
              go_simp
              try with_reducible rfl
            try simp only [Act.put, List.setIfInBounds_toArray, List.set_cons_zero, List.set_cons_succ]
            refine' wpAnyH_take (i := 2) (oi := { dst := some 50, op := Go.Op.move (Go.Operand.tmp 11), type := 3, pos := "laws.go:88", after := #[], guard := none }) (v := _) rfl (by kernel_rfl) (by kernel_rfl) (by kernel_rfl) (fun _ _ _ h => h) (Or.inl ⟨by rfl, ?_⟩) hHeld ?_
            rotate_left 1
            · intro w' hSw
              try dsimp only at hSw
              go_simp
              try with_reducible rfl
            try simp only [Act.put, List.setIfInBounds_toArray, List.set_cons_zero, List.set_cons_succ]
            refine' wpAnyH_take (i := 5) (oi := { dst := some 53, op := Go.Op.move (Go.Operand.tmp 10), type := 34, pos := "laws.go:88", after := #[], guard := none }) (v := _) rfl (by kernel_rfl) (by kernel_rfl) (by kernel_rfl) (fun _ _ _ h => h) (Or.inl ⟨by rfl, ?_⟩) hHeld ?_
            rotate_left 1
            · intro w' hSw
              try dsimp only at hSw
              go_simp
              try with_reducible rfl
            try simp only [Act.put, List.setIfInBounds_toArray, List.set_cons_zero, List.set_cons_succ]
            refine' wpAnyH_take (i := 6) (oi := { dst := some 54, op := Go.Op.move (Go.Operand.tmp 11), type := 3, pos := "laws.go:88", after := #[], guard := none }) (v := _) rfl (by kernel_rfl) (by kernel_rfl) (by kernel_rfl) (fun _ _ _ h => h) (Or.inl ⟨by rfl, ?_⟩) hHeld ?_
            rotate_left 1
            · intro w' hSw
              try dsimp only at hSw
              go_simp
              try with_reducible rfl
            try simp only [Act.put, List.setIfInBounds_toArray, List.set_cons_zero, List.set_cons_succ]
            refine' wpAnyH_take (i := 7) (oi := { dst := some 55, op := Go.Op.move (Go.Operand.tmp 0), type := 3, pos := "laws.go:88", after := #[], guard := none }) (v := _) rfl (by kernel_rfl) (by kernel_rfl) (by kernel_rfl) (fun _ _ _ h => h) (Or.inl ⟨by rfl, ?_⟩) hHeld ?_
            rotate_left 1
            · intro w' hSw
              try dsimp only at hSw
              go_simp
              try with_reducible rfl
            try simp only [Act.put, List.setIfInBounds_toArray, List.set_cons_zero, List.set_cons_succ]
            refine' wpAnyH_take (i := 8) (oi := { dst := some 56, op := Go.Op.binOp Go.BinOp.mul 3 (Go.Operand.tmp 54) (Go.Operand.tmp 55) 3, type := 3, pos := "laws.go:88", after := #[{ on := 6, ground := Go.Ground.data }, { on := 7, ground := Go.Ground.data }], guard := none }) (v := _) rfl (by kernel_rfl) (by kernel_rfl) (by kernel_rfl) (fun _ _ _ h => h) (Or.inl ⟨by rfl, ?_⟩) hHeld ?_
            rotate_left 1
            · intro w' hSw
              try dsimp only at hSw
              go_simp
              try with_reducible rfl
            try simp only [Act.put, List.setIfInBounds_toArray, List.set_cons_zero, List.set_cons_succ]
            refine' wpAnyH_take (i := 9) (oi := { dst := some 57, op := Go.Op.move (Go.Operand.tmp 12), type := 3, pos := "laws.go:88", after := #[], guard := none }) (v := _) rfl (by kernel_rfl) (by kernel_rfl) (by kernel_rfl) (fun _ _ _ h => h) (Or.inl ⟨by rfl, ?_⟩) hHeld ?_
            rotate_left 1
            · intro w' hSw
              try dsimp only at hSw
              go_simp
              try with_reducible rfl
            try simp only [Act.put, List.setIfInBounds_toArray, List.set_cons_zero, List.set_cons_succ]
            refine' wpAnyH_take (i := 10) (oi := { dst := some 58, op := Go.Op.binOp Go.BinOp.add 3 (Go.Operand.tmp 56) (Go.Operand.tmp 57) 3, type := 3, pos := "laws.go:88", after := #[{ on := 8, ground := Go.Ground.data }, { on := 9, ground := Go.Ground.data }], guard := none }) (v := _) rfl (by kernel_rfl) (by kernel_rfl) (by kernel_rfl) (fun _ _ _ h => h) (Or.inl ⟨by rfl, ?_⟩) hHeld ?_
            rotate_left 1
            · intro w' hSw
              try dsimp only at hSw
              go_simp
              try with_reducible rfl
            try simp only [Act.put, List.setIfInBounds_toArray, List.set_cons_zero, List.set_cons_succ]
            refine' wpAnyH_take (i := 11) (oi := { dst := some 59, op := Go.Op.indexAddr 34 (Go.Operand.tmp 53) (Go.Operand.tmp 58), type := 0, pos := "laws.go:88", after := #[{ on := 5, ground := Go.Ground.data }, { on := 10, ground := Go.Ground.data }], guard := none }) (v := _) rfl (by kernel_rfl) (by kernel_rfl) (by kernel_rfl) (fun _ _ _ h => h) (Or.inl ⟨by rfl, ?_⟩) hHeld ?_
            rotate_left 1
            · intro w' hSw
              try dsimp only at hSw
              go_simp
              try with_reducible rfl
            try simp only [Act.put, List.setIfInBounds_toArray, List.set_cons_zero, List.set_cons_succ]
            refine' wpAnyH_take (i := 12) (oi := { dst := some 60, op := Go.Op.load 5 (Go.Operand.tmp 59), type := 5, pos := "laws.go:88", after := #[{ on := 11, ground := Go.Ground.data }], guard := none }) (v := _) rfl (by kernel_rfl) (by kernel_rfl) (by kernel_rfl) (fun _ _ _ h => h) (Or.inl ⟨by rfl, ?_⟩) hHeld ?_
            rotate_left 1
            · intro w' hSw
              try dsimp only at hSw
              go_simp
              try with_reducible rfl
            try simp only [Act.put, List.setIfInBounds_toArray, List.set_cons_zero, List.set_cons_succ]
            refine' wpAnyH_take (i := 13) (oi := { dst := some 61, op := Go.Op.binOp Go.BinOp.eql 5 (Go.Operand.tmp 60) (Go.Operand.const (Go.Value.int Go.IntKind.u8 255)) 5, type := 4, pos := "laws.go:88", after := #[{ on := 12, ground := Go.Ground.data }], guard := none }) (v := _) rfl (by kernel_rfl) (by kernel_rfl) (by kernel_rfl) (fun _ _ _ h => h) (Or.inl ⟨by rfl, ?_⟩) hHeld ?_
            rotate_left 1
            · intro w' hSw
              try dsimp only at hSw
              go_simp
              try with_reducible rfl
            try simp only [Act.put, List.setIfInBounds_toArray, List.set_cons_zero, List.set_cons_succ]
            refine wpAnyH_ready (rs := [3]) (by kernel_rfl) (by simp) ?_
            refine AllReadyH.cons rfl (fun K hK => ?_) AllReadyH.nil
            go_simp
            go_wp2_with (go_at_call 25
                         refine (wind_own es v8 x y _ HEL.out ⟨by omega, by omega⟩ ⟨by omega, by omega⟩ (by first | exact E3.out | exact E3.out.drew) HEN.out).mono ?_
                         rintro e w3 ⟨rfl, t⟩
                         have T := hid t
                         clear t
                         rw [← HNW.out])
            refine hK.out _ _ ((T.out.cell hdl (fun h => h)).trans c1) (fun hHeld => ?_)
            clear hK K
            refine' wpAnyH_take (i := 4) (oi := { dst := some 52, op := Go.Op.binOp Go.BinOp.neq 3 (Go.Operand.tmp 51) (Go.Operand.const (Go.Value.int Go.IntKind.i64 0)) 3, type := 4, pos := "laws.go:88", after := #[{ on := 3, ground := Go.Ground.data }], guard := none }) (v := _) rfl (by kernel_rfl) (by kernel_rfl) (by kernel_rfl) (fun _ _ _ h => h) (Or.inl ⟨by rfl, ?_⟩) hHeld ?_
            rotate_left 1
            · intro w' hSw
              try dsimp only at hSw
              go_simp
              try with_reducible rfl
            try simp only [Act.put, List.setIfInBounds_toArray, List.set_cons_zero, List.set_cons_succ]
            refine' wpAnyH_take (i := 14) (oi := { dst := some 62, op := Go.Op.binOp Go.BinOp.neq 4 (Go.Operand.tmp 52) (Go.Operand.tmp 61) 4, type := 4, pos := "laws.go:88", after := #[{ on := 4, ground := Go.Ground.data }, { on := 13, ground := Go.Ground.data }], guard := none }) (v := _) rfl (by kernel_rfl) (by kernel_rfl) (by kernel_rfl) (fun _ _ _ h => h) (Or.inl ⟨by rfl, ?_⟩) hHeld ?_
            rotate_left 1
            · intro w' hSw
              try dsimp only at hSw
              go_simp
              try with_reducible rfl
            try simp only [Act.put, List.setIfInBounds_toArray, List.set_cons_zero, List.set_cons_succ]
            refine' wpAnyH_take (i := 15) (oi := { dst := some 63, op := Go.Op.move (Go.Operand.tmp 62), type := 4, pos := "laws.go:88", after := #[{ on := 14, ground := Go.Ground.data }, { on := 3, ground := Go.Ground.chain }], guard := none }) (v := _) rfl (by kernel_rfl) (by kernel_rfl) (by kernel_rfl) (fun _ _ _ h => h) (Or.inl ⟨by rfl, ?_⟩) hHeld ?_
            rotate_left 1
            · intro w' hSw
              try dsimp only at hSw
              go_simp
              try with_reducible rfl
            try simp only [Act.put, List.setIfInBounds_toArray, List.set_cons_zero, List.set_cons_succ]
            refine' wpAnyH_take (i := 16) (oi := { dst := some 64, op := Go.Op.move (Go.Operand.tmp 10), type := 34, pos := "laws.go:88", after := #[{ on := 15, ground := Go.Ground.guard }], guard := some (15, false) }) (v := _) rfl (by kernel_rfl) (by kernel_rfl) (by kernel_rfl) (fun _ _ _ h => h) (Or.inl ⟨by go_simp, ?_⟩) hHeld ?_
            rotate_left 1
            · intro w' hSw
              try dsimp only at hSw
              go_simp
              try with_reducible rfl
            try simp only [Act.put, List.setIfInBounds_toArray, List.set_cons_zero, List.set_cons_succ]
            refine' wpAnyH_take (i := 17) (oi := { dst := some 65, op := Go.Op.move (Go.Operand.tmp 11), type := 3, pos := "laws.go:88", after := #[{ on := 15, ground := Go.Ground.guard }], guard := some (15, false) }) (v := _) rfl (by kernel_rfl) (by kernel_rfl) (by kernel_rfl) (fun _ _ _ h => h) (Or.inl ⟨by go_simp, ?_⟩) hHeld ?_
            rotate_left 1
            · intro w' hSw
              try dsimp only at hSw
              go_simp
              try with_reducible rfl
            try simp only [Act.put, List.setIfInBounds_toArray, List.set_cons_zero, List.set_cons_succ]
            refine' wpAnyH_take (i := 18) (oi := { dst := some 66, op := Go.Op.move (Go.Operand.tmp 0), type := 3, pos := "laws.go:88", after := #[{ on := 15, ground := Go.Ground.guard }], guard := some (15, false) }) (v := _) rfl (by kernel_rfl) (by kernel_rfl) (by kernel_rfl) (fun _ _ _ h => h) (Or.inl ⟨by go_simp, ?_⟩) hHeld ?_
            rotate_left 1
            · intro w' hSw
              try dsimp only at hSw
              go_simp
              try with_reducible rfl
            try simp only [Act.put, List.setIfInBounds_toArray, List.set_cons_zero, List.set_cons_succ]
            refine' wpAnyH_take (i := 19) (oi := { dst := some 67, op := Go.Op.binOp Go.BinOp.mul 3 (Go.Operand.tmp 65) (Go.Operand.tmp 66) 3, type := 3, pos := "laws.go:88", after := #[{ on := 17, ground := Go.Ground.data }, { on := 18, ground := Go.Ground.data }, { on := 15, ground := Go.Ground.guard }], guard := some (15, false) }) (v := _) rfl (by kernel_rfl) (by kernel_rfl) (by kernel_rfl) (fun _ _ _ h => h) (Or.inl ⟨by go_simp, ?_⟩) hHeld ?_
            rotate_left 1
            · intro w' hSw
              try dsimp only at hSw
              go_simp
              try with_reducible rfl
            try simp only [Act.put, List.setIfInBounds_toArray, List.set_cons_zero, List.set_cons_succ]
            refine' wpAnyH_take (i := 20) (oi := { dst := some 68, op := Go.Op.move (Go.Operand.tmp 12), type := 3, pos := "laws.go:88", after := #[{ on := 15, ground := Go.Ground.guard }], guard := some (15, false) }) (v := _) rfl (by kernel_rfl) (by kernel_rfl) (by kernel_rfl) (fun _ _ _ h => h) (Or.inl ⟨by go_simp, ?_⟩) hHeld ?_
            rotate_left 1
            · intro w' hSw
              try dsimp only at hSw
              go_simp
              try with_reducible rfl
            try simp only [Act.put, List.setIfInBounds_toArray, List.set_cons_zero, List.set_cons_succ]
            refine' wpAnyH_take (i := 21) (oi := { dst := some 69, op := Go.Op.binOp Go.BinOp.add 3 (Go.Operand.tmp 67) (Go.Operand.tmp 68) 3, type := 3, pos := "laws.go:88", after := #[{ on := 19, ground := Go.Ground.data }, { on := 20, ground := Go.Ground.data }, { on := 15, ground := Go.Ground.guard }], guard := some (15, false) }) (v := _) rfl (by kernel_rfl) (by kernel_rfl) (by kernel_rfl) (fun _ _ _ h => h) (Or.inl ⟨by go_simp, ?_⟩) hHeld ?_
            rotate_left 1
            · intro w' hSw
              try dsimp only at hSw
              go_simp
              try with_reducible rfl
            try simp only [Act.put, List.setIfInBounds_toArray, List.set_cons_zero, List.set_cons_succ]
            refine' wpAnyH_take (i := 22) (oi := { dst := some 70, op := Go.Op.indexAddr 34 (Go.Operand.tmp 64) (Go.Operand.tmp 69), type := 0, pos := "laws.go:88", after := #[{ on := 16, ground := Go.Ground.data }, { on := 21, ground := Go.Ground.data }, { on := 15, ground := Go.Ground.guard }], guard := some (15, false) }) (v := _) rfl (by kernel_rfl) (by kernel_rfl) (by kernel_rfl) (fun _ _ _ h => h) (Or.inl ⟨by go_simp, ?_⟩) hHeld ?_
            rotate_left 1
            · intro w' hSw
              try dsimp only at hSw
              go_simp
              try with_reducible rfl
            try simp only [Act.put, List.setIfInBounds_toArray, List.set_cons_zero, List.set_cons_succ]
            refine' wpAnyH_take (i := 23) (oi := { dst := some 71, op := Go.Op.load 5 (Go.Operand.tmp 70), type := 5, pos := "laws.go:88", after := #[{ on := 22, ground := Go.Ground.data }, { on := 15, ground := Go.Ground.guard }], guard := some (15, false) }) (v := _) rfl (by kernel_rfl) (by kernel_rfl) (by kernel_rfl) (fun _ _ _ h => h) (Or.inl ⟨by go_simp, ?_⟩) hHeld ?_
            rotate_left 1
            · intro w' hSw
              try dsimp only at hSw
              go_simp
              try with_reducible rfl
            try simp only [Act.put, List.setIfInBounds_toArray, List.set_cons_zero, List.set_cons_succ]
            refine' wpAnyH_take (i := 24) (oi := { dst := some 72, op := Go.Op.binOp Go.BinOp.neq 5 (Go.Operand.tmp 71) (Go.Operand.const (Go.Value.int Go.IntKind.u8 0)) 5, type := 4, pos := "laws.go:88", after := #[{ on := 23, ground := Go.Ground.data }, { on := 15, ground := Go.Ground.guard }], guard := some (15, false) }) (v := _) rfl (by kernel_rfl) (by kernel_rfl) (by kernel_rfl) (fun _ _ _ h => h) (Or.inl ⟨by go_simp, ?_⟩) hHeld ?_
            rotate_left 1
            · intro w' hSw
              try dsimp only at hSw
              go_simp
              try with_reducible rfl
            try simp only [Act.put, List.setIfInBounds_toArray, List.set_cons_zero, List.set_cons_succ]
            refine' wpAnyH_take (i := 25) (oi := { dst := some 73, op := Go.Op.move (Go.Operand.tmp 72), type := 4, pos := "laws.go:88", after := #[{ on := 24, ground := Go.Ground.data }, { on := 15, ground := Go.Ground.chain }, { on := 15, ground := Go.Ground.guard }], guard := some (15, false) }) (v := _) rfl (by kernel_rfl) (by kernel_rfl) (by kernel_rfl) (fun _ _ _ h => h) (Or.inl ⟨by go_simp, ?_⟩) hHeld ?_
            rotate_left 1
            · intro w' hSw
              try dsimp only at hSw
              go_simp
              try with_reducible rfl
            try simp only [Act.put, List.setIfInBounds_toArray, List.set_cons_zero, List.set_cons_succ]
            refine' wpAnyH_take (i := 26) (oi := { dst := some 74, op := Go.Op.move (Go.Operand.tmp 10), type := 34, pos := "laws.go:88", after := #[{ on := 25, ground := Go.Ground.guard }], guard := some (25, true) }) (v := undef) rfl (by kernel_rfl) (by kernel_rfl) (by kernel_rfl) (fun _ _ _ h => h) (Or.inr ⟨by go_simp, rfl⟩) hHeld ?_
            try simp only [Act.put, List.setIfInBounds_toArray, List.set_cons_zero, List.set_cons_succ]
            refine' wpAnyH_take (i := 27) (oi := { dst := some 75, op := Go.Op.move (Go.Operand.tmp 11), type := 3, pos := "laws.go:88", after := #[{ on := 25, ground := Go.Ground.guard }], guard := some (25, true) }) (v := undef) rfl (by kernel_rfl) (by kernel_rfl) (by kernel_rfl) (fun _ _ _ h => h) (Or.inr ⟨by go_simp, rfl⟩) hHeld ?_
            try simp only [Act.put, List.setIfInBounds_toArray, List.set_cons_zero, List.set_cons_succ]
            refine' wpAnyH_take (i := 28) (oi := { dst := some 76, op := Go.Op.move (Go.Operand.tmp 0), type := 3, pos := "laws.go:88", after := #[{ on := 25, ground := Go.Ground.guard }], guard := some (25, true) }) (v := undef) rfl (by kernel_rfl) (by kernel_rfl) (by kernel_rfl) (fun _ _ _ h => h) (Or.inr ⟨by go_simp, rfl⟩) hHeld ?_
            try simp only [Act.put, List.setIfInBounds_toArray, List.set_cons_zero, List.set_cons_succ]
            refine' wpAnyH_take (i := 29) (oi := { dst := some 77, op := Go.Op.binOp Go.BinOp.mul 3 (Go.Operand.tmp 75) (Go.Operand.tmp 76) 3, type := 3, pos := "laws.go:88", after := #[{ on := 27, ground := Go.Ground.data }, { on := 28, ground := Go.Ground.data }, { on := 25, ground := Go.Ground.guard }], guard := some (25, true) }) (v := undef) rfl (by kernel_rfl) (by kernel_rfl) (by kernel_rfl) (fun _ _ _ h => h) (Or.inr ⟨by go_simp, rfl⟩) hHeld ?_
            try simp only [Act.put, List.setIfInBounds_toArray, List.set_cons_zero, List.set_cons_succ]
            refine' wpAnyH_take (i := 30) (oi := { dst := some 78, op := Go.Op.move (Go.Operand.tmp 12), type := 3, pos := "laws.go:88", after := #[{ on := 25, ground := Go.Ground.guard }], guard := some (25, true) }) (v := undef) rfl (by kernel_rfl) (by kernel_rfl) (by kernel_rfl) (fun _ _ _ h => h) (Or.inr ⟨by go_simp, rfl⟩) hHeld ?_
            try simp only [Act.put, List.setIfInBounds_toArray, List.set_cons_zero, List.set_cons_succ]
            refine' wpAnyH_take (i := 31) (oi := { dst := some 79, op := Go.Op.binOp Go.BinOp.add 3 (Go.Operand.tmp 77) (Go.Operand.tmp 78) 3, type := 3, pos := "laws.go:88", after := #[{ on := 29, ground := Go.Ground.data }, { on := 30, ground := Go.Ground.data }, { on := 25, ground := Go.Ground.guard }], guard := some (25, true) }) (v := undef) rfl (by kernel_rfl) (by kernel_rfl) (by kernel_rfl) (fun _ _ _ h => h) (Or.inr ⟨by go_simp, rfl⟩) hHeld ?_
            try simp only [Act.put, List.setIfInBounds_toArray, List.set_cons_zero, List.set_cons_succ]
            refine' wpAnyH_take (i := 32) (oi := { dst := some 80, op := Go.Op.indexAddr 34 (Go.Operand.tmp 74) (Go.Operand.tmp 79), type := 0, pos := "laws.go:88", after := #[{ on := 26, ground := Go.Ground.data }, { on := 31, ground := Go.Ground.data }, { on := 25, ground := Go.Ground.guard }], guard := some (25, true) }) (v := undef) rfl (by kernel_rfl) (by kernel_rfl) (by kernel_rfl) (fun _ _ _ h => h) (Or.inr ⟨by go_simp, rfl⟩) hHeld ?_
            try simp only [Act.put, List.setIfInBounds_toArray, List.set_cons_zero, List.set_cons_succ]
            refine' wpAnyH_take (i := 33) (oi := { dst := some 81, op := Go.Op.load 5 (Go.Operand.tmp 80), type := 5, pos := "laws.go:88", after := #[{ on := 32, ground := Go.Ground.data }, { on := 25, ground := Go.Ground.guard }], guard := some (25, true) }) (v := undef) rfl (by kernel_rfl) (by kernel_rfl) (by kernel_rfl) (fun _ _ _ h => h) (Or.inr ⟨by go_simp, rfl⟩) hHeld ?_
            try simp only [Act.put, List.setIfInBounds_toArray, List.set_cons_zero, List.set_cons_succ]
            refine' wpAnyH_take (i := 34) (oi := { dst := some 82, op := Go.Op.binOp Go.BinOp.neq 5 (Go.Operand.tmp 81) (Go.Operand.const (Go.Value.int Go.IntKind.u8 255)) 5, type := 4, pos := "laws.go:88", after := #[{ on := 33, ground := Go.Ground.data }, { on := 25, ground := Go.Ground.guard }], guard := some (25, true) }) (v := undef) rfl (by kernel_rfl) (by kernel_rfl) (by kernel_rfl) (fun _ _ _ h => h) (Or.inr ⟨by go_simp, rfl⟩) hHeld ?_
            try simp only [Act.put, List.setIfInBounds_toArray, List.set_cons_zero, List.set_cons_succ]
            refine' wpAnyH_take (i := 35) (oi := { dst := some 83, op := Go.Op.pick (Go.Operand.tmp 73) (Go.Operand.tmp 82) (Go.Operand.const (Go.Value.bool false)), type := 4, pos := "laws.go:88", after := #[{ on := 25, ground := Go.Ground.data }, { on := 34, ground := Go.Ground.data }, { on := 15, ground := Go.Ground.guard }], guard := some (15, false) }) (v := _) rfl (by kernel_rfl) (by kernel_rfl) (by kernel_rfl) (fun _ _ _ h => h) (Or.inl ⟨by go_simp, ?_⟩) hHeld ?_
            rotate_left 1
            · intro w' hSw
              try dsimp only at hSw
              go_simp
              try with_reducible rfl
            try simp only [Act.put, List.setIfInBounds_toArray, List.set_cons_zero, List.set_cons_succ]
            refine' wpAnyH_take (i := 36) (oi := { dst := some 84, op := Go.Op.pick (Go.Operand.tmp 63) (Go.Operand.const (Go.Value.bool true)) (Go.Operand.tmp 83), type := 4, pos := "laws.go:88", after := #[{ on := 15, ground := Go.Ground.data }, { on := 35, ground := Go.Ground.data }], guard := none }) (v := _) rfl (by kernel_rfl) (by kernel_rfl) (by kernel_rfl) (fun _ _ _ h => h) (Or.inl ⟨by rfl, ?_⟩) hHeld ?_
            rotate_left 1
            · intro w' hSw
              try dsimp only at hSw
              go_simp
              try with_reducible rfl
            try simp only [Act.put, List.setIfInBounds_toArray, List.set_cons_zero, List.set_cons_succ]
            refine wpAnyH_done (by kernel_rfl) ?_ _
            go_wp2_with fail
            go_roundw
            case measure => simp [intOf]; omega
            case rel => exact ⟨x + 1, by omega, by go_num, HSX.out.drew.trans T.out⟩
          · rw [hb] at C1
            have c1 := C1.out
            have h1 : (nw == 0) = false := by simp [h0]
            have h2 : (nw != 0) = true := by simp [h0]
            clear hb C1
            go_wp2_with fail
            refine wp_region_held_drew (S := fun w' => w'.cell? ⟨d, k, none⟩ = some (.int .u8 255)) (by kernel_rfl) c1 (fun hHeld => ?_)
            refine' wpAnyH_take (i := 0) (oi := { dst := some 48, op := Go.Op.move (Go.Operand.tmp 8), type := 40, pos := "laws.go:88", after := #[], guard := none }) (v := _) rfl (by kernel_rfl) (by kernel_rfl) (by kernel_rfl) (fun _ _ _ h => h) (Or.inl ⟨by rfl, ?_⟩) hHeld ?_
            rotate_left 1
            · intro w' hSw
              try dsimp only at hSw
              go_simp
              try with_reducible rfl
            try simp only [Act.put, List.setIfInBounds_toArray, List.set_cons_zero, List.set_cons_succ]
            refine' wpAnyH_take (i := 1) (oi := { dst := some 49, op := Go.Op.move (Go.Operand.tmp 12), type := 3, pos := "laws.go:88", after := #[], guard := none }) (v := _) rfl (by kernel_rfl) (by kernel_rfl) (by kernel_rfl) (fun _ _ _ h => h) (Or.inl ⟨by rfl, ?_⟩) hHeld ?_
            rotate_left 1
            · intro w' hSw
              try dsimp only at hSw
              go_simp
              try with_reducible rfl
            try simp only [Act.put, List.setIfInBounds_toArray, List.set_cons_zero, List.set_cons_succ]
            refine' wpAnyH_take (i := 2) (oi := { dst := some 50, op := Go.Op.move (Go.Operand.tmp 11), type := 3, pos := "laws.go:88", after := #[], guard := none }) (v := _) rfl (by kernel_rfl) (by kernel_rfl) (by kernel_rfl) (fun _ _ _ h => h) (Or.inl ⟨by rfl, ?_⟩) hHeld ?_
            rotate_left 1
            · intro w' hSw
              try dsimp only at hSw
              go_simp
              try with_reducible rfl
            try simp only [Act.put, List.setIfInBounds_toArray, List.set_cons_zero, List.set_cons_succ]
            refine' wpAnyH_take (i := 5) (oi := { dst := some 53, op := Go.Op.move (Go.Operand.tmp 10), type := 34, pos := "laws.go:88", after := #[], guard := none }) (v := _) rfl (by kernel_rfl) (by kernel_rfl) (by kernel_rfl) (fun _ _ _ h => h) (Or.inl ⟨by rfl, ?_⟩) hHeld ?_
            rotate_left 1
            · intro w' hSw
              try dsimp only at hSw
              go_simp
              try with_reducible rfl
            try simp only [Act.put, List.setIfInBounds_toArray, List.set_cons_zero, List.set_cons_succ]
            refine' wpAnyH_take (i := 6) (oi := { dst := some 54, op := Go.Op.move (Go.Operand.tmp 11), type := 3, pos := "laws.go:88", after := #[], guard := none }) (v := _) rfl (by kernel_rfl) (by kernel_rfl) (by kernel_rfl) (fun _ _ _ h => h) (Or.inl ⟨by rfl, ?_⟩) hHeld ?_
            rotate_left 1
            · intro w' hSw
              try dsimp only at hSw
              go_simp
              try with_reducible rfl
            try simp only [Act.put, List.setIfInBounds_toArray, List.set_cons_zero, List.set_cons_succ]
            refine' wpAnyH_take (i := 7) (oi := { dst := some 55, op := Go.Op.move (Go.Operand.tmp 0), type := 3, pos := "laws.go:88", after := #[], guard := none }) (v := _) rfl (by kernel_rfl) (by kernel_rfl) (by kernel_rfl) (fun _ _ _ h => h) (Or.inl ⟨by rfl, ?_⟩) hHeld ?_
            rotate_left 1
            · intro w' hSw
              try dsimp only at hSw
              go_simp
              try with_reducible rfl
            try simp only [Act.put, List.setIfInBounds_toArray, List.set_cons_zero, List.set_cons_succ]
            refine' wpAnyH_take (i := 8) (oi := { dst := some 56, op := Go.Op.binOp Go.BinOp.mul 3 (Go.Operand.tmp 54) (Go.Operand.tmp 55) 3, type := 3, pos := "laws.go:88", after := #[{ on := 6, ground := Go.Ground.data }, { on := 7, ground := Go.Ground.data }], guard := none }) (v := _) rfl (by kernel_rfl) (by kernel_rfl) (by kernel_rfl) (fun _ _ _ h => h) (Or.inl ⟨by rfl, ?_⟩) hHeld ?_
            rotate_left 1
            · intro w' hSw
              try dsimp only at hSw
              go_simp
              try with_reducible rfl
            try simp only [Act.put, List.setIfInBounds_toArray, List.set_cons_zero, List.set_cons_succ]
            refine' wpAnyH_take (i := 9) (oi := { dst := some 57, op := Go.Op.move (Go.Operand.tmp 12), type := 3, pos := "laws.go:88", after := #[], guard := none }) (v := _) rfl (by kernel_rfl) (by kernel_rfl) (by kernel_rfl) (fun _ _ _ h => h) (Or.inl ⟨by rfl, ?_⟩) hHeld ?_
            rotate_left 1
            · intro w' hSw
              try dsimp only at hSw
              go_simp
              try with_reducible rfl
            try simp only [Act.put, List.setIfInBounds_toArray, List.set_cons_zero, List.set_cons_succ]
            refine' wpAnyH_take (i := 10) (oi := { dst := some 58, op := Go.Op.binOp Go.BinOp.add 3 (Go.Operand.tmp 56) (Go.Operand.tmp 57) 3, type := 3, pos := "laws.go:88", after := #[{ on := 8, ground := Go.Ground.data }, { on := 9, ground := Go.Ground.data }], guard := none }) (v := _) rfl (by kernel_rfl) (by kernel_rfl) (by kernel_rfl) (fun _ _ _ h => h) (Or.inl ⟨by rfl, ?_⟩) hHeld ?_
            rotate_left 1
            · intro w' hSw
              try dsimp only at hSw
              go_simp
              try with_reducible rfl
            try simp only [Act.put, List.setIfInBounds_toArray, List.set_cons_zero, List.set_cons_succ]
            refine' wpAnyH_take (i := 11) (oi := { dst := some 59, op := Go.Op.indexAddr 34 (Go.Operand.tmp 53) (Go.Operand.tmp 58), type := 0, pos := "laws.go:88", after := #[{ on := 5, ground := Go.Ground.data }, { on := 10, ground := Go.Ground.data }], guard := none }) (v := _) rfl (by kernel_rfl) (by kernel_rfl) (by kernel_rfl) (fun _ _ _ h => h) (Or.inl ⟨by rfl, ?_⟩) hHeld ?_
            rotate_left 1
            · intro w' hSw
              try dsimp only at hSw
              go_simp
              try with_reducible rfl
            try simp only [Act.put, List.setIfInBounds_toArray, List.set_cons_zero, List.set_cons_succ]
            refine' wpAnyH_take (i := 12) (oi := { dst := some 60, op := Go.Op.load 5 (Go.Operand.tmp 59), type := 5, pos := "laws.go:88", after := #[{ on := 11, ground := Go.Ground.data }], guard := none }) (v := _) rfl (by kernel_rfl) (by kernel_rfl) (by kernel_rfl) (fun _ _ _ h => h) (Or.inl ⟨by rfl, ?_⟩) hHeld ?_
            rotate_left 1
            · intro w' hSw
              try dsimp only at hSw
              go_simp
              try with_reducible rfl
            try simp only [Act.put, List.setIfInBounds_toArray, List.set_cons_zero, List.set_cons_succ]
            refine' wpAnyH_take (i := 13) (oi := { dst := some 61, op := Go.Op.binOp Go.BinOp.eql 5 (Go.Operand.tmp 60) (Go.Operand.const (Go.Value.int Go.IntKind.u8 255)) 5, type := 4, pos := "laws.go:88", after := #[{ on := 12, ground := Go.Ground.data }], guard := none }) (v := _) rfl (by kernel_rfl) (by kernel_rfl) (by kernel_rfl) (fun _ _ _ h => h) (Or.inl ⟨by rfl, ?_⟩) hHeld ?_
            rotate_left 1
            · intro w' hSw
              try dsimp only at hSw
              go_simp
              try with_reducible rfl
            try simp only [Act.put, List.setIfInBounds_toArray, List.set_cons_zero, List.set_cons_succ]
            refine wpAnyH_ready (rs := [3]) (by kernel_rfl) (by simp) ?_
            refine AllReadyH.cons rfl (fun K hK => ?_) AllReadyH.nil
            go_simp
            go_wp2_with (go_at_call 25
                         refine (wind_own es v8 x y _ HEL.out ⟨by omega, by omega⟩ ⟨by omega, by omega⟩ (by first | exact E3.out | exact E3.out.drew) HEN.out).mono ?_
                         rintro e w3 ⟨rfl, t⟩
                         have T := hid t
                         clear t
                         rw [← HNW.out])
            refine hK.out _ _ ((T.out.cell hdl (fun h => h)).trans c1) (fun hHeld => ?_)
            clear hK K
            refine' wpAnyH_take (i := 4) (oi := { dst := some 52, op := Go.Op.binOp Go.BinOp.neq 3 (Go.Operand.tmp 51) (Go.Operand.const (Go.Value.int Go.IntKind.i64 0)) 3, type := 4, pos := "laws.go:88", after := #[{ on := 3, ground := Go.Ground.data }], guard := none }) (v := _) rfl (by kernel_rfl) (by kernel_rfl) (by kernel_rfl) (fun _ _ _ h => h) (Or.inl ⟨by rfl, ?_⟩) hHeld ?_
            rotate_left 1
            · intro w' hSw
              try dsimp only at hSw
              go_simp
              try with_reducible rfl
            try simp only [Act.put, List.setIfInBounds_toArray, List.set_cons_zero, List.set_cons_succ]
            refine' wpAnyH_take (i := 14) (oi := { dst := some 62, op := Go.Op.binOp Go.BinOp.neq 4 (Go.Operand.tmp 52) (Go.Operand.tmp 61) 4, type := 4, pos := "laws.go:88", after := #[{ on := 4, ground := Go.Ground.data }, { on := 13, ground := Go.Ground.data }], guard := none }) (v := _) rfl (by kernel_rfl) (by kernel_rfl) (by kernel_rfl) (fun _ _ _ h => h) (Or.inl ⟨by rfl, ?_⟩) hHeld ?_
            rotate_left 1
            · intro w' hSw
              try dsimp only at hSw
              go_simp
              try with_reducible rfl
            try simp only [Act.put, List.setIfInBounds_toArray, List.set_cons_zero, List.set_cons_succ]
            refine' wpAnyH_take (i := 15) (oi := { dst := some 63, op := Go.Op.move (Go.Operand.tmp 62), type := 4, pos := "laws.go:88", after := #[{ on := 14, ground := Go.Ground.data }, { on := 3, ground := Go.Ground.chain }], guard := none }) (v := _) rfl (by kernel_rfl) (by kernel_rfl) (by kernel_rfl) (fun _ _ _ h => h) (Or.inl ⟨by rfl, ?_⟩) hHeld ?_
            rotate_left 1
            · intro w' hSw
              try dsimp only at hSw
              go_simp
              try with_reducible rfl
            try simp only [Act.put, List.setIfInBounds_toArray, List.set_cons_zero, List.set_cons_succ]
            refine' wpAnyH_take (i := 16) (oi := { dst := some 64, op := Go.Op.move (Go.Operand.tmp 10), type := 34, pos := "laws.go:88", after := #[{ on := 15, ground := Go.Ground.guard }], guard := some (15, false) }) (v := _) rfl (by kernel_rfl) (by kernel_rfl) (by kernel_rfl) (fun _ _ _ h => h) (Or.inl ⟨by go_simp, ?_⟩) hHeld ?_
            rotate_left 1
            · intro w' hSw
              try dsimp only at hSw
              go_simp
              try with_reducible rfl
            try simp only [Act.put, List.setIfInBounds_toArray, List.set_cons_zero, List.set_cons_succ]
            refine' wpAnyH_take (i := 17) (oi := { dst := some 65, op := Go.Op.move (Go.Operand.tmp 11), type := 3, pos := "laws.go:88", after := #[{ on := 15, ground := Go.Ground.guard }], guard := some (15, false) }) (v := _) rfl (by kernel_rfl) (by kernel_rfl) (by kernel_rfl) (fun _ _ _ h => h) (Or.inl ⟨by go_simp, ?_⟩) hHeld ?_
            rotate_left 1
            · intro w' hSw
              try dsimp only at hSw
              go_simp
              try with_reducible rfl
            try simp only [Act.put, List.setIfInBounds_toArray, List.set_cons_zero, List.set_cons_succ]
            refine' wpAnyH_take (i := 18) (oi := { dst := some 66, op := Go.Op.move (Go.Operand.tmp 0), type := 3, pos := "laws.go:88", after := #[{ on := 15, ground := Go.Ground.guard }], guard := some (15, false) }) (v := _) rfl (by kernel_rfl) (by kernel_rfl) (by kernel_rfl) (fun _ _ _ h => h) (Or.inl ⟨by go_simp, ?_⟩) hHeld ?_
            rotate_left 1
            · intro w' hSw
              try dsimp only at hSw
              go_simp
              try with_reducible rfl
            try simp only [Act.put, List.setIfInBounds_toArray, List.set_cons_zero, List.set_cons_succ]
            refine' wpAnyH_take (i := 19) (oi := { dst := some 67, op := Go.Op.binOp Go.BinOp.mul 3 (Go.Operand.tmp 65) (Go.Operand.tmp 66) 3, type := 3, pos := "laws.go:88", after := #[{ on := 17, ground := Go.Ground.data }, { on := 18, ground := Go.Ground.data }, { on := 15, ground := Go.Ground.guard }], guard := some (15, false) }) (v := _) rfl (by kernel_rfl) (by kernel_rfl) (by kernel_rfl) (fun _ _ _ h => h) (Or.inl ⟨by go_simp, ?_⟩) hHeld ?_
            rotate_left 1
            · intro w' hSw
              try dsimp only at hSw
              go_simp
              try with_reducible rfl
            try simp only [Act.put, List.setIfInBounds_toArray, List.set_cons_zero, List.set_cons_succ]
            refine' wpAnyH_take (i := 20) (oi := { dst := some 68, op := Go.Op.move (Go.Operand.tmp 12), type := 3, pos := "laws.go:88", after := #[{ on := 15, ground := Go.Ground.guard }], guard := some (15, false) }) (v := _) rfl (by kernel_rfl) (by kernel_rfl) (by kernel_rfl) (fun _ _ _ h => h) (Or.inl ⟨by go_simp, ?_⟩) hHeld ?_
            rotate_left 1
            · intro w' hSw
              try dsimp only at hSw
              go_simp
              try with_reducible rfl
            try simp only [Act.put, List.setIfInBounds_toArray, List.set_cons_zero, List.set_cons_succ]
            refine' wpAnyH_take (i := 21) (oi := { dst := some 69, op := Go.Op.binOp Go.BinOp.add 3 (Go.Operand.tmp 67) (Go.Operand.tmp 68) 3, type := 3, pos := "laws.go:88", after := #[{ on := 19, ground := Go.Ground.data }, { on := 20, ground := Go.Ground.data }, { on := 15, ground := Go.Ground.guard }], guard := some (15, false) }) (v := _) rfl (by kernel_rfl) (by kernel_rfl) (by kernel_rfl) (fun _ _ _ h => h) (Or.inl ⟨by go_simp, ?_⟩) hHeld ?_
            rotate_left 1
            · intro w' hSw
              try dsimp only at hSw
              go_simp
              try with_reducible rfl
            try simp only [Act.put, List.setIfInBounds_toArray, List.set_cons_zero, List.set_cons_succ]
            refine' wpAnyH_take (i := 22) (oi := { dst := some 70, op := Go.Op.indexAddr 34 (Go.Operand.tmp 64) (Go.Operand.tmp 69), type := 0, pos := "laws.go:88", after := #[{ on := 16, ground := Go.Ground.data }, { on := 21, ground := Go.Ground.data }, { on := 15, ground := Go.Ground.guard }], guard := some (15, false) }) (v := _) rfl (by kernel_rfl) (by kernel_rfl) (by kernel_rfl) (fun _ _ _ h => h) (Or.inl ⟨by go_simp, ?_⟩) hHeld ?_
            rotate_left 1
            · intro w' hSw
              try dsimp only at hSw
              go_simp
              try with_reducible rfl
            try simp only [Act.put, List.setIfInBounds_toArray, List.set_cons_zero, List.set_cons_succ]
            refine' wpAnyH_take (i := 23) (oi := { dst := some 71, op := Go.Op.load 5 (Go.Operand.tmp 70), type := 5, pos := "laws.go:88", after := #[{ on := 22, ground := Go.Ground.data }, { on := 15, ground := Go.Ground.guard }], guard := some (15, false) }) (v := _) rfl (by kernel_rfl) (by kernel_rfl) (by kernel_rfl) (fun _ _ _ h => h) (Or.inl ⟨by go_simp, ?_⟩) hHeld ?_
            rotate_left 1
            · intro w' hSw
              try dsimp only at hSw
              go_simp
              try with_reducible rfl
            try simp only [Act.put, List.setIfInBounds_toArray, List.set_cons_zero, List.set_cons_succ]
            refine' wpAnyH_take (i := 24) (oi := { dst := some 72, op := Go.Op.binOp Go.BinOp.neq 5 (Go.Operand.tmp 71) (Go.Operand.const (Go.Value.int Go.IntKind.u8 0)) 5, type := 4, pos := "laws.go:88", after := #[{ on := 23, ground := Go.Ground.data }, { on := 15, ground := Go.Ground.guard }], guard := some (15, false) }) (v := _) rfl (by kernel_rfl) (by kernel_rfl) (by kernel_rfl) (fun _ _ _ h => h) (Or.inl ⟨by go_simp, ?_⟩) hHeld ?_
            rotate_left 1
            · intro w' hSw
              try dsimp only at hSw
              go_simp
              try with_reducible rfl
            try simp only [Act.put, List.setIfInBounds_toArray, List.set_cons_zero, List.set_cons_succ]
            refine' wpAnyH_take (i := 25) (oi := { dst := some 73, op := Go.Op.move (Go.Operand.tmp 72), type := 4, pos := "laws.go:88", after := #[{ on := 24, ground := Go.Ground.data }, { on := 15, ground := Go.Ground.chain }, { on := 15, ground := Go.Ground.guard }], guard := some (15, false) }) (v := _) rfl (by kernel_rfl) (by kernel_rfl) (by kernel_rfl) (fun _ _ _ h => h) (Or.inl ⟨by go_simp, ?_⟩) hHeld ?_
            rotate_left 1
            · intro w' hSw
              try dsimp only at hSw
              go_simp
              try with_reducible rfl
            try simp only [Act.put, List.setIfInBounds_toArray, List.set_cons_zero, List.set_cons_succ]
            refine' wpAnyH_take (i := 26) (oi := { dst := some 74, op := Go.Op.move (Go.Operand.tmp 10), type := 34, pos := "laws.go:88", after := #[{ on := 25, ground := Go.Ground.guard }], guard := some (25, true) }) (v := _) rfl (by kernel_rfl) (by kernel_rfl) (by kernel_rfl) (fun _ _ _ h => h) (Or.inl ⟨by go_simp, ?_⟩) hHeld ?_
            rotate_left 1
            · intro w' hSw
              try dsimp only at hSw
              go_simp
              try with_reducible rfl
            try simp only [Act.put, List.setIfInBounds_toArray, List.set_cons_zero, List.set_cons_succ]
            refine' wpAnyH_take (i := 27) (oi := { dst := some 75, op := Go.Op.move (Go.Operand.tmp 11), type := 3, pos := "laws.go:88", after := #[{ on := 25, ground := Go.Ground.guard }], guard := some (25, true) }) (v := _) rfl (by kernel_rfl) (by kernel_rfl) (by kernel_rfl) (fun _ _ _ h => h) (Or.inl ⟨by go_simp, ?_⟩) hHeld ?_
            rotate_left 1
            · intro w' hSw
              try dsimp only at hSw
              go_simp
              try with_reducible rfl
            try simp only [Act.put, List.setIfInBounds_toArray, List.set_cons_zero, List.set_cons_succ]
            refine' wpAnyH_take (i := 28) (oi := { dst := some 76, op := Go.Op.move (Go.Operand.tmp 0), type := 3, pos := "laws.go:88", after := #[{ on := 25, ground := Go.Ground.guard }], guard := some (25, true) }) (v := _) rfl (by kernel_rfl) (by kernel_rfl) (by kernel_rfl) (fun _ _ _ h => h) (Or.inl ⟨by go_simp, ?_⟩) hHeld ?_
            rotate_left 1
            · intro w' hSw
              try dsimp only at hSw
              go_simp
              try with_reducible rfl
            try simp only [Act.put, List.setIfInBounds_toArray, List.set_cons_zero, List.set_cons_succ]
            refine' wpAnyH_take (i := 29) (oi := { dst := some 77, op := Go.Op.binOp Go.BinOp.mul 3 (Go.Operand.tmp 75) (Go.Operand.tmp 76) 3, type := 3, pos := "laws.go:88", after := #[{ on := 27, ground := Go.Ground.data }, { on := 28, ground := Go.Ground.data }, { on := 25, ground := Go.Ground.guard }], guard := some (25, true) }) (v := _) rfl (by kernel_rfl) (by kernel_rfl) (by kernel_rfl) (fun _ _ _ h => h) (Or.inl ⟨by go_simp, ?_⟩) hHeld ?_
            rotate_left 1
            · intro w' hSw
              try dsimp only at hSw
              go_simp
              try with_reducible rfl
            try simp only [Act.put, List.setIfInBounds_toArray, List.set_cons_zero, List.set_cons_succ]
            refine' wpAnyH_take (i := 30) (oi := { dst := some 78, op := Go.Op.move (Go.Operand.tmp 12), type := 3, pos := "laws.go:88", after := #[{ on := 25, ground := Go.Ground.guard }], guard := some (25, true) }) (v := _) rfl (by kernel_rfl) (by kernel_rfl) (by kernel_rfl) (fun _ _ _ h => h) (Or.inl ⟨by go_simp, ?_⟩) hHeld ?_
            rotate_left 1
            · intro w' hSw
              try dsimp only at hSw
              go_simp
              try with_reducible rfl
            try simp only [Act.put, List.setIfInBounds_toArray, List.set_cons_zero, List.set_cons_succ]
            refine' wpAnyH_take (i := 31) (oi := { dst := some 79, op := Go.Op.binOp Go.BinOp.add 3 (Go.Operand.tmp 77) (Go.Operand.tmp 78) 3, type := 3, pos := "laws.go:88", after := #[{ on := 29, ground := Go.Ground.data }, { on := 30, ground := Go.Ground.data }, { on := 25, ground := Go.Ground.guard }], guard := some (25, true) }) (v := _) rfl (by kernel_rfl) (by kernel_rfl) (by kernel_rfl) (fun _ _ _ h => h) (Or.inl ⟨by go_simp, ?_⟩) hHeld ?_
            rotate_left 1
            · intro w' hSw
              try dsimp only at hSw
              go_simp
              try with_reducible rfl
            try simp only [Act.put, List.setIfInBounds_toArray, List.set_cons_zero, List.set_cons_succ]
            refine' wpAnyH_take (i := 32) (oi := { dst := some 80, op := Go.Op.indexAddr 34 (Go.Operand.tmp 74) (Go.Operand.tmp 79), type := 0, pos := "laws.go:88", after := #[{ on := 26, ground := Go.Ground.data }, { on := 31, ground := Go.Ground.data }, { on := 25, ground := Go.Ground.guard }], guard := some (25, true) }) (v := _) rfl (by kernel_rfl) (by kernel_rfl) (by kernel_rfl) (fun _ _ _ h => h) (Or.inl ⟨by go_simp, ?_⟩) hHeld ?_
            rotate_left 1
            · intro w' hSw
              try dsimp only at hSw
              go_simp
              try with_reducible rfl
            try simp only [Act.put, List.setIfInBounds_toArray, List.set_cons_zero, List.set_cons_succ]
            refine' wpAnyH_take (i := 33) (oi := { dst := some 81, op := Go.Op.load 5 (Go.Operand.tmp 80), type := 5, pos := "laws.go:88", after := #[{ on := 32, ground := Go.Ground.data }, { on := 25, ground := Go.Ground.guard }], guard := some (25, true) }) (v := _) rfl (by kernel_rfl) (by kernel_rfl) (by kernel_rfl) (fun _ _ _ h => h) (Or.inl ⟨by go_simp, ?_⟩) hHeld ?_
            rotate_left 1
            · intro w' hSw
              try dsimp only at hSw
              go_simp
              try with_reducible rfl
            try simp only [Act.put, List.setIfInBounds_toArray, List.set_cons_zero, List.set_cons_succ]
            refine' wpAnyH_take (i := 34) (oi := { dst := some 82, op := Go.Op.binOp Go.BinOp.neq 5 (Go.Operand.tmp 81) (Go.Operand.const (Go.Value.int Go.IntKind.u8 255)) 5, type := 4, pos := "laws.go:88", after := #[{ on := 33, ground := Go.Ground.data }, { on := 25, ground := Go.Ground.guard }], guard := some (25, true) }) (v := _) rfl (by kernel_rfl) (by kernel_rfl) (by kernel_rfl) (fun _ _ _ h => h) (Or.inl ⟨by go_simp, ?_⟩) hHeld ?_
            rotate_left 1
            · intro w' hSw
              try dsimp only at hSw
              go_simp
              try with_reducible rfl
            try simp only [Act.put, List.setIfInBounds_toArray, List.set_cons_zero, List.set_cons_succ]
            refine' wpAnyH_take (i := 35) (oi := { dst := some 83, op := Go.Op.pick (Go.Operand.tmp 73) (Go.Operand.tmp 82) (Go.Operand.const (Go.Value.bool false)), type := 4, pos := "laws.go:88", after := #[{ on := 25, ground := Go.Ground.data }, { on := 34, ground := Go.Ground.data }, { on := 15, ground := Go.Ground.guard }], guard := some (15, false) }) (v := _) rfl (by kernel_rfl) (by kernel_rfl) (by kernel_rfl) (fun _ _ _ h => h) (Or.inl ⟨by go_simp, ?_⟩) hHeld ?_
            rotate_left 1
            · intro w' hSw
              try dsimp only at hSw
              go_simp
              try with_reducible rfl
            try simp only [Act.put, List.setIfInBounds_toArray, List.set_cons_zero, List.set_cons_succ]
            refine' wpAnyH_take (i := 36) (oi := { dst := some 84, op := Go.Op.pick (Go.Operand.tmp 63) (Go.Operand.const (Go.Value.bool true)) (Go.Operand.tmp 83), type := 4, pos := "laws.go:88", after := #[{ on := 15, ground := Go.Ground.data }, { on := 35, ground := Go.Ground.data }], guard := none }) (v := _) rfl (by kernel_rfl) (by kernel_rfl) (by kernel_rfl) (fun _ _ _ h => h) (Or.inl ⟨by rfl, ?_⟩) hHeld ?_
            rotate_left 1
            · intro w' hSw
              try dsimp only at hSw
              go_simp
              try with_reducible rfl
            try simp only [Act.put, List.setIfInBounds_toArray, List.set_cons_zero, List.set_cons_succ]
            refine wpAnyH_done (by kernel_rfl) ?_ _
            go_wp2_with fail
            go_roundw
            case measure => simp [intOf]; omega
            case rel => exact ⟨x + 1, by omega, by go_num, HSX.out.drew.trans T.out⟩
        · obtain rfl : x = W := by omega
          go_wp2_with fail
          go_roundw
          case measure => simp [intOf]; omega
          case rel => exact ⟨y + 1, by omega, by go_num, HSX.out⟩
    · obtain rfl : y = H := by omega
      go_wp2_with fail
      go_ret
      exact ⟨rfl, T3.out.trans HSY.out⟩
end Go.Proofs.Ytmgcbodlolnheaa.fnStairs

namespace Go.Proofs.Ytmgcbodlolnheaa.fnStairs
open Go.ChangeShapes Go.WideShapes Go.ChangeAt Go.RowKit Go.Deep
set_option linter.unusedVariables false

set_option maxHeartbeats 2000000 in
set_option maxRecDepth 100000 in
theorem walk (W H : Int) (ls : List (List Int)) (v : Value) (w : World) (hv : ListsAt w w.heap.size v ls) :
    Calls Try.prog 6 #[.int .i64 W, .int .i64 H, v] w fun e w' => e = .returned (.bool true) ∧ Same w w' := by
  cases hf : fitsB ls
  · have HF := hid hf
    have HV := hid hv
    clear hf hv
    go_enter Try.func6, Try.ntmps6
    go_wp2_with fail
    refine (fits1_any ls v w HV.out).mono ?_
    rintro e w' ⟨rfl, rfl⟩
    rw [HF.out]
    go_wp2_with fail
    go_ret
    exact ⟨rfl, Kept.refl _ _⟩
  cases hs : stairsB ls
  · have HF := hid hf
    have HV := hid hv
    have HS := hid hs
    clear hf hv hs
    go_enter Try.func6, Try.ntmps6
    go_wp2_with fail
    refine (fits1_any ls v w HV.out).mono ?_
    rintro e w' ⟨rfl, rfl⟩
    rw [HF.out]
    go_wp2_with fail
    refine (stairsOps_any ls v w HV.out HF.out).mono ?_
    rintro e w1 ⟨v7, v8, rfl, _, t2⟩
    rw [HS.out]
    have T2 := hid t2
    clear t2
    go_wp2_with fail
    go_ret
    exact ⟨rfl, T2.out⟩
  cases hz : sizedB W H
  · have HF := hid hf
    have HV := hid hv
    have HS := hid hs
    have HZ := hid hz
    clear hf hv hs hz
    go_enter Try.func6, Try.ntmps6
    go_wp2_with fail
    refine (fits1_any ls v w HV.out).mono ?_
    rintro e w' ⟨rfl, rfl⟩
    rw [HF.out]
    go_wp2_with fail
    refine (stairsOps_any ls v w HV.out HF.out).mono ?_
    rintro e w1 ⟨v7, v8, rfl, _, t2⟩
    rw [HS.out]
    have T2 := hid t2
    clear t2
    go_wp2_with fail
    refine (sized_any W H w1).mono ?_
    rintro e w' ⟨rfl, rfl⟩
    rw [HZ.out]
    go_wp2_with fail
    go_ret
    exact ⟨rfl, T2.out⟩
  obtain ⟨s1, s2, s3, s4, s5⟩ := sizedB_iff.1 hz
  obtain ⟨Wn, rfl⟩ : ∃ n : Nat, W = n := ⟨W.toNat, by omega⟩
  obtain ⟨Hn, rfl⟩ : ∃ n : Nat, H = n := ⟨H.toNat, by omega⟩
  exact walk_long Wn Hn ls v w hz hv hf hs

theorem own : ownKnob Try.prog.godebug = none := by kernel_rfl
theorem readable : ∀ t ∈ Try.f6.params.toList, Try.prog.readableRec t = true ∧ t < Try.prog.types.size := by
  rw [Try.params6]
  intro t ht
  simp only [List.mem_cons, List.not_mem_nil, or_false] at ht
  rcases ht with rfl | rfl | rfl
  all_goals exact ⟨by kernel_rfl, of_decide_eq_true (by kernel_rfl)⟩

set_option maxRecDepth 100000 in
theorem lifted (os : Os) (started : os.Started) (H : Type) (enc : TypeId × Value → H) :
    ReturnsInHanded {} Try.checked os 6 .any (Rows.fnStairsAreWindingSpec.pre6 enc Try.prog Try.f6 Rows.fnStairsAreWindingRow.domain false) (Rows.fnStairsAreWindingSpec.post enc Try.prog Try.f6 false true false false) := by
  refine returnsInHanded_of_change (C := Try.checked) own started (by kernel_rfl) Try.func6
    (ChangeSpec.witness6 (enc := enc) (C := Try.checked) false ⟨#[], #[.int .i64 0, .int .i64 0, .slice none 0 0], []⟩ 8 (by kernel_rfl) (by kernel_rfl) (by kernel_rfl) (by kernel_rfl)) ?_
  intro W base args ds gs before hval0 hW hcnd _
  have hval : ∀ (j : Nat) t v, Try.f6.params[j]? = some t → args[j]? = some v → Value.okWide Try.prog W .any base t v := hval0
  have hW' := hW
  obtain ⟨p, q, hA0, hV, rfl, hfz, hnd⟩ := hW
  have hA : DataW.TrodAll enc Try.prog W 0 (fun _ => true) true Try.f6.params.toList args.toList ds p := hA0
  rw [Try.params6] at hA hval
  obtain ⟨v0, vs0, d0, ds0, p0, q0, hargs, rfl, rfl, h0, r0⟩ := trodAll_cons hA
  obtain ⟨v1, vs1, d1, ds1, p1, q1, rfl, rfl, rfl, h1, r1⟩ := trodAll_cons r0
  obtain ⟨v2, vs2, d2, ds2, p2, q2, rfl, rfl, rfl, h2, r2⟩ := trodAll_cons r1
  obtain ⟨rfl, rfl, rfl⟩ := trodAll_nil r2
  obtain rfl : args = #[v0, v1, v2] := by cases args; simp_all
  obtain ⟨rfl, rfl⟩ := trodVars_none hV
  obtain ⟨a0, rfl, rfl, rfl, w0⟩ := open_int Try.underlying3 (hval 0 3 v0 rfl rfl) h0
  obtain ⟨a1, rfl, rfl, rfl, w1⟩ := open_int Try.underlying3 (hval 1 3 v1 rfl rfl) h1
  obtain ⟨ls, hls⟩ := open_listsT (hval 2 38 v2 rfl rfl) h2
  clear hA0 hval0
  simp only [List.append_nil] at hW'
  refine (walk a0 a1 ls v2 W hls).mono fun e W' ⟨he, hg⟩ => ?_
  subst he
  exact ⟨_, rfl, law_post readable rfl rfl rfl hW' hg.toBelow⟩

theorem over : Rows.fnStairsAreWindingRow.holds Try.pinned (OpenSpec.ofChange Rows.fnStairsAreWindingSpec) :=
  OpenClaim.holds_of_wide 6 Try.f6 rfl rfl rfl rfl rfl rfl rfl ⟨rfl, rfl, rfl, rfl, rfl⟩ rfl rfl rfl rfl rfl (by kernel_rfl) Try.func6 (by kernel_rfl)
    (of_decide_eq_true (by kernel_rfl)) (by unfold Func.isWrapper; first | (rw [if_pos (by decide +kernel)]; kernel_rfl) | (rw [if_neg (by decide +kernel)]; exact ⟨rfl, rfl⟩))
    (fun os started H enc _ => lifted os started H enc)

/-- The statement. -/
theorem proved : Rows.FnStairsAreWindingSaid :=
  over
#print axioms proved
end Go.Proofs.Ytmgcbodlolnheaa.fnStairs
