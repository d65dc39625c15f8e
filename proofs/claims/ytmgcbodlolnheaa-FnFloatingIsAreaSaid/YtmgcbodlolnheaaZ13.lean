/- Lines through points in 64ths within 264 pixels, in floating point: where they are, what they -/
import Derived.Test.YtmgcbodlolnheaaZ12
namespace Go.Proofs.Ytmgcbodlolnheaa
open Flt Go.RowKit
set_option linter.unusedVariables false
def kF : Rat := 128 / 16777216 + 1 / 100000000000000000000
theorem p2_8F : p2 8 = 256 := by have : p2 ((8 : Nat) : Int) = ((2 ^ 8 : Nat) : Rat) := p2_nat 8
                                 simpa using this
theorem p2_m17F : p2 (8 - 25) = 128 / 16777216 := by
 have := p2_neg 17
 rw [show (8 - 25 : Int) = -((17 : Nat) : Int) by decide]
 push_cast at this ⊢
 grind
structure OnQ (ax ay bx ey n : Nat) (y : Int) (x : Nat) : Prop where
 on : OnG ax ay bx ey 265 n y x
 lim : (0 <= V (slW ax ay bx ey) -> -256 <= V x) /\ (V (slW ax ay bx ey) <= 0 -> V x <= 256)
 near : ab (V x - (V ax + slG ax ay bx ey * (hg (V ay) (V ey) y - V ay))) <= ab (slG ax ay bx ey) * (hg (V ay) (V ey) y - V ay) * (6 / 16777216) + n * kF ∨
  (0 <= V (slW ax ay bx ey) /\ 256 <= V x) ∨ (V (slW ax ay bx ey) <= 0 /\ V x <= -256)
section
variable {ax ay bx ey : Nat} (h : GSpan ax ay bx ey 265)
include h
theorem OnQ.start (hxa : ab (V ax) <= 256) : OnQ ax ay bx ey 0 (V ay).floor ax := by
 have hs := OnG.start h (by decide)
 obtain ⟨x1, x2⟩ := ab_iff.1 hxa
 refine ⟨hs, ⟨fun _ => by grind, fun _ => by grind⟩, .inl ?_⟩
 have := hs.near
 push_cast at this ⊢
 grind
theorem OnQ.next {n : Nat} {y : Int} {x dir : Nat} (ho : OnQ ax ay bx ey n y x) (h1 : (V ay).floor <= y) (h2 : y < ceilR (V ey)) (hn : n + 1 <= 2000) :
  OnQ ax ay bx ey (n + 1) (y + 1) ((lnG dir ax ay bx ey).nx y x) /\ (0 <= V (slW ax ay bx ey) -> V x <= V ((lnG dir ax ay bx ey).nx y x)) /\ (V (slW ax ay bx ey) <= 0 -> V ((lnG dir ax ay bx ey).nx y x) <= V x) := by
 obtain ⟨_, hon, _⟩ := ho.on.next h (by decide) (by decide) (dir := dir) h1 h2 hn
 obtain ⟨p, r, e1, e2, e3⟩ := ho.on.part h (by decide) (by decide) (dir := dir) h1 h2 hn
 obtain ⟨_, _, hlt⟩ := h.rows (by decide)
 obtain ⟨g1, g2, g3, g4, g5, g6⟩ := hg_row hlt h1 h2
 generalize (lnG dir ax ay bx ey).nx y x = xn at *
 have fx := ho.on.xs.bd.fin
 have up : 0 <= V (slW ax ay bx ey) -> V x <= V xn := fun c => r.geF fx (by have := e2 c; grind)
 have dn : V (slW ax ay bx ey) <= 0 -> V xn <= V x := fun c => r.leF fx (by have := e3 c; grind)
 refine ⟨⟨hon, ⟨fun c => ?_, fun c => ?_⟩, ?_⟩, up, dn⟩
 ·have := up c; have := ho.lim.1 c; grind
 ·have := dn c; have := ho.lim.2 c; grind
 ·rcases ho.near with hA | ⟨hb1, hb2⟩ | ⟨hc1, hc2⟩
  ·have hq : ∀ c : Rat, c <= V x + p -> -c <= -(V x + p) -> True := fun _ _ _ => trivial
   by_cases c1 : V x + p <= 256
   ·by_cases c2 : -256 <= V x + p
    ·left
     have hh := r.half (e := 8) (by rw [p2_8F]; exact ab_le c1 (by grind)) (by decide) (by decide)
     rw [p2_m17F] at hh
     have hstep : hg (V ay) (V ey) (y + 1) = hg (V ay) (V ey) y + (pr y (V ey) - pr y (V ay)) := by rw [g1, g2]; grind
     rw [hstep]
     generalize pr y (V ey) - pr y (V ay) = k at *
     have k1 := ab_add_le (V xn - (V x + p)) ((V x - (V ax + slG ax ay bx ey * (hg (V ay) (V ey) y - V ay))) + (p - slG ax ay bx ey * k))
     have k2 := ab_add_le (V x - (V ax + slG ax ay bx ey * (hg (V ay) (V ey) y - V ay))) (p - slG ax ay bx ey * k)
     have e : V xn - (V ax + slG ax ay bx ey * (hg (V ay) (V ey) y + k - V ay)) = (V xn - (V x + p)) + ((V x - (V ax + slG ax ay bx ey * (hg (V ay) (V ey) y - V ay))) + (p - slG ax ay bx ey * k)) := by grind
     have e4 : ab (slG ax ay bx ey) * (hg (V ay) (V ey) y + k - V ay) = ab (slG ax ay bx ey) * (hg (V ay) (V ey) y - V ay) + ab (slG ax ay bx ey) * k := by grind
     rw [e, e4]
     unfold kF at *
     push_cast
     grind
    ·rcases Rat.le_total (a := 0) (b := V (slW ax ay bx ey)) with d | d
     ·have := ho.lim.1 d; have := e2 d; grind
     ·refine .inr (.inr ⟨d, ?_⟩)
      have := r.leInt (n := -256) (by push_cast; grind) (by decide) (by decide)
      push_cast at this
      exact this
   ·rcases Rat.le_total (a := 0) (b := V (slW ax ay bx ey)) with d | d
    ·refine .inr (.inl ⟨d, ?_⟩)
     have := r.geInt (n := 256) (by push_cast; grind) (by decide) (by decide)
     push_cast at this
     exact this
    ·have := ho.lim.2 d; have := e3 d; grind
  ·exact .inr (.inl ⟨hb1, by have := up hb1; grind⟩)
  ·exact .inr (.inr ⟨hc1, by have := dn hc1; grind⟩)
end
def errF (Y : Nat) (c k : Rat) (r : Int) : Rat := if r < 0 then 0 else if r < Y then k * (8 / 16777216) else if r = Y then k * ((c + 2) / 16777216) else 0
theorem cum_ratF {A D k σ m c : Rat} (hk0 : 0 <= k) (hm0 : 0 <= m) (hm1 : m <= 1) (hc0 : 0 <= c) (hc1 : c <= 300) (hD : ab (D - σ * k) <= k * (1 / 16777216) + 1 / 100000000000000000000000000000000000000000000) (hb : ab D <= k * (1000001 / 1000000) + 1 / 100000000000000000000000000000000000000000000)
  (h : ab (A - D * m) <= ab D * (c / 16777216) + 1 / 10000000000000000000000000) : ab (A - σ * (k * m)) <= k * ((c + 2) / 16777216) + 1 / 1000000000000000000000000 := by
 have e : A - σ * (k * m) = (A - D * m) + (D - σ * k) * m := by grind
 have m1 : ab ((D - σ * k) * m) <= (k * (1 / 16777216) + 1 / 100000000000000000000000000000000000000000000) * 1 := by
  rw [ab_mul, ab_of_nonneg hm0]
  have a1 := Rat.mul_le_mul_of_nonneg_left hm1 (ab_nonneg (D - σ * k))
  grind
 have m2 := Rat.mul_le_mul_of_nonneg_right hb (show 0 <= c / 16777216 by grind)
 have m3 := Rat.mul_nonneg hk0 hc0
 have m4 : k * c <= k * 300 := Rat.mul_le_mul_of_nonneg_left hc1 hk0
 rw [e]
 have := ab_add_le (A - D * m) ((D - σ * k) * m)
 have e2 : (k * (1000001 / 1000000) + 1 / 100000000000000000000000000000000000000000000) * (c / 16777216) = k * c * (1000001 / 1000000 / 16777216) + c * (1 / 100000000000000000000000000000000000000000000 / 16777216) := by grind
 rw [e2] at m2
 have e3 : k * ((c + 2) / 16777216) = k * c * (1 / 16777216) + k * (2 / 16777216) := by grind
 rw [e3]
 generalize k * c = z at *
 grind
section
variable {ax ay bx ey dir : Nat} {σ : Rat} (h : GSpan ax ay bx ey 265) (hd : DirW dir σ) {Q : Nat -> Int -> Nat -> Prop} (hQ : ∀ n y x, Q n y x -> OnG ax ay bx ey 265 n y x)
 (hnx : ∀ n y x, Q n y x -> (V ay).floor <= y -> y < ceilR (V ey) -> n + 1 <= 2000 -> Q (n + 1) (y + 1) ((lnG dir ax ay bx ey).nx y x))
include h hd hQ hnx
theorem adds_cumF {W Y : Nat} : ∀ (k n : Nat) (y : Int) (x : Nat), Q n y x -> (V ay).floor <= y -> y + k <= ceilR (V ey) -> n + k <= 2000 ->
  ∃ p q c : Rat, (c = 27 ∨ (c = 273 /\ ab (q - p) <= 1 /\ (0 <= p ∨ 0 <= q) /\ (p <= W ∨ q <= W))) /\ (y <= Y -> (Y : Int) < y + k -> ∃ n' xa xb : Nat, (n' : Int) = n + (Y - y) /\ Q n' Y xa /\ Q (n' + 1) (Y + 1) xb /\ p = V xa /\ q = V xb) /\
   ∀ X, X < W -> ab (sumR (valL ((lnG dir ax ay bx ey).adds W k y x)) (Y * W + X) - σ * rowsR (fun r => rowG Y (mean ((X : Rat) + 1 - p) ((X : Rat) + 1 - q)) (pr r (V ey) - pr r (V ay)) r) y k) <=
    rowsR (fun r => errF Y c (pr r (V ey) - pr r (V ay)) r) y k + k * (1 / 1000000000000000000000000)
 | 0, n, y, x, ho, h1, h2, h3 => by
  refine ⟨0, 0, 27, .inl rfl, fun a b => by omega, fun X hX => ?_⟩
  simp only [GL.adds, valL, List.map_nil, sumR, rowsR]
  have : ab ((0 : Rat) - σ * 0) = 0 := by rw [show (0 : Rat) - σ * 0 = 0 by grind]; decide +kernel
  rw [this]
  push_cast
  grind
 | k + 1, n, y, x, ho, h1, h2, h3 => by
  have hn := hnx n y x ho h1 (by omega) (by omega)
  have hog := hQ _ _ _ ho
  have hng := hQ _ _ _ hn
  obtain ⟨p, q, c, ec, e3, e4⟩ := adds_cumF (Y := Y) k (n + 1) (y + 1) _ hn (by omega) (by omega) (by omega)
  have hk : ((k + 1 : Nat) : Rat) * (1 / 1000000000000000000000000) = (k : Rat) * (1 / 1000000000000000000000000) + 1 / 1000000000000000000000000 := by push_cast; grind
  have other : ∀ (X : Nat) m', (Y : Int) < y + 1 -> rowsR (fun r => rowG Y m' (pr r (V ey) - pr r (V ay)) r) (y + 1) k = rowsR (fun r => rowG Y (mean ((X : Rat) + 1 - p) ((X : Rat) + 1 - q)) (pr r (V ey) - pr r (V ay)) r) (y + 1) k := by
   intro X m' hy
   refine rowsR_congr fun r r1 r2 => ?_
   unfold rowG
   split
   ·rfl
   ·rw [if_neg (by omega), if_neg (by omega), if_neg (by omega), if_neg (by omega)]
  have otherE : ∀ c', (Y : Int) < y + 1 -> rowsR (fun r => errF Y c' (pr r (V ey) - pr r (V ay)) r) (y + 1) k = rowsR (fun r => errF Y c (pr r (V ey) - pr r (V ay)) r) (y + 1) k := by
   intro c' hy
   refine rowsR_congr fun r r1 r2 => ?_
   unfold errF
   split
   ·rfl
   ·rw [if_neg (by omega), if_neg (by omega), if_neg (by omega), if_neg (by omega)]
  by_cases hy : y < 0
  ·refine ⟨p, q, c, ec, fun a b => ?_, fun X hX => ?_⟩
   ·obtain ⟨n', xa, xb, q1, q2⟩ := e3 (by omega) (by omega)
    exact ⟨n', xa, xb, by omega, q2⟩
   ·have e4 := e4 X hX
    rw [GL.adds]
    simp only [rowsR]
    rw [hk, valL_append, sumR_append, if_pos hy]
    have z1 : ∀ m d, rowG Y m d y = 0 := fun m d => by unfold rowG; rw [if_pos hy]
    have z2 : ∀ d, errF Y c d y = 0 := fun d => by unfold errF; rw [if_pos hy]
    rw [z1, z2]
    have z3 : sumR (valL []) (Y * W + X) = 0 := rfl
    rw [z3]
    have e : ∀ a b : Rat, 0 + a - σ * (0 + b) = a - σ * b := fun a b => by grind
    rw [e]
    grind
  ·obtain ⟨yn, rfl⟩ : ∃ yn : Nat, y = yn := ⟨y.toNat, by omega⟩
   have ey' : ((yn : Int)).toNat = yn := by omega
   obtain ⟨_, _, RN, dn, db, hk0⟩ := hog.row h (by decide) (by decide) hd h1 (by omega) (by omega) W (yn * W)
   obtain ⟨⟨_, _, _, r⟩, hn', hw, _⟩ := hog.next h (by decide) (by decide) (dir := dir) h1 (by omega) (by omega)
   obtain ⟨_, _, hlt⟩ := h.rows (by decide)
   obtain ⟨_, _, g3, g4, _, _⟩ := hg_row hlt h1 (show (yn : Int) < ceilR (V ey) by omega)
   obtain ⟨d1, d2, d3, d4⟩ := hd.mul g3 g4 r
   have b1 := hog.bd h (by decide) (by decide) (by omega)
   have b2 := hn'.bd h (by decide) (by decide) (by omega)
   have RT := tot_ratC g3 d3 d4 (frow_totG (W := W) (base := yn * W) (B := 265) hog.xs hn'.xs d2 hw (by decide) (by decide) (by grind) (by grind))
   have hpl : ∀ q ∈ valL (frow W (yn * W) x ((lnG dir ax ay bx ey).nx yn x) (fop .mul ((lnG dir ax ay bx ey).dy yn) dir)), yn * W <= q.1 /\ q.1 <= yn * W + W := by
    intro q hq
    obtain ⟨p, hp, rfl⟩ := List.mem_map.1 hq
    exact RN.place p hp
   rcases Nat.lt_trichotomy yn Y with hlt | heq | hgt
   ·refine ⟨p, q, c, ec, fun a b => ?_, fun X hX => ?_⟩
    ·obtain ⟨n', xa, xb, q1, q2⟩ := e3 (by omega) (by omega)
     exact ⟨n', xa, xb, by omega, q2⟩
    ·have e4 := e4 X hX
     rw [GL.adds]
     simp only [rowsR]
     rw [hk, valL_append, sumR_append, if_neg hy, ey']
     have z1 : ∀ m d, rowG Y m d yn = d := fun m d => by unfold rowG; rw [if_neg (by omega), if_pos (by omega)]
     have z2 : ∀ d, errF Y c d yn = d * (8 / 16777216) := fun d => by unfold errF; rw [if_neg (by omega), if_pos (by omega)]
     have hle : yn * W + W <= Y * W + X := by
      have := Nat.mul_le_mul_right W (show yn + 1 <= Y by omega)
      rw [Nat.add_mul, Nat.one_mul] at this
      omega
     rw [z1, z2, sumR_all (fun q hq => by have := (hpl q hq).2; omega)]
     exact join_ratG (Rat.le_trans RT (by grind)) e4
   ·subst heq
    obtain ⟨c', hc', C⟩ := frow_cumF (W := W) (base := yn * W) (B := 265) hog.xs hn'.xs d2 hw (by decide) (by decide) (by grind) (by grind)
    have e273 : (265 : Rat) + 8 = 273 := by decide +kernel
    rw [e273] at hc'
    have hc0 : 0 <= c' /\ c' <= 300 := by
     rcases hc' with e | ⟨e, _⟩ <;> rw [e] <;> constructor <;> decide +kernel
    refine ⟨V x, V ((lnG dir ax ay bx ey).nx yn x), c', hc', fun a b => ⟨n, x, _, by omega, ho, hn, rfl, rfl⟩, fun X hX => ?_⟩
    have e4 := e4 X hX
    rw [GL.adds]
    simp only [rowsR]
    rw [hk, valL_append, sumR_append, if_neg hy, ey', other X _ (by omega), otherE c' (by omega)]
    have z1 : ∀ m d, rowG yn m d yn = d * m := fun m d => by unfold rowG; rw [if_neg (by omega), if_neg (by omega), if_pos rfl]
    have z2 : ∀ d, errF yn c' d yn = d * ((c' + 2) / 16777216) := fun d => by unfold errF; rw [if_neg (by omega), if_neg (by omega), if_pos rfl]
    rw [z1, z2]
    have mb := mean_bd ((X : Rat) + 1 - V x) ((X : Rat) + 1 - V ((lnG dir ax ay bx ey).nx yn x))
    exact join_ratG (cum_ratF g3 mb.1 mb.2 hc0.1 hc0.2 d3 d4 (C X hX)) e4
   ·refine ⟨p, q, c, ec, fun a b => by omega, fun X hX => ?_⟩
    have e4 := e4 X hX
    rw [GL.adds]
    simp only [rowsR]
    rw [hk, valL_append, sumR_append, if_neg hy, ey']
    have z1 : ∀ m d, rowG Y m d yn = 0 := fun m d => by unfold rowG; rw [if_neg (by omega), if_neg (by omega), if_neg (by omega)]
    have z2 : ∀ d, errF Y c d yn = 0 := fun d => by unfold errF; rw [if_neg (by omega), if_neg (by omega), if_neg (by omega)]
    have hle : Y * W + X < yn * W := by
     have := Nat.mul_le_mul_right W (show Y + 1 <= yn by omega)
     rw [Nat.add_mul, Nat.one_mul] at this
     omega
    rw [z1, z2, sumR_none (fun q hq => by have := (hpl q hq).1; omega)]
    have e : ∀ a b : Rat, 0 + a - σ * (0 + b) = a - σ * b := fun a b => by grind
    rw [e]
    grind
end
section
variable {ax ay bx ey dir : Nat} (h : GSpan ax ay bx ey 265) {Q : Nat -> Int -> Nat -> Prop} (hQ : ∀ n y x, Q n y x -> OnG ax ay bx ey 265 n y x)
 (hnx : ∀ n y x, Q n y x -> (V ay).floor <= y -> y < ceilR (V ey) -> n + 1 <= 2000 -> Q (n + 1) (y + 1) ((lnG dir ax ay bx ey).nx y x))
 (hmo : ∀ n y x, Q n y x -> (V ay).floor <= y -> y < ceilR (V ey) -> n + 1 <= 2000 -> (0 <= V (slW ax ay bx ey) -> V x <= V ((lnG dir ax ay bx ey).nx y x)) /\ (V (slW ax ay bx ey) <= 0 -> V ((lnG dir ax ay bx ey).nx y x) <= V x))
include h hQ hnx hmo
omit h in
theorem adds_z {W : Nat} (hW : 1 <= W) : ∀ (k n : Nat) (y : Int) (x : Nat), Q n y x -> (V ay).floor <= y -> y + k <= ceilR (V ey) -> n + k <= 2000 ->
  ∃ xe : Nat, Q (n + k) (y + k) xe /\ (k = 0 -> xe = x) /\
   (0 <= V (slW ax ay bx ey) -> V x <= V xe /\ (((lnG dir ax ay bx ey).adds W k y x).length : Int) <= 2 * (k : Int) + (ceilR (V xe) - ceilR (V x)) /\ (zcnt W ((lnG dir ax ay bx ey).adds W k y x) : Int) <= 2 * (k : Int) + (telW W (V xe) - telW W (V x)) /\
    (2 <= W /\ 1 <= k -> V x <= (W : Rat) - 1 -> 1 <= V xe -> (zcnt W ((lnG dir ax ay bx ey).adds W k y x) : Int) <= 2 * (k : Int) - 1 + (telW W (V xe) - telW W (V x)))) /\
   (V (slW ax ay bx ey) <= 0 -> V xe <= V x /\ (((lnG dir ax ay bx ey).adds W k y x).length : Int) <= 2 * (k : Int) + (ceilR (V x) - ceilR (V xe)) /\ (zcnt W ((lnG dir ax ay bx ey).adds W k y x) : Int) <= 2 * (k : Int) + (telW W (V x) - telW W (V xe)) /\
    (2 <= W /\ 1 <= k -> V xe <= (W : Rat) - 1 -> 1 <= V x -> (zcnt W ((lnG dir ax ay bx ey).adds W k y x) : Int) <= 2 * (k : Int) - 1 + (telW W (V x) - telW W (V xe))))
 | 0, n, y, x, ho, h1, h2, h3 => by
  have e0 : zcnt W ((lnG dir ax ay bx ey).adds W 0 y x) = 0 := rfl
  have e1 : ((lnG dir ax ay bx ey).adds W 0 y x).length = 0 := rfl
  refine ⟨x, by simpa using ho, fun _ => rfl, fun _ => ⟨Rat.le_refl, ?_, ?_, fun a => by omega⟩, fun _ => ⟨Rat.le_refl, ?_, ?_, fun a => by omega⟩⟩ <;> (first | rw [e0] | rw [e1]) <;> push_cast <;> omega
 | k + 1, n, y, x, ho, h1, h2, h3 => by
  have hn := hnx n y x ho h1 (by omega) (by omega)
  obtain ⟨up, dn⟩ := hmo n y x ho h1 (by omega) (by omega)
  have hog := hQ _ _ _ ho
  have hng := hQ _ _ _ hn
  obtain ⟨xe, e1, e0, e2, e3⟩ := adds_z hW k (n + 1) (y + 1) _ hn (by omega) (by omega) (by omega)
  refine ⟨xe, by rw [show n + (k + 1) = n + 1 + k by omega, show y + ((k + 1 : Nat) : Int) = y + 1 + k by push_cast; omega]; exact e1, fun h => by omega, fun s => ?_, fun s => ?_⟩
  ·have u := up s
   obtain ⟨f1, f0, f2, f3⟩ := e2 s
   have rowz : (zcnt W (if y < 0 then [] else frow W (y.toNat * W) x ((lnG dir ax ay bx ey).nx y x) (fop .mul ((lnG dir ax ay bx ey).dy y) (lnG dir ax ay bx ey).dir)) : Int) <= 2 + (telW W (V ((lnG dir ax ay bx ey).nx y x)) - telW W (V x)) /\
     (V x <= (W : Rat) - 1 -> 1 <= V ((lnG dir ax ay bx ey).nx y x) -> (zcnt W (if y < 0 then [] else frow W (y.toNat * W) x ((lnG dir ax ay bx ey).nx y x) (fop .mul ((lnG dir ax ay bx ey).dy y) (lnG dir ax ay bx ey).dir)) : Int) <= 1 + (telW W (V ((lnG dir ax ay bx ey).nx y x)) - telW W (V x))) := by
    have tm := telW_mono W u
    split
    ·have : zcnt W [] = 0 := rfl
     rw [this]
     push_cast
     exact ⟨by omega, fun _ _ => by omega⟩
    ·exact frow_z hW hog.xs hng.xs _ _ (.inl ⟨u, rfl, rfl⟩)
   have rowl : (((if y < 0 then [] else frow W (y.toNat * W) x ((lnG dir ax ay bx ey).nx y x) (fop .mul ((lnG dir ax ay bx ey).dy y) (lnG dir ax ay bx ey).dir)) : List (Nat × Nat)).length : Int) <= 2 + (ceilR (V ((lnG dir ax ay bx ey).nx y x)) - ceilR (V x)) := by
    have tm := ceilR_le u
    split
    ·rw [List.length_nil]
     push_cast
     omega
    ·exact frow_len2 hog.xs hng.xs _ _ (.inl ⟨u, rfl, rfl⟩)
   obtain ⟨r1, r2⟩ := rowz
   rw [GL.adds, zcnt_append, List.length_append]
   generalize (lnG dir ax ay bx ey).nx y x = xn at *
   generalize ((if y < 0 then [] else frow W (y.toNat * W) x xn (fop .mul ((lnG dir ax ay bx ey).dy y) (lnG dir ax ay bx ey).dir)) : List (Nat × Nat)) = Lr at *
   generalize ((lnG dir ax ay bx ey).adds W k (y + 1) xn) = Lk at *
   generalize zcnt W Lr = c at *
   generalize zcnt W Lk = c2 at *
   push_cast
   refine ⟨by grind, by omega, by omega, fun w2 g1 g2 => ?_⟩
   have hW2 : (2 : Rat) <= W := by exact_mod_cast w2.1
   by_cases g3 : 1 <= V xn
   ·have := r2 g1 g3
    omega
   ·have hk : 1 <= k := by
     rcases Nat.eq_zero_or_pos k with z | z
     ·subst z
      have : xe = xn := e0 rfl
      rw [this] at g2
      exact absurd g2 g3
     ·exact z
    have := f3 ⟨w2.1, hk⟩ (by grind) g2
    omega
  ·have u := dn s
   obtain ⟨f1, f0, f2, f3⟩ := e3 s
   have rowz : (zcnt W (if y < 0 then [] else frow W (y.toNat * W) x ((lnG dir ax ay bx ey).nx y x) (fop .mul ((lnG dir ax ay bx ey).dy y) (lnG dir ax ay bx ey).dir)) : Int) <= 2 + (telW W (V x) - telW W (V ((lnG dir ax ay bx ey).nx y x))) /\
     (V ((lnG dir ax ay bx ey).nx y x) <= (W : Rat) - 1 -> 1 <= V x -> (zcnt W (if y < 0 then [] else frow W (y.toNat * W) x ((lnG dir ax ay bx ey).nx y x) (fop .mul ((lnG dir ax ay bx ey).dy y) (lnG dir ax ay bx ey).dir)) : Int) <= 1 + (telW W (V x) - telW W (V ((lnG dir ax ay bx ey).nx y x)))) := by
    have tm := telW_mono W u
    split
    ·have : zcnt W [] = 0 := rfl
     rw [this]
     push_cast
     exact ⟨by omega, fun _ _ => by omega⟩
    ·exact frow_z hW hog.xs hng.xs _ _ (.inr ⟨u, rfl, rfl⟩)
   have rowl : (((if y < 0 then [] else frow W (y.toNat * W) x ((lnG dir ax ay bx ey).nx y x) (fop .mul ((lnG dir ax ay bx ey).dy y) (lnG dir ax ay bx ey).dir)) : List (Nat × Nat)).length : Int) <= 2 + (ceilR (V x) - ceilR (V ((lnG dir ax ay bx ey).nx y x))) := by
    have tm := ceilR_le u
    split
    ·rw [List.length_nil]
     push_cast
     omega
    ·exact frow_len2 hog.xs hng.xs _ _ (.inr ⟨u, rfl, rfl⟩)
   obtain ⟨r1, r2⟩ := rowz
   rw [GL.adds, zcnt_append, List.length_append]
   generalize (lnG dir ax ay bx ey).nx y x = xn at *
   generalize ((if y < 0 then [] else frow W (y.toNat * W) x xn (fop .mul ((lnG dir ax ay bx ey).dy y) (lnG dir ax ay bx ey).dir)) : List (Nat × Nat)) = Lr at *
   generalize ((lnG dir ax ay bx ey).adds W k (y + 1) xn) = Lk at *
   generalize zcnt W Lr = c at *
   generalize zcnt W Lk = c2 at *
   push_cast
   refine ⟨by grind, by omega, by omega, fun w2 g1 g2 => ?_⟩
   have hW2 : (2 : Rat) <= W := by exact_mod_cast w2.1
   by_cases g3 : V xn <= (W : Rat) - 1
   ·have := r2 g3 g2
    omega
   ·have hk : 1 <= k := by
     rcases Nat.eq_zero_or_pos k with z | z
     ·rw [e0 z] at g1
      exact absurd g1 g3
     ·exact z
    have := f3 ⟨w2.1, hk⟩ g1 (by grind)
    omega
omit h hmo in
theorem adds_nz {W : Nat} (hW : 0 < W) : ∀ (k n : Nat) (y : Int) (x : Nat), Q n y x -> (V ay).floor <= y -> y + k <= ceilR (V ey) -> n + k <= 2000 ->
  (nzL W ((lnG dir ax ay bx ey).adds W k y x)).Pairwise (· < ·) /\ ∀ i ∈ nzL W ((lnG dir ax ay bx ey).adds W k y x), y.toNat * W <= i
 | 0, n, y, x, ho, h1, h2, h3 => by
  have e0 : nzL W ((lnG dir ax ay bx ey).adds W 0 y x) = [] := rfl
  rw [e0]
  exact ⟨List.Pairwise.nil, fun i hi => by simp at hi⟩
 | k + 1, n, y, x, ho, h1, h2, h3 => by
  have hn := hnx n y x ho h1 (by omega) (by omega)
  have hog := hQ _ _ _ ho
  have hng := hQ _ _ _ hn
  obtain ⟨p1, p2⟩ := adds_nz hW k (n + 1) (y + 1) _ hn (by omega) (by omega) (by omega)
  rw [GL.adds, nzL_append]
  by_cases hy : y < 0
  ·have e0 : nzL W [] = [] := rfl
   have e1 : y.toNat = 0 := by omega
   rw [if_pos hy, e0, List.nil_append, e1, Nat.zero_mul]
   exact ⟨p1, fun i _ => Nat.zero_le i⟩
  ·rw [if_neg hy]
   obtain ⟨q1, q2⟩ := frow_nz (W := W) (r := y.toNat) (d := fop .mul ((lnG dir ax ay bx ey).dy y) (lnG dir ax ay bx ey).dir) hW hog.xs hng.xs
   have e1 : (y + 1).toNat = y.toNat + 1 := by omega
   rw [e1, Nat.add_mul, Nat.one_mul] at p2
   refine ⟨List.pairwise_append.2 ⟨q1, p1, fun a ha b hb => ?_⟩, fun i hi => ?_⟩
   ·have := (q2 a ha).2
    have := p2 b hb
    omega
   ·rcases List.mem_append.1 hi with hi | hi
    ·exact (q2 i hi).1
    ·have := p2 i hi
     omega
end
section
variable {ax ay bx ey dir : Nat} {σ : Rat} (h : GSpan ax ay bx ey 265) (hd : DirW dir σ) {Q : Nat -> Int -> Nat -> Prop} (hQ : ∀ n y x, Q n y x -> OnG ax ay bx ey 265 n y x)
 (hnx : ∀ n y x, Q n y x -> (V ay).floor <= y -> y < ceilR (V ey) -> n + 1 <= 2000 -> Q (n + 1) (y + 1) ((lnG dir ax ay bx ey).nx y x))
include h hd hQ hnx
theorem adds_abs {W : Nat} : ∀ (k n : Nat) (y : Int) (x : Nat), Q n y x -> (V ay).floor <= y -> y + k <= ceilR (V ey) -> n + k <= 2000 ->
  absR (valL ((lnG dir ax ay bx ey).adds W k y x)) <= (hg (V ay) (V ey) (y + k) - hg (V ay) (V ey) y) * (10003 / 10000) + k * (1 / 1000000000000000000000000) /\
  absR (valL ((lnG dir ax ay bx ey).adds W k y x)) - σ * totR (valL ((lnG dir ax ay bx ey).adds W k y x)) <= (hg (V ay) (V ey) (y + k) - hg (V ay) (V ey) y) * (3 / 10000) + k * (1 / 1000000000000000000000000)
 | 0, n, y, x, ho, h1, h2, h3 => by
  have e : y + ((0 : Nat) : Int) = y := by omega
  simp only [GL.adds, valL, List.map_nil, absR, totR]
  rw [e]
  push_cast
  constructor <;> grind
 | k + 1, n, y, x, ho, h1, h2, h3 => by
  have hn := hnx n y x ho h1 (by omega) (by omega)
  have hog := hQ _ _ _ ho
  obtain ⟨i1, i2⟩ := adds_abs (W := W) k (n + 1) (y + 1) _ hn (by omega) (by omega) (by omega)
  obtain ⟨_, _, RN, dn, db, hk0⟩ := hog.row h (by decide) (by decide) hd h1 (by omega) (by omega) W (y.toNat * W)
  obtain ⟨⟨_, _, _, r⟩, hn', hw, _⟩ := hog.next h (by decide) (by decide) (dir := dir) h1 (by omega) (by omega)
  obtain ⟨_, _, hlt⟩ := h.rows (by decide)
  obtain ⟨g1, g2, g3, g4, _, _⟩ := hg_row hlt h1 (show y < ceilR (V ey) by omega)
  obtain ⟨d1, d2, d3, d4⟩ := hd.mul g3 g4 r
  have b1 := hog.bd h (by decide) (by decide) (by omega)
  have b2 := hn'.bd h (by decide) (by decide) (by omega)
  have RT := tot_ratC g3 d3 d4 (frow_totG (W := W) (base := y.toNat * W) (B := 265) hog.xs hn'.xs d2 hw (by decide) (by decide) (by grind) (by grind))
  have RG := neg_ratC hd.one g3 d4 RN.abs RT
  have RA := RN.abs
  have ey' : y + ((k + 1 : Nat) : Int) = y + 1 + k := by push_cast; omega
  have hstep : hg (V ay) (V ey) (y + 1) - hg (V ay) (V ey) y = pr y (V ey) - pr y (V ay) := by rw [g1, g2]; grind
  rw [ey', GL.adds, valL_append, absR_append, totR_append]
  have hk : ((k + 1 : Nat) : Rat) = (k : Rat) + 1 := by push_cast; rfl
  rw [hk]
  have e : hg (V ay) (V ey) (y + 1 + k) - hg (V ay) (V ey) y = (hg (V ay) (V ey) (y + 1 + k) - hg (V ay) (V ey) (y + 1)) + (pr y (V ey) - pr y (V ay)) := by rw [<- hstep]; grind
  rw [e]
  by_cases hy : y < 0
  ·rw [if_pos hy]
   have z1 : absR (valL []) = 0 := rfl
   have z2 : totR (valL []) = 0 := rfl
   rw [z1, z2]
   constructor <;> grind
  ·rw [if_neg hy, show (lnG dir ax ay bx ey).dir = dir from rfl]
   generalize pr y (V ey) - pr y (V ay) = kk at *
   generalize absR (valL (frow W (y.toNat * W) x ((lnG dir ax ay bx ey).nx y x) (fop .mul ((lnG dir ax ay bx ey).dy y) dir))) = A at *
   generalize totR (valL (frow W (y.toNat * W) x ((lnG dir ax ay bx ey).nx y x) (fop .mul ((lnG dir ax ay bx ey).dy y) dir))) = T at *
   generalize V (fop .mul ((lnG dir ax ay bx ey).dy y) dir) = D at *
   constructor
   ·clear i2 RG RT
    grind
   ·clear i1 RA RT
    grind
end
theorem slope_sign {ax ay bx ey : Nat} {B : Rat} (h : GSpan ax ay bx ey B) (hB1 : B <= 1024) : (V ax <= V bx -> 0 <= V (slW ax ay bx ey)) /\ (V bx <= V ax -> V (slW ax ay bx ey) <= 0) := by
 obtain ⟨e1, e2, e3⟩ := h.rows hB1
 have hgap := h.gap
 obtain ⟨y1, y2⟩ := ab_iff.1 h.hay
 obtain ⟨y3, y4⟩ := ab_iff.1 h.hey
 obtain ⟨q1, r1⟩ := fsub_ok h.fey h.fay (big126 (ab_le (by grind) (by grind)))
 obtain ⟨q2, r2⟩ := fsub_ok h.fbx h.fax (big126 (by grind))
 have n1 := r1.nearG.2
 have n2 := r2.nearG.2
 rw [ab_of_nonneg (x := V ey - V ay) (by grind)] at n1
 obtain ⟨d1, d2⟩ := ab_iff.1 n1
 have hD : 1 / 2000000 <= V (fop .sub ey ay) := by grind
 have hX : ab (V (fop .sub bx ax)) <= 5000 := by
  have k := ab_add_le (V (fop .sub bx ax) - (V bx - V ax)) (V bx - V ax)
  have e : V (fop .sub bx ax) - (V bx - V ax) + (V bx - V ax) = V (fop .sub bx ax) := by grind
  rw [e] at k
  grind
 obtain ⟨q3, r3⟩ := fquo_ok r2.fin r1.fin (by grind) (by
  rw [ab_of_nonneg (x := V (fop .sub ey ay)) (by grind)]
  have h4 : (1000000000000000000000000000000 : Rat) <= p2 125 := big125 Rat.le_refl
  have m1 := Rat.mul_le_mul_of_nonneg_right h4 (show 0 <= V (fop .sub ey ay) by grind)
  grind)
 have hi : 0 <= (V (fop .sub ey ay))⁻¹ := Rat.le_of_lt (Rat.inv_pos.2 (by grind))
 refine ⟨fun c => ?_, fun c => ?_⟩
 ·have k := r2.nonneg (by grind)
  exact r3.nonneg (by rw [Rat.div_def]; exact Rat.mul_nonneg k hi)
 ·have k := r2.nonpos (by grind)
  refine r3.nonpos ?_
  rw [Rat.div_def]
  have := Rat.mul_nonneg (show 0 <= -V (fop .sub bx ax) by grind) hi
  grind
structure LineQ (W H ax ay bx ey : Nat) (σ kq : Rat) (L : List (Nat × Nat)) : Prop where
 bd : ∀ p ∈ L, Bd p.2 1
 nz : (nzL W L).Pairwise (· < ·)
 abs : absR (valL L) <= (V ey - V ay) * (10003 / 10000) + 1 / 100000000000000000000
 neg : absR (valL L) - σ * totR (valL L) <= (V ey - V ay) * (3 / 10000) + 1 / 100000000000000000000
 z : 1 <= W -> ∃ xe : Rat, (V ax <= V bx -> xe <= V bx + 1 / 20 /\ (L.length : Int) <= 2 * (ceilR (V ey) - (V ay).floor) + (ceilR xe - ceilR (V ax)) /\ (zcnt W L : Int) <= 2 * (ceilR (V ey) - (V ay).floor) + (telW W xe - telW W (V ax)) /\
   (2 <= W -> V ax <= (W : Rat) - 1 -> 1 <= xe -> (zcnt W L : Int) <= 2 * (ceilR (V ey) - (V ay).floor) - 1 + (telW W xe - telW W (V ax)))) /\
  (V bx <= V ax -> V bx - 1 / 20 <= xe /\ (L.length : Int) <= 2 * (ceilR (V ey) - (V ay).floor) + (ceilR (V ax) - ceilR xe) /\ (zcnt W L : Int) <= 2 * (ceilR (V ey) - (V ay).floor) + (telW W (V ax) - telW W xe) /\
   (2 <= W -> xe <= (W : Rat) - 1 -> 1 <= V ax -> (zcnt W L : Int) <= 2 * (ceilR (V ey) - (V ay).floor) - 1 + (telW W (V ax) - telW W xe)))
 cum : ∀ Y : Nat, Y < H -> ∃ p q c : Rat, (c = 27 ∨ (c = 273 /\ ab (q - p) <= 1 /\ (0 <= p ∨ 0 <= q) /\ (p <= W ∨ q <= W))) /\
  (pr Y (V ay) < pr Y (V ey) -> ab (p - (V ax + slG ax ay bx ey * (Y + pr Y (V ay) - V ay))) <= ab (V bx - V ax) * (6 / 16777216) + ((ceilR (V ey) - (V ay).floor : Int) : Rat) * kq /\ ab (q - (V ax + slG ax ay bx ey * (Y + pr Y (V ey) - V ay))) <= ab (V bx - V ax) * (6 / 16777216) + ((ceilR (V ey) - (V ay).floor : Int) : Rat) * kq) /\
  ∀ X, X < W -> ab (sumR (valL L) (Y * W + X) - σ * ((GY Y (V ey) - GY Y (V ay)) + (pr Y (V ey) - pr Y (V ay)) * mean ((X : Rat) + 1 - p) ((X : Rat) + 1 - q))) <= (GY Y (V ey) - GY Y (V ay)) * (8 / 16777216) + (pr Y (V ey) - pr Y (V ay)) * ((c + 2) / 16777216) + 1 / 100000000000000000000
theorem err_uptoF {A E c : Rat} {H : Int} {Y : Nat} (hAE : A < E) (hY : (Y : Int) < H) :
  rowsR (fun r => errF Y c (pr r E - pr r A) r) A.floor ((if H < ceilR E then H else ceilR E) - A.floor).toNat = (GY Y E - GY Y A) * (8 / 16777216) + (pr Y E - pr Y A) * ((c + 2) / 16777216) := by
 rw [rowsR_same (b := 0) (j := Y + 1), rowsR_last]
 ·unfold GY
  rw [<- rowsR_sub, <- rowsR_scale]
  congr 1
  ·refine rowsR_congr fun r h1 h2 => ?_
   unfold errF
   rw [if_neg (by omega), if_pos (by omega)]
  ·unfold errF
   rw [if_neg (by omega), if_neg (by omega), if_pos rfl]
 ·intro r hr
  unfold errF
  by_cases hin : r < A.floor ∨ ceilR E <= r
  ·rw [pr_zero_out hAE hin]
   split
   ·rfl
   ·split
    ·grind
    ·split
     ·grind
     ·rfl
  ·have hH : H <= r := by split at hr <;> omega
   split
   ·rfl
   ·rw [if_neg (by omega), if_neg (by omega)]
 ·intro r hr
  unfold errF
  split
  ·rfl
  ·rw [if_neg (by omega), if_neg (by omega)]
theorem k_smallF {k : Nat} {e s : Rat} (hk : (k : Rat) <= 2000) (h : e <= s + k * (1 / 1000000000000000000000000)) : e <= s + 1 / 100000000000000000000 := by grind
section
variable {W H ax ay bx ey dir : Nat} {σ kq : Rat} (h : GSpan ax ay bx ey 265) (hW : 0 < W) (hd : DirW dir σ) {Q : Nat -> Int -> Nat -> Prop} (hQ : ∀ n y x, Q n y x -> OnG ax ay bx ey 265 n y x)
 (hnx : ∀ n y x, Q n y x -> (V ay).floor <= y -> y < ceilR (V ey) -> n + 1 <= 2000 -> Q (n + 1) (y + 1) ((lnG dir ax ay bx ey).nx y x))
 (hmo : ∀ n y x, Q n y x -> (V ay).floor <= y -> y < ceilR (V ey) -> n + 1 <= 2000 -> (0 <= V (slW ax ay bx ey) -> V x <= V ((lnG dir ax ay bx ey).nx y x)) /\ (V (slW ax ay bx ey) <= 0 -> V ((lnG dir ax ay bx ey).nx y x) <= V x))
 (hst : Q 0 (V ay).floor ax) (hkq : 0 <= kq)
 (hne : ∀ n y x, Q n y x -> n <= 2000 -> ab (V x - (V ax + slG ax ay bx ey * (hg (V ay) (V ey) y - V ay))) <= ab (slG ax ay bx ey) * (hg (V ay) (V ey) y - V ay) * (6 / 16777216) + n * kq)
include h hW hd hQ hnx hmo hst hkq hne
theorem lineQ : LineQ W H ax ay bx ey σ kq ((lnG dir ax ay bx ey).adds W (flEnd ey H - ffl ay).toNat (ffl ay) ax) := by
 obtain ⟨_, _, _, _, LF⟩ := line_facts (H := H) h hW (by decide) (by decide) hd
 obtain ⟨sl1, sl2, hlt⟩ := h.rows (by decide)
 obtain ⟨y1, y2⟩ := ab_iff.1 h.hay
 obtain ⟨y3, y4⟩ := ab_iff.1 h.hey
 have xa : XsG ay := ⟨Bd.of h.fay (by rw [p2_15]; exact ab_le (by grind) (by grind))⟩
 have xe : XsG ey := ⟨Bd.of h.fey (by rw [p2_15]; exact ab_le (by grind) (by grind))⟩
 obtain ⟨f1, f2, f3, f4⟩ := xa.fl
 obtain ⟨c1, c2, c3, c4⟩ := xe.ce
 have hend : flEnd ey H = if (H : Int) < ceilR (V ey) then (H : Int) else ceilR (V ey) := by unfold flEnd; rw [c2]
 obtain ⟨K, hK⟩ : ∃ K, K = ((if (H : Int) < ceilR (V ey) then (H : Int) else ceilR (V ey)) - (V ay).floor).toNat := ⟨_, rfl⟩
 have hfl := floor_near (V ay)
 have hce := ceil_near (V ey)
 have hfc : (V ay).floor < ceilR (V ey) := by
  have e1 : (((V ay).floor : Int) : Rat) < ((ceilR (V ey) : Int) : Rat) := by grind
  exact Rat.intCast_lt_intCast.1 e1
 have hKend : (V ay).floor + (K : Int) <= ceilR (V ey) := by rw [hK]; split <;> omega
 have hKR : (K : Rat) <= V ey - V ay + 2 := by
  have := castLe hKend
  push_cast at this
  grind
 have hK2 : K <= 1900 := by
  have e1 : ((K : Int) : Rat) <= ((1900 : Int) : Rat) := by push_cast; grind
  have := Rat.intCast_le_intCast.1 e1
  omega
 have hKr : (K : Rat) <= 2000 := by exact_mod_cast (show K <= 2000 by omega)
 have habs : ab (slG ax ay bx ey) * (V ey - V ay) = ab (V bx - V ax) := by rw [<- sl1, ab_mul, ab_of_nonneg (x := V ey - V ay) (by grind)]
 have hs0 := ab_nonneg (slG ax ay bx ey)
 have hbd := LF.bd
 rw [hend, f2, <- hK] at hbd ⊢
 have hgK := hg_bd (Rat.le_of_lt hlt) ((V ay).floor + (K : Int))
 have hg0 := hg_bd (Rat.le_of_lt hlt) (V ay).floor
 obtain ⟨a1, a2⟩ := adds_abs h hd hQ hnx (W := W) K 0 _ _ hst (Int.le_refl _) hKend (by omega)
 refine ⟨hbd, (adds_nz hQ hnx hW K 0 _ _ hst (Int.le_refl _) hKend (by omega)).1, ?_, ?_, fun hW2 => ?_, fun Y hY => ?_⟩
 ·refine k_smallF hKr (Rat.le_trans a1 ?_)
  grind
 ·refine k_smallF hKr (Rat.le_trans a2 ?_)
  grind
 ·obtain ⟨xn, z1, z0, z2, z3⟩ := adds_z hQ hnx hmo hW2 K 0 _ _ hst (Int.le_refl _) hKend (by omega)
  have hog := (hQ _ _ _ z1).near
  rw [Nat.zero_add] at hog
  have m1 := Rat.mul_le_mul_of_nonneg_left (show hg (V ay) (V ey) ((V ay).floor + (K : Int)) - V ay <= V ey - V ay by grind) hs0
  rw [habs] at m1
  have hw2 : ab (V bx - V ax) <= 528 := by
   have i1 := ab_iff.1 h.hax
   have i2 := ab_iff.1 h.hbx
   exact ab_le (by grind) (by grind)
  have hKs : (K : Rat) * (265 / 16777216) <= 2000 * (265 / 16777216) := Rat.mul_le_mul_of_nonneg_right hKr (by decide +kernel)
  obtain ⟨sg1, sg2⟩ := slope_sign h (by decide)
  have hpg := Rat.mul_nonneg hs0 (show 0 <= hg (V ay) (V ey) ((V ay).floor + (K : Int)) - V ay by grind)
  have hKC : (K : Int) <= ceilR (V ey) - (V ay).floor := by omega
  obtain ⟨o1, o2⟩ := ab_iff.1 hog
  generalize hG : hg (V ay) (V ey) ((V ay).floor + (K : Int)) - V ay = G at *
  have hG1 : G <= V ey - V ay := by grind
  have hG0 : 0 <= G := by grind
  refine ⟨V xn, fun c => ?_, fun c => ?_⟩
  ·obtain ⟨u1, u0, u2, u3⟩ := z2 (sg1 c)
   have hsl : slG ax ay bx ey * G <= V bx - V ax := by
    rw [<- sl1]
    refine Rat.mul_le_mul_of_nonneg_left hG1 ?_
    have : 0 <= slG ax ay bx ey * (V ey - V ay) := by rw [sl1]; grind
    exact pos_of_mul (show 0 < V ey - V ay by grind) this
   refine ⟨by grind, by omega, by omega, fun w2 b1 b2 => ?_⟩
   rcases Nat.eq_zero_or_pos K with zz | zz
   ·have : (zcnt W ((lnG dir ax ay bx ey).adds W K (V ay).floor ax) : Int) = 0 := by rw [zz]; rfl
    have tm := telW_mono W u1
    omega
   ·have := u3 ⟨w2, zz⟩ b1 b2
    omega
  ·obtain ⟨u1, u0, u2, u3⟩ := z3 (sg2 c)
   have hsl : V bx - V ax <= slG ax ay bx ey * G := by
    have hn : 0 <= -slG ax ay bx ey := by
     have : 0 <= -slG ax ay bx ey * (V ey - V ay) := by
      have e : -slG ax ay bx ey * (V ey - V ay) = -(slG ax ay bx ey * (V ey - V ay)) := by grind
      rw [e, sl1]
      grind
     exact pos_of_mul (show 0 < V ey - V ay by grind) this
    have := Rat.mul_le_mul_of_nonneg_left hG1 hn
    grind
   refine ⟨by grind, by omega, by omega, fun w2 b1 b2 => ?_⟩
   rcases Nat.eq_zero_or_pos K with zz | zz
   ·have : (zcnt W ((lnG dir ax ay bx ey).adds W K (V ay).floor ax) : Int) = 0 := by rw [zz]; rfl
    have tm := telW_mono W u1
    omega
   ·have := u3 ⟨w2, zz⟩ b1 b2
    omega
 ·obtain ⟨p, q, c, ec, e1, e2⟩ := adds_cumF h hd hQ hnx (W := W) (Y := Y) K 0 _ _ hst (Int.le_refl _) hKend (by omega)
  have r2 := err_uptoF (c := c) (H := (H : Int)) (Y := Y) hlt (by omega)
  rw [<- hK] at r2
  refine ⟨p, q, c, ec, fun hpos => ?_, fun X hX => ?_⟩
  ·have hin : (V ay).floor <= (Y : Int) /\ (Y : Int) < (V ay).floor + K := by
    have h0 : ¬ ((Y : Int) < (V ay).floor ∨ ceilR (V ey) <= (Y : Int)) := fun hc => by
     have := pr_zero_out hlt hc
     grind
    rw [hK]
    split <;> omega
   obtain ⟨n', xa', xb', w1, w2, w3, w4, w5⟩ := e1 hin.1 hin.2
   have w2 := hne _ _ _ w2 (by omega)
   have w3 := hne _ _ _ w3 (by omega)
   have hYc : (Y : Int) < ceilR (V ey) := by omega
   obtain ⟨g1, g2, _, _, g5, g6⟩ := hg_row hlt hin.1 hYc
   have g7 := (hg_bd (Rat.le_of_lt hlt) (Y : Int)).2
   have g8 := (hg_bd (Rat.le_of_lt hlt) ((Y : Int) + 1)).2
   have hnR : ((n' + 1 : Nat) : Rat) <= ((ceilR (V ey) - (V ay).floor : Int) : Rat) := by
    have := castLe (show ((n' + 1 : Nat) : Int) <= ceilR (V ey) - (V ay).floor by omega)
    push_cast at this ⊢
    exact this
   have m1 := Rat.mul_le_mul_of_nonneg_left (show hg (V ay) (V ey) (Y : Int) - V ay <= V ey - V ay by grind) hs0
   have m2 := Rat.mul_le_mul_of_nonneg_left (show hg (V ay) (V ey) ((Y : Int) + 1) - V ay <= V ey - V ay by grind) hs0
   rw [habs] at m1 m2
   have m4 := Rat.mul_le_mul_of_nonneg_right hnR hkq
   have m3 : ((n' : Nat) : Rat) * kq <= ((n' + 1 : Nat) : Rat) * kq := by push_cast; grind
   rw [g1] at w2 m1
   rw [g2] at w3 m2
   have eY : (((Y : Nat) : Int) : Rat) = (Y : Rat) := by push_cast; rfl
   rw [eY] at w2 w3 m1 m2
   rw [w4, w5]
   exact ⟨by grind, by grind⟩
  ·have e7 := e2 X hX
   have r1 := rows_uptoG (H := (H : Int)) (Y := Y) hlt (by omega) (mean ((X : Rat) + 1 - p) ((X : Rat) + 1 - q))
   rw [<- hK] at r1
   rw [r1, r2] at e7
   exact k_smallF hKr e7
end
end Go.Proofs.Ytmgcbodlolnheaa
