/- What the checked tables say of edges: how far an edge can bring the content of a cell beyond its potential. How much an edge adds to a cell beside the mask, and how a table bounds it, in -/
import Derived.Test.YtmgcbodlolnheaaZ18
import Derived.Test.YtmgcbodlolnheaaZ08
namespace Go.Proofs.Ytmgcbodlolnheaa
set_option linter.unusedVariables false
theorem natSub {a b : Nat} (h : b <= a) : ((a - b : Nat) : Rat) = (a : Rat) - b := by
 obtain ⟨k, hk⟩ : ∃ k, a = b + k := ⟨a - b, by omega⟩
 have e1 : a - b = k := by omega
 have e2 : (a : Rat) = (b : Rat) + k := by exact_mod_cast hk
 rw [e1, e2]
 grind
def bilS (w : Nat) (S : Sq) (x y : Rat) : Rat :=
 (S.t00 * (w - x) * (S.y1 - y) + S.t10 * x * (S.y1 - y) + S.t01 * (w - x) * (y - S.y0) + S.t11 * x * (y - S.y0)) / (w * (S.y1 - S.y0))
structure SqqOk (w : Nat) (S : Sq) : Prop where
 w : 0 < w
 y : S.y0 < S.y1
 t00 : S.t00 <= offV
 t01 : S.t01 <= offV
 t10 : S.t10 <= offV
 t11 : S.t11 <= offV
theorem SqqOk.den {w : Nat} {S : Sq} (h : SqqOk w S) : ∃ i : Rat, 0 < i /\ (w : Rat) * (S.y1 - S.y0) * i = 1 /\ 0 < (w : Rat) /\ 0 < (S.y1 : Rat) - S.y0 := by
 have h1 : (0 : Rat) < w := by exact_mod_cast h.w
 have h2 : (S.y0 : Rat) < S.y1 := by exact_mod_cast h.y
 have h3 : (0 : Rat) < (S.y1 : Rat) - S.y0 := by grind
 have h4 := Rat.mul_pos h1 h3
 refine ⟨((w : Rat) * (S.y1 - S.y0))⁻¹, ?_, ?_, h1, h3⟩
 ·exact Rat.inv_pos.2 h4
 ·exact Rat.mul_inv_cancel _ (by grind)
theorem bilS_inv {w : Nat} {S : Sq} {i : Rat} (hi : (w : Rat) * (S.y1 - S.y0) * i = 1) (x y : Rat) :
  bilS w S x y = (S.t00 * (w - x) * (S.y1 - y) + S.t10 * x * (S.y1 - y) + S.t01 * (w - x) * (y - S.y0) + S.t11 * x * (y - S.y0)) * i := by
 unfold bilS
 generalize (S.t00 * (w - x) * (S.y1 - y) + S.t10 * x * (S.y1 - y) + S.t01 * (w - x) * (y - S.y0) + S.t11 * x * (y - S.y0) : Rat) = n at *
 generalize hd : (w : Rat) * (S.y1 - S.y0) = d at *
 have hd0 : d ≠ 0 := fun h => by rw [h] at hi; grind
 have : d⁻¹ = i := by
  have e : d * d⁻¹ = 1 := Rat.mul_inv_cancel _ hd0
  grind
 rw [Rat.div_def, this]
theorem bil_S {w : Nat} {S : Sq} (h : SqqOk w S) : Bil (bilS w S) := by
 obtain ⟨i, _, hi, _, _⟩ := h.den
 refine ⟨(S.t00 * w * S.y1 - S.t01 * w * S.y0) * i, (-S.t00 * S.y1 + S.t10 * S.y1 + S.t01 * S.y0 - S.t11 * S.y0) * i, (-S.t00 * w + S.t01 * w) * i, (S.t00 - S.t10 - S.t01 + S.t11) * i, fun x y => ?_⟩
 rw [bilS_inv hi]
 grind
theorem bilS_corn {w : Nat} {S : Sq} (h : SqqOk w S) : bilS w S 0 S.y0 = S.t00 /\ bilS w S 0 S.y1 = S.t01 /\ bilS w S w S.y0 = S.t10 /\ bilS w S w S.y1 = S.t11 := by
 obtain ⟨i, _, hi, _, _⟩ := h.den
 rw [bilS_inv hi, bilS_inv hi, bilS_inv hi, bilS_inv hi]
 refine ⟨?_, ?_, ?_, ?_⟩ <;> grind
theorem Bil.const_sub {f : Rat -> Rat -> Rat} (c : Rat) (h : Bil f) : Bil fun x y => c - f x y := by
 obtain ⟨a, b, d, e, h⟩ := h
 exact ⟨c - a, -b, -d, -e, fun x y => by simp only [h]; grind⟩
theorem root_sound {P : Par} (hP : ParOk P) {zp : Zp} {w0 w1 : Nat} {S R : Sq} (hS : SqqOk zp.pw S) (hR : SqqOk zp.qw R) {c0 c1 r0 r1 : Nat}
  (k0 : chkQ P zp false 64 (rootQ zp false w0 w1 S R) c0 = some r0) (k1 : chkQ P zp true 64 (rootQ zp true w0 w1 S R) c1 = some r1)
  {p q y z W t s : Rat} (he : Ends P zp p q y z W) (hc : Cross zp p q W t s) (p0 : 0 <= p) (p1 : p <= zp.pw) (q0 : 0 <= q) (q1 : q <= zp.qw) (y0 : (S.y0 : Rat) <= y) (y1 : y <= S.y1) (z0 : (R.y0 : Rat) <= z) (z1 : z <= R.y1) (hw0 : (w0 : Rat) <= W) (hw1 : W <= w1) :
  Flt.ab (bilS zp.qw R q z - bilS zp.pw S p y + (if hasT zp then tR P true (y + (z - y) * t) else 0) + (if hasS zp then sR P true (y + (z - y) * s) else 0)) <= (P.D - othR P zp p q W) * 4294967296 - outD P zp p q := by
 obtain ⟨a1, a2, a3, a4⟩ := bilS_corn hS
 obtain ⟨b1, b2, b3, b4⟩ := bilS_corn hR
 have inb : ∀ pos, Inb (rootQ zp pos w0 w1 S R) p q y z W := fun pos => ⟨by show ((0 : Nat) : Rat) <= p; push_cast; exact p0, p1, by show ((0 : Nat) : Rat) <= q; push_cast; exact q0, q1, y0, y1, z0, z1, hw0, hw1⟩
 have z0' : ((0 : Nat) : Rat) = 0 := rfl
 have r1' := chkQ_sound hP (u := fun x y => offV - bilS zp.pw S x y) (v := bilS zp.qw R) ((bil_S hS).const_sub _) (bil_S hR) he hc 64 _ _ _ k1
  (by
   constructor
   ·show (offV : Rat) - bilS zp.pw S ((0 : Nat) : Rat) S.y0 <= ((offV - S.t00 : Nat) : Rat)
    rw [natSub hS.t00, z0', a1]; exact Rat.le_refl
   ·show (offV : Rat) - bilS zp.pw S ((0 : Nat) : Rat) S.y1 <= ((offV - S.t01 : Nat) : Rat)
    rw [natSub hS.t01, z0', a2]; exact Rat.le_refl
   ·show (offV : Rat) - bilS zp.pw S zp.pw S.y0 <= ((offV - S.t10 : Nat) : Rat)
    rw [natSub hS.t10, a3]; exact Rat.le_refl
   ·show (offV : Rat) - bilS zp.pw S zp.pw S.y1 <= ((offV - S.t11 : Nat) : Rat)
    rw [natSub hS.t11, a4]; exact Rat.le_refl
   ·show bilS zp.qw R ((0 : Nat) : Rat) R.y0 <= (R.t00 : Rat)
    rw [z0', b1]; exact Rat.le_refl
   ·show bilS zp.qw R ((0 : Nat) : Rat) R.y1 <= (R.t01 : Rat)
    rw [z0', b2]; exact Rat.le_refl
   ·show bilS zp.qw R zp.qw R.y0 <= (R.t10 : Rat)
    rw [b3]; exact Rat.le_refl
   ·show bilS zp.qw R zp.qw R.y1 <= (R.t11 : Rat)
    rw [b4]; exact Rat.le_refl) (inb true)
 have r0' := chkQ_sound hP (u := bilS zp.pw S) (v := fun x y => offV - bilS zp.qw R x y) (bil_S hS) ((bil_S hR).const_sub _) he hc 64 _ _ _ k0
  (by
   constructor
   ·show bilS zp.pw S ((0 : Nat) : Rat) S.y0 <= (S.t00 : Rat)
    rw [z0', a1]; exact Rat.le_refl
   ·show bilS zp.pw S ((0 : Nat) : Rat) S.y1 <= (S.t01 : Rat)
    rw [z0', a2]; exact Rat.le_refl
   ·show bilS zp.pw S zp.pw S.y0 <= (S.t10 : Rat)
    rw [a3]; exact Rat.le_refl
   ·show bilS zp.pw S zp.pw S.y1 <= (S.t11 : Rat)
    rw [a4]; exact Rat.le_refl
   ·show (offV : Rat) - bilS zp.qw R ((0 : Nat) : Rat) R.y0 <= ((offV - R.t00 : Nat) : Rat)
    rw [natSub hR.t00, z0', b1]; exact Rat.le_refl
   ·show (offV : Rat) - bilS zp.qw R ((0 : Nat) : Rat) R.y1 <= ((offV - R.t01 : Nat) : Rat)
    rw [natSub hR.t01, z0', b2]; exact Rat.le_refl
   ·show (offV : Rat) - bilS zp.qw R zp.qw R.y0 <= ((offV - R.t10 : Nat) : Rat)
    rw [natSub hR.t10, b3]; exact Rat.le_refl
   ·show (offV : Rat) - bilS zp.qw R zp.qw R.y1 <= ((offV - R.t11 : Nat) : Rat)
    rw [natSub hR.t11, b4]; exact Rat.le_refl) (inb false)
 have e1 : ∀ Y, tR P false Y = -tR P true Y := fun Y => by unfold tR sgq; simp only [Bool.false_eq_true, if_false, if_true]; grind
 have e2 : ∀ Y, sR P false Y = -sR P true Y := fun Y => by unfold sR sgq; simp only [Bool.false_eq_true, if_false, if_true]; grind
 unfold bring at r0' r1'
 rw [e1, e2] at r0'
 generalize tR P true (y + (z - y) * t) = x1 at *
 generalize sR P true (y + (z - y) * s) = x2 at *
 generalize (offV : Rat) = V at *
 have eT : (if hasT zp = true then -x1 else 0) = -(if hasT zp = true then x1 else 0) := by split <;> grind
 have eS : (if hasS zp = true then -x2 else 0) = -(if hasS zp = true then x2 else 0) := by split <;> grind
 rw [eT, eS] at r0'
 generalize (if hasT zp = true then x1 else 0) = X1 at *
 generalize (if hasS zp = true then x2 else 0) = X2 at *
 clear e1 e2 inb eT eS k0 k1
 exact Flt.ab_le (by grind) (by grind)
theorem isSome_of {o : Option Nat} (h : o.isSome = true) : ∃ r, o = some r := by
 cases o with
 | none => simp at h
 | some r => exact ⟨r, rfl⟩
theorem chkR_of {P : Par} {zp : Zp} {w0 w1 : Nat} {S : Sq} : ∀ (l : List Sq) (cs : List Nat), chkR P zp w0 w1 S l cs = true -> ∀ R ∈ l, ∃ c0 c1 r0 r1, chkQ P zp false 64 (rootQ zp false w0 w1 S R) c0 = some r0 /\ chkQ P zp true 64 (rootQ zp true w0 w1 S R) c1 = some r1
 | [], _, _, R, hR => by simp at hR
 | R0 :: l, [], h, _, _ => by simp [chkR] at h
 | R0 :: l, [_], h, _, _ => by simp [chkR] at h
 | R0 :: l, c0 :: c1 :: cs, h, R, hR => by
  rw [chkR, Bool.and_eq_true, Bool.and_eq_true] at h
  obtain ⟨⟨h1, h2⟩, h3⟩ := h
  rcases List.mem_cons.1 hR with e | e
  ·subst e
   obtain ⟨r0, k0⟩ := isSome_of h1
   obtain ⟨r1, k1⟩ := isSome_of h2
   exact ⟨c0, c1, r0, r1, k0, k1⟩
  ·exact chkR_of l cs h3 R e
def hgtZ (k : Nat) (y : Rat) : Rat := if k = 0 then clq (y - 67108864) else if k = 2 then clq (y + 65536 - 67108864) else 0
def cutN (o w one y : Nat) : Nat := Nat.min (y + w - o) one
def hgtN (o one : Nat) (k : Nat) (y : Nat) : Nat := if k = 0 then cutN o 0 one y else if k = 2 then cutN o one one y else 0
theorem hgtZ_0 (y : Rat) : hgtZ 0 y = clq (y - 67108864) := by unfold hgtZ; rw [if_pos rfl]
theorem hgtZ_2 (y : Rat) : hgtZ 2 y = clq (y + 65536 - 67108864) := by unfold hgtZ; rw [if_neg (by decide), if_pos rfl]
def kindN (k : Nat) (S : Sq) : Bool := match k with
 | 0 => decide (S.y1 <= 67108864) || (decide (67108864 <= S.y0) && decide (S.y1 <= 67174400)) || decide (67174400 <= S.y0)
 | 2 => decide (S.y1 <= 67043328) || (decide (67043328 <= S.y0) && decide (S.y1 <= 67108864)) || decide (67108864 <= S.y0)
 | _ => true
theorem clq_cast (a b one : Nat) (h1 : (one : Rat) = 65536) : clq ((a : Rat) - b) = ((Nat.min (a - b) one : Nat) : Rat) := by
 unfold clq
 rcases Nat.le_total a b with c | c
 ·have e : a - b = 0 := by omega
  have := natLe c
  rw [if_pos (by grind), e]
  have e2 : Nat.min 0 one = 0 := Nat.min_eq_left (Nat.zero_le _)
  rw [e2]
  rfl
 ·have e := natSub c
  rw [<- e]
  generalize a - b = k at *
  rcases Nat.lt_or_ge one k with d | d
  ·have e1 : Nat.min k one = one := Nat.min_eq_right (by omega)
   have := natLe (show one <= k by omega)
   rw [e1, if_neg (by grind), if_pos (by grind), h1]
  ·have e1 : Nat.min k one = k := Nat.min_eq_left (by omega)
   have := natLe d
   rw [e1]
   split
   ·have := natNn k
    grind
   ·split <;> grind
theorem hgt_cast {o one : Nat} (ho : (o : Rat) = 67108864) (h1 : (one : Rat) = 65536) (k y : Nat) : hgtZ k y = (hgtN o one k y : Rat) := by
 unfold hgtZ hgtN
 split
 ·have h := clq_cast y o one h1
  rw [ho] at h
  unfold cutN
  rw [Nat.add_zero]
  exact h
 ·split
  ·have h := clq_cast (y + one) o one h1
   rw [ho, Rat.natCast_add, h1] at h
   unfold cutN
   exact h
  ·rfl
theorem kind_aff {k : Nat} {S : Sq} (h : kindN k S = true) : ∃ a b : Rat, ∀ y : Rat, (S.y0 : Rat) <= y -> y <= S.y1 -> hgtZ k y = a + b * y := by
 have base : ∀ o : Rat, (∀ y : Rat, y <= o -> clq (y - o) = 0) /\ (∀ y : Rat, o <= y -> y <= o + 65536 -> clq (y - o) = y - o) /\ (∀ y : Rat, o + 65536 <= y -> clq (y - o) = 65536) := by
  intro o
  refine ⟨fun y h => ?_, fun y h h' => ?_, fun y h => ?_⟩ <;> unfold clq
  ·rw [if_pos (by grind)]
  ·split
   ·grind
   ·split <;> grind
  ·rw [if_neg (by grind), if_pos (by grind)]
 by_cases hk0 : k = 0
 ·subst hk0
  obtain ⟨b1, b2, b3⟩ := base 67108864
  simp only [kindN, Bool.or_eq_true, Bool.and_eq_true, decide_eq_true_eq] at h
  rcases h with (h | ⟨h, h'⟩) | h
  ·have := natLe h
   push_cast at this
   exact ⟨0, 0, fun y y0 y1 => by rw [hgtZ_0, b1 y (by grind)]; grind⟩
  ·have := natLe h
   have := natLe h'
   push_cast at *
   exact ⟨-67108864, 1, fun y y0 y1 => by rw [hgtZ_0, b2 y (by grind) (by grind)]; grind⟩
  ·have := natLe h
   push_cast at this
   exact ⟨65536, 0, fun y y0 y1 => by rw [hgtZ_0, b3 y (by grind)]; grind⟩
 ·by_cases hk2 : k = 2
  ·subst hk2
   obtain ⟨b1, b2, b3⟩ := base 67043328
   have e : ∀ y : Rat, hgtZ 2 y = clq (y - 67043328) := fun y => by rw [hgtZ_2]; congr 1; grind
   simp only [kindN, Bool.or_eq_true, Bool.and_eq_true, decide_eq_true_eq] at h
   rcases h with (h | ⟨h, h'⟩) | h
   ·have := natLe h
    push_cast at this
    exact ⟨0, 0, fun y y0 y1 => by rw [e, b1 y (by grind)]; grind⟩
   ·have := natLe h
    have := natLe h'
    push_cast at *
    exact ⟨-67043328, 1, fun y y0 y1 => by rw [e, b2 y (by grind) (by grind)]; grind⟩
   ·have := natLe h
    push_cast at this
    exact ⟨65536, 0, fun y y0 y1 => by rw [e, b3 y (by grind)]; grind⟩
  ·exact ⟨0, 0, fun y _ _ => by unfold hgtZ; rw [if_neg hk0, if_neg hk2]; grind⟩
def rngN (o one be k R w : Nat) (S : Sq) : Bool :=
 decide (0 < w) && decide (S.y0 < S.y1) && decide (S.t00 <= offV) && decide (S.t01 <= offV) && decide (S.t10 <= offV) && decide (S.t11 <= offV) && kindN k S &&
 decide (be * hgtN o one k S.y0 <= S.t00) && decide (S.t00 <= be * hgtN o one k S.y0 + R) && decide (be * hgtN o one k S.y1 <= S.t01) && decide (S.t01 <= be * hgtN o one k S.y1 + R) &&
 decide (be * hgtN o one k S.y0 <= S.t10) && decide (S.t10 <= be * hgtN o one k S.y0 + R) && decide (be * hgtN o one k S.y1 <= S.t11) && decide (S.t11 <= be * hgtN o one k S.y1 + R)
theorem corner2 {f : Rat -> Rat -> Rat} (h : Bil f) {x0 x1 y0 y1 : Rat} (h00 : f x0 y0 <= 0) (h01 : f x0 y1 <= 0) (h10 : f x1 y0 <= 0) (h11 : f x1 y1 <= 0) {x y : Rat} (a0 : x0 <= x) (a1 : x <= x1) (b0 : y0 <= y) (b1 : y <= y1) : f x y <= 0 := by
 obtain ⟨a, b, c, d, e⟩ := h
 have hx : ∀ y, Aff fun x => f x y := fun y => ⟨a + c * y, b + d * y, fun x => by simp only [e]; grind⟩
 have hy : ∀ x, Aff fun y => f x y := fun x => ⟨a + b * x, c + d * x, fun y => by simp only [e]⟩
 exact (hy x).le b0 b1 ((hx y0).le a0 a1 h00 h10) ((hx y1).le a0 a1 h01 h11)
theorem rngN_of {o one be k R w : Nat} {S : Sq} (ho : (o : Rat) = 67108864) (h1 : (one : Rat) = 65536) (h : rngN o one be k R w S = true) : SqqOk w S /\ ∀ x y : Rat, 0 <= x -> x <= w -> (S.y0 : Rat) <= y -> y <= S.y1 -> 0 <= bilS w S x y - be * hgtZ k y /\ bilS w S x y - be * hgtZ k y <= R := by
 simp only [rngN, Bool.and_eq_true, decide_eq_true_eq] at h
 obtain ⟨⟨⟨⟨⟨⟨⟨⟨⟨⟨⟨⟨⟨⟨g1, g2⟩, g3⟩, g4⟩, g5⟩, g6⟩, g7⟩, l00⟩, u00⟩, l01⟩, u01⟩, l10⟩, u10⟩, l11⟩, u11⟩ := h
 have ok : SqqOk w S := ⟨g1, g2, g3, g4, g5, g6⟩
 refine ⟨ok, fun x y x0 x1 y0 y1 => ?_⟩
 obtain ⟨a, b, hab⟩ := kind_aff g7
 obtain ⟨c1, c2, c3, c4⟩ := bilS_corn ok
 have hy := natLe (Nat.le_of_lt g2)
 have hh0 := hab S.y0 Rat.le_refl hy
 have hh1 := hab S.y1 hy Rat.le_refl
 rw [hgt_cast ho h1] at hh0 hh1
 rw [hab y y0 y1]
 have l00 := natLe l00
 have l01 := natLe l01
 have l10 := natLe l10
 have l11 := natLe l11
 have u00 := natLe u00
 have u01 := natLe u01
 have u10 := natLe u10
 have u11 := natLe u11
 push_cast at l00 l01 l10 l11 u00 u01 u10 u11
 rw [hh0] at l00 l10 u00 u10
 rw [hh1] at l01 l11 u01 u11
 obtain ⟨e1, e2, e3, e4, e5⟩ := bil_S ok
 have B1 : Bil fun x y => be * (a + b * y) - bilS w S x y := ⟨be * a - e1, -e2, be * b - e3, -e4, fun x y => by simp only [e5]; grind⟩
 have B2 : Bil fun x y => bilS w S x y - be * (a + b * y) - R := ⟨e1 - be * a - R, e2, e3 - be * b, e4, fun x y => by simp only [e5]; grind⟩
 have r1 := corner2 B1 (x0 := 0) (x1 := w) (y0 := S.y0) (y1 := S.y1) (by simp only [c1]; grind) (by simp only [c2]; grind) (by simp only [c3]; grind) (by simp only [c4]; grind) x0 x1 y0 y1
 have r2 := corner2 B2 (x0 := 0) (x1 := w) (y0 := S.y0) (y1 := S.y1) (by simp only [c1]; grind) (by simp only [c2]; grind) (by simp only [c3]; grind) (by simp only [c4]; grind) x0 x1 y0 y1
 constructor <;> grind
def thF (w : Nat) : List Sq -> Rat -> Rat -> Rat
 | [], _, _ => 0
 | S :: l, x, y => if y <= S.y1 then bilS w S x y else thF w l x y
def chainN (hi : Nat) : Nat -> List Sq -> Bool
 | lo, [] => decide (hi <= lo)
 | lo, S :: l => decide (S.y0 <= lo) && chainN hi S.y1 l
theorem thF_of (w : Nat) {hi : Nat} : ∀ (l : List Sq) (lo : Nat), chainN hi lo l = true -> ∀ x y : Rat, (lo : Rat) <= y -> y < hi -> ∃ S ∈ l, (S.y0 : Rat) <= y /\ y <= S.y1 /\ thF w l x y = bilS w S x y
 | [], lo, h, x, y, h1, h2 => by
  have h : hi <= lo := of_decide_eq_true h
  have := natLe h
  grind
 | S :: l, lo, h, x, y, h1, h2 => by
  rw [chainN, Bool.and_eq_true, decide_eq_true_eq] at h
  have h3 := natLe h.1
  by_cases c : y <= S.y1
  ·exact ⟨S, by simp, by grind, c, by rw [thF, if_pos c]⟩
  ·obtain ⟨S', k1, k2, k3, k4⟩ := thF_of w l S.y1 h.2 x y (by grind) h2
   exact ⟨S', by simp [k1], k2, k3, by rw [thF, if_neg c, k4]⟩
end Go.Proofs.Ytmgcbodlolnheaa
namespace Go.Proofs.Ytmgcbodlolnheaa
open Flt
set_option linter.unusedVariables false
structure Tab where
 P : Par
 w0 : Nat
 w1 : Nat
 R : Nat
 zL : List Sq
 zM : List Sq
 zR : List Sq
def Tab.z1 (T : Tab) : Zp -> List Sq
 | .ll => T.zL
 | .lm => T.zL
 | .lr => T.zL
 | .mm => T.zM
 | .mr => T.zM
 | .rr => T.zR
def Tab.z2 (T : Tab) : Zp -> List Sq
 | .ll => T.zL
 | .lm => T.zM
 | .lr => T.zR
 | .mm => T.zM
 | .mr => T.zR
 | .rr => T.zR
def oP : Nat := 67108864
def loP : Nat := 33554432
def hiP : Nat := 100663296
structure TabOk (T : Tab) : Prop where
 par : ParOk T.P
 w : 0 < T.w0
 w2 : T.w1 <= 199
 rL : ∀ S ∈ T.zL, rngN oP 65536 (T.P.beta * 65536) 0 T.R 17367040 S = true
 rM : ∀ S ∈ T.zM, rngN oP 65536 (T.P.beta * 65536) 1 T.R 4194304 S = true
 rR : ∀ S ∈ T.zR, rngN oP 65536 (T.P.betaR * 65536) 2 T.R 4259840 S = true
 cL : chainN hiP loP T.zL = true
 cM : chainN hiP loP T.zM = true
 cR : chainN hiP loP T.zR = true
 rt : ∀ zp, ∀ S ∈ T.z1 zp, ∀ R ∈ T.z2 zp, ∃ c0 c1 r0 r1, chkQ T.P zp false 64 (rootQ zp false T.w0 T.w1 S R) c0 = some r0 /\ chkQ T.P zp true 64 (rootQ zp true T.w0 T.w1 S R) c1 = some r1
def hYq (y : Rat) : Rat := (y + 1024) * 65536
def Tab.psi (T : Tab) (W x y : Rat) : Rat :=
 if x <= 0 then (thF 17367040 T.zL (-(x * 65536)) (hYq y) - T.P.beta * 65536 * hgtZ 0 (hYq y)) / 4294967296
 else if x < W then (thF 4194304 T.zM (x / W * 4194304) (hYq y) - T.P.beta * 65536 * hgtZ 1 (hYq y)) / 4294967296
 else (thF 4259840 T.zR ((x - W) * 65536) (hYq y) - T.P.betaR * 65536 * hgtZ 2 (hYq y)) / 4294967296
def gLe (x0 y0 x1 y1 : Rat) : Rat := if x1 <= 0 then cl y1 - cl y0 else if x0 <= 0 then cl (y0 + (y1 - y0) * (-x0 / (x1 - x0))) - cl y0 else 0
def gRi (W x0 y0 x1 y1 : Rat) : Rat := if W <= x0 then cl (y1 + 1) - cl (y0 + 1) else if W <= x1 then cl (y1 + 1) - cl (y0 + (y1 - y0) * ((W - x0) / (x1 - x0)) + 1) else 0
def min0 (x : Rat) : Rat := if x <= 0 then x else 0
def pos0 (x : Rat) : Rat := if x <= 0 then 0 else x
def outX (W x0 x1 : Rat) : Rat := (min0 x1 - min0 x0) + (pos0 (x1 - W) - pos0 (x0 - W))
def othX (P : Par) (W x0 x1 : Rat) : Rat := if x0 <= 0 /\ W <= x1 then P.bLR else if x1 <= -2 then P.base else if W + 2 <= x0 then P.base else P.base + ownRq P ((x1 - x0) * 65536)
theorem clq_cl (v : Rat) : clq (v * 65536) = 65536 * cl v := by
 unfold clq
 rcases cl_cases v with ⟨h, e, _⟩ | ⟨h, h', e, _⟩ | ⟨h, e, _⟩
 ·rw [if_pos (by grind), e]; grind
 ·rw [if_neg (by grind), e]
  split <;> grind
 ·rw [if_neg (by grind), if_pos (by grind), e]; grind
theorem hgtY0 (y : Rat) : hgtZ 0 (hYq y) = 65536 * cl y := by
 rw [hgtZ_0, <- clq_cl]
 unfold hYq
 congr 1
 grind
theorem hgtY2 (y : Rat) : hgtZ 2 (hYq y) = 65536 * cl (y + 1) := by
 rw [hgtZ_2, <- clq_cl]
 unfold hYq
 congr 1
 grind
theorem hgtY1 (y : Rat) : hgtZ 1 (hYq y) = 0 := by
 unfold hgtZ
 rw [if_neg (by decide), if_neg (by decide)]
theorem tR_Y (P : Par) (y0 y1 t : Rat) : tR P true (hYq y0 + (hYq y1 - hYq y0) * t) = P.beta * 4294967296 * cl (y0 + (y1 - y0) * t) := by
 unfold tR sgq
 rw [if_pos rfl, show hYq y0 + (hYq y1 - hYq y0) * t - 67108864 = (y0 + (y1 - y0) * t) * 65536 by unfold hYq; grind, clq_cl]
 grind
theorem sR_Y (P : Par) (y0 y1 t : Rat) : sR P true (hYq y0 + (hYq y1 - hYq y0) * t) = -(P.betaR * 4294967296 * cl (y0 + (y1 - y0) * t + 1)) := by
 unfold sR sgq
 rw [if_pos rfl, show hYq y0 + (hYq y1 - hYq y0) * t + 65536 - 67108864 = (y0 + (y1 - y0) * t + 1) * 65536 by unfold hYq; grind, clq_cl]
 grind
theorem hY_rng {y : Rat} (h : ab y <= 500) : ((loP : Nat) : Rat) <= hYq y /\ hYq y < ((hiP : Nat) : Rat) := by
 obtain ⟨a, b⟩ := ab_iff.1 h
 have h1 : ((loP : Nat) : Rat) = 33554432 := rfl
 have h2 : ((hiP : Nat) : Rat) = 100663296 := rfl
 rw [h1, h2]
 unfold hYq
 constructor <;> grind
theorem oP_rat : ((oP : Nat) : Rat) = 67108864 := rfl
theorem c65 : ((65536 : Nat) : Rat) = 65536 := rfl
theorem Tab.pair {T : Tab} (hT : TabOk T) {W : Rat} (hw0 : (T.w0 : Rat) <= W) (hw1 : W <= T.w1) (zp : Zp) {p q y0 y1 t s : Rat} (hy0 : ab y0 <= 500) (hy1 : ab y1 <= 500)
  (okS : ∀ S ∈ T.z1 zp, SqqOk zp.pw S) (okR : ∀ R ∈ T.z2 zp, SqqOk zp.qw R) (cS : chainN hiP loP (T.z1 zp) = true) (cR : chainN hiP loP (T.z2 zp) = true)
  (he : Ends T.P zp p q (hYq y0) (hYq y1) W) (hc : Cross zp p q W t s) (p0 : 0 <= p) (p1 : p <= zp.pw) (q0 : 0 <= q) (q1 : q <= zp.qw) :
  ab (thF zp.qw (T.z2 zp) q (hYq y1) - thF zp.pw (T.z1 zp) p (hYq y0) + (if hasT zp then T.P.beta * 4294967296 * cl (y0 + (y1 - y0) * t) else 0) + (if hasS zp then -(T.P.betaR * 4294967296 * cl (y0 + (y1 - y0) * s + 1)) else 0)) <=
   (T.P.D - othR T.P zp p q W) * 4294967296 - outD T.P zp p q := by
 obtain ⟨a1, a2⟩ := hY_rng hy0
 obtain ⟨b1, b2⟩ := hY_rng hy1
 obtain ⟨S, hS, s1, s2, s3⟩ := thF_of zp.pw _ _ cS p (hYq y0) a1 a2
 obtain ⟨R, hR, r1, r2, r3⟩ := thF_of zp.qw _ _ cR q (hYq y1) b1 b2
 obtain ⟨c0, c1, d0, d1, k0, k1⟩ := hT.rt zp S hS R hR
 have h := root_sound hT.par (okS S hS) (okR R hR) k0 k1 he hc p0 p1 q0 q1 s1 s2 r1 r2 hw0 hw1
 rw [<- tR_Y, <- sR_Y, s3, r3]
 exact h
theorem psi_L {T : Tab} {W x y : Rat} (h : x <= 0) : T.psi W x y * 4294967296 = thF 17367040 T.zL (-(x * 65536)) (hYq y) - T.P.beta * 65536 * (65536 * cl y) := by
 unfold Tab.psi
 rw [if_pos h, hgtY0]
 grind
theorem psi_M {T : Tab} {W x y : Rat} (h : 0 < x) (h2 : x < W) : T.psi W x y * 4294967296 = thF 4194304 T.zM (x / W * 4194304) (hYq y) := by
 unfold Tab.psi
 rw [if_neg (by grind), if_pos h2, hgtY1]
 grind
theorem psi_R {T : Tab} {W x y : Rat} (h : 0 < x) (h2 : W <= x) : T.psi W x y * 4294967296 = thF 4259840 T.zR ((x - W) * 65536) (hYq y) - T.P.betaR * 65536 * (65536 * cl (y + 1)) := by
 unfold Tab.psi
 rw [if_neg (by grind), if_neg (by grind), hgtY2]
 grind
theorem cast_w : ((17367040 : Nat) : Rat) = 17367040 /\ ((4194304 : Nat) : Rat) = 4194304 /\ ((4259840 : Nat) : Rat) = 4259840 := ⟨rfl, rfl, rfl⟩
theorem Tab.psi_rng {T : Tab} (hT : TabOk T) {W : Rat} (hw0 : (T.w0 : Rat) <= W) (hw1 : W <= T.w1) {x y : Rat} (hx0 : -265 <= x) (hx1 : x <= W + 65) (hy : ab y <= 500) : 0 <= T.psi W x y /\ T.psi W x y * 4294967296 <= T.R := by
 obtain ⟨a1, a2⟩ := hY_rng hy
 have hW : (1 : Rat) <= W := by
  have := natLe hT.w
  push_cast at this
  grind
 have fin : ∀ (be w k : Nat) (l : List Sq) (z : Rat), chainN hiP loP l = true -> (∀ S ∈ l, rngN oP 65536 (be * 65536) k T.R w S = true) -> 0 <= z -> z <= w ->
   0 <= (thF w l z (hYq y) - be * 65536 * hgtZ k (hYq y)) / 4294967296 /\ (thF w l z (hYq y) - be * 65536 * hgtZ k (hYq y)) / 4294967296 * 4294967296 <= T.R := by
  intro be w k l z hc hr z0 z1
  obtain ⟨S, hS, s1, s2, s3⟩ := thF_of w _ _ hc z (hYq y) a1 a2
  obtain ⟨r1, r2⟩ := (rngN_of oP_rat c65 (hr S hS)).2 z (hYq y) z0 z1 s1 s2
  rw [Rat.natCast_mul, c65] at r1 r2
  rw [s3]
  constructor <;> grind
 unfold Tab.psi
 split
 ·exact fin _ _ _ _ _ hT.cL hT.rL (by grind) (by rw [cast_w.1]; grind)
 ·split
  ·have h2 : x / W * W = x := Rat.div_mul_cancel (by grind)
   refine fin _ _ _ _ _ hT.cM hT.rM ?_ ?_
   ·have : 0 <= x / W := by
     have i : 0 <= W⁻¹ := Rat.le_of_lt (Rat.inv_pos.2 (by grind))
     rw [Rat.div_def]
     exact Rat.mul_nonneg (by grind) i
    grind
   ·rw [cast_w.2.1]
    have : x / W <= 1 := by
     refine Rat.le_of_mul_le_mul_right (c := W) ?_ (by grind)
     rw [h2]
     grind
    grind
  ·exact fin _ _ _ _ _ hT.cR hT.rR (by grind) (by rw [cast_w.2.2]; grind)
theorem div_pos0 {a b : Rat} (ha : 0 <= a) (hb : 0 < b) : 0 <= a / b := by
 rw [Rat.div_def]
 exact Rat.mul_nonneg ha (Rat.le_of_lt (Rat.inv_pos.2 hb))
theorem div_le1 {a b : Rat} (h : a <= b) (hb : 0 < b) : a / b <= 1 := by
 refine Rat.le_of_mul_le_mul_right (c := b) ?_ hb
 rw [Rat.div_mul_cancel (by grind)]
 grind
theorem min0_n {x : Rat} (h : x <= 0) : min0 x = x := by unfold min0; rw [if_pos h]
theorem min0_p {x : Rat} (h : 0 < x) : min0 x = 0 := by unfold min0; rw [if_neg (by grind)]
theorem pos0_n {x : Rat} (h : x <= 0) : pos0 x = 0 := by unfold pos0; rw [if_pos h]
theorem pos0_p {x : Rat} (h : 0 <= x) : pos0 x = x := by unfold pos0; split <;> grind
theorem scale_le {a b : Rat} (h : ab (a * 4294967296) <= b * 4294967296) : ab a <= b := by
 rw [ab_mul, ab_of_nonneg (x := 4294967296) (by decide)] at h
 exact Rat.le_of_mul_le_mul_right h (by decide)
theorem le_eqs {a b c d : Rat} (h1 : a = b) (h : b <= c) (h2 : c = d) : a <= d := by rw [h1, <- h2]; exact h
theorem Tab.cer {T : Tab} (hT : TabOk T) {W : Rat} (hw0 : (T.w0 : Rat) <= W) (hw1 : W <= T.w1) {x0 y0 x1 y1 : Rat} (hx : x0 <= x1) (hx0 : -(66 + W) <= x0) (hx1 : x1 <= W + 65) (hy0 : ab y0 <= 500) (hy1 : ab y1 <= 500)
  (hH : ab (y1 - y0) * 65536 <= T.P.H) : ab (T.P.beta * gLe x0 y0 x1 y1 + T.P.betaR * gRi W x0 y0 x1 y1 + T.psi W x1 y1 - T.psi W x0 y0) <= T.P.D - othX T.P W x0 x1 - T.P.k1 / 65536 * outX W x0 x1 := by
 have hW : (1 : Rat) <= W := by
  have := natLe hT.w
  push_cast at this
  grind
 have hW2 : W <= 199 := by
  have := natLe hT.w2
  push_cast at this
  grind
 have okL : ∀ S ∈ T.zL, SqqOk 17367040 S := fun S h => (rngN_of oP_rat c65 (hT.rL S h)).1
 have okM : ∀ S ∈ T.zM, SqqOk 4194304 S := fun S h => (rngN_of oP_rat c65 (hT.rM S h)).1
 have okR : ∀ S ∈ T.zR, SqqOk 4259840 S := fun S h => (rngN_of oP_rat c65 (hT.rR S h)).1
 obtain ⟨hd1, hd2⟩ := ab_iff.1 (show ab (y1 - y0) <= ab (y1 - y0) from Rat.le_refl)
 have hh1 : hYq y1 - hYq y0 <= T.P.H := by unfold hYq; grind
 have hh2 : hYq y0 - hYq y1 <= T.P.H := by unfold hYq; grind
 obtain ⟨cw1, cw2, cw3⟩ := cast_w
 refine scale_le ?_
 have n0 : 0 <= x1 - x0 := by grind
 by_cases c1 : x1 <= 0
 ·
  have h := Tab.pair hT hw0 hw1 .ll (p := -(x0 * 65536)) (q := -(x1 * 65536)) (t := 0) (s := 0) hy0 hy1 okL okL hT.cL hT.cL
   ⟨hh1, hh2, fun _ => by grind, fun _ => by grind, fun h => by simp at h, fun h => by simp at h, fun h => by simp at h⟩ ⟨fun h => by simp [hasT] at h, fun h => by simp [hasS] at h⟩
   (by grind) (by show _ <= ((17367040 : Nat) : Rat); rw [cw1]; grind) (by grind) (by show _ <= ((17367040 : Nat) : Rat); rw [cw1]; grind)
  have e0 := psi_L (T := T) (W := W) (x := x0) (y := y0) (by grind)
  have e1 := psi_L (T := T) (W := W) (x := x1) (y := y1) c1
  have eL : gLe x0 y0 x1 y1 = cl y1 - cl y0 := by unfold gLe; rw [if_pos c1]
  have eR : gRi W x0 y0 x1 y1 = 0 := by unfold gRi; rw [if_neg (by grind), if_neg (by grind)]
  have eo : othX T.P W x0 x1 = othR T.P .ll (-(x0 * 65536)) (-(x1 * 65536)) W := by
   unfold othX othR dxR
   simp only
   rw [if_neg (by grind), show -(x0 * 65536) - -(x1 * 65536) = (x1 - x0) * 65536 by grind]
   by_cases cc : x1 <= -2
   ·rw [if_pos cc, if_pos (by grind)]
   ·rw [if_neg cc, if_neg (by grind), if_neg (by grind)]
  have ex : outX W x0 x1 = x1 - x0 := by unfold outX; rw [min0_n c1, min0_n (by grind), pos0_n (by grind), pos0_n (by grind)]; grind
  rw [eL, eR, eo, ex]
  simp only [hasT, hasS, Bool.false_eq_true, if_false, outD, Zp.pw, Zp.qw, Tab.z1, Tab.z2] at h
  refine le_eqs ?_ h ?_
  ·congr 1; grind
  ·grind
 ·have c1 : 0 < x1 := by grind
  by_cases c0 : x0 <= 0
  ·have hden : 0 < x1 - x0 := by grind
   have ht : -x0 / (x1 - x0) * (x1 - x0) = -x0 := Rat.div_mul_cancel (by grind)
   by_cases c2 : W <= x1
   ·
    have hs : (W - x0) / (x1 - x0) * (x1 - x0) = W - x0 := Rat.div_mul_cancel (by grind)
    have h := Tab.pair hT hw0 hw1 .lr (p := -(x0 * 65536)) (q := (x1 - W) * 65536) (t := -x0 / (x1 - x0)) (s := (W - x0) / (x1 - x0)) hy0 hy1 okL okR hT.cL hT.cR
     ⟨hh1, hh2, fun _ => by grind, fun h => by simp at h, fun h => by simp at h, fun h => by simp at h, fun h => by simp at h⟩
     ⟨fun _ => by unfold tX; simp only; exact ⟨by grind, by grind⟩, fun _ => by unfold sD; simp only; exact ⟨by grind, by grind⟩⟩
     (by grind) (by show _ <= ((17367040 : Nat) : Rat); rw [cw1]; grind) (by grind) (by show _ <= ((4259840 : Nat) : Rat); rw [cw3]; grind)
    have e0 := psi_L (T := T) (W := W) (x := x0) (y := y0) c0
    have e1 := psi_R (T := T) (W := W) (x := x1) (y := y1) c1 c2
    have eL : gLe x0 y0 x1 y1 = cl (y0 + (y1 - y0) * (-x0 / (x1 - x0))) - cl y0 := by unfold gLe; rw [if_neg (by grind), if_pos c0]
    have eR : gRi W x0 y0 x1 y1 = cl (y1 + 1) - cl (y0 + (y1 - y0) * ((W - x0) / (x1 - x0)) + 1) := by unfold gRi; rw [if_neg (by grind), if_pos c2]
    have eo : othX T.P W x0 x1 = T.P.bLR := by unfold othX; rw [if_pos ⟨c0, c2⟩]
    have ex : outX W x0 x1 = -x0 + (x1 - W) := by unfold outX; rw [min0_p c1, min0_n c0, pos0_p (by grind), pos0_n (by grind)]; grind
    rw [eL, eR, eo, ex]
    simp only [hasT, hasS, if_true, othR, outD, Zp.pw, Zp.qw, Tab.z1, Tab.z2] at h
    clear ht hs
    generalize cl (y0 + (y1 - y0) * (-x0 / (x1 - x0))) = ca at *
    generalize cl (y0 + (y1 - y0) * ((W - x0) / (x1 - x0)) + 1) = cb at *
    refine le_eqs ?_ h ?_
    ·congr 1; grind
    ·grind
   ·
    have c2 : x1 < W := by grind
    have hq : x1 / W * W = x1 := Rat.div_mul_cancel (by grind)
    have h := Tab.pair hT hw0 hw1 .lm (p := -(x0 * 65536)) (q := x1 / W * 4194304) (t := -x0 / (x1 - x0)) (s := 0) hy0 hy1 okL okM hT.cL hT.cM
     ⟨hh1, hh2, fun _ => by grind, fun h => by simp at h, fun h => by simp at h, fun h => by simp at h, fun h => by simp at h⟩
     ⟨fun _ => by
      unfold tX
      simp only
      have e : x1 / W * 4194304 * W / 64 = x1 * 65536 := by grind
      rw [e]
      exact ⟨by grind, by grind⟩, fun h => by simp [hasS] at h⟩
     (by grind) (by show _ <= ((17367040 : Nat) : Rat); rw [cw1]; grind) (by have := div_pos0 (a := x1) (b := W) (by grind) (by grind); grind) (by show _ <= ((4194304 : Nat) : Rat); rw [cw2]; have := div_le1 (a := x1) (b := W) (by grind) (by grind); grind)
    have e0 := psi_L (T := T) (W := W) (x := x0) (y := y0) c0
    have e1 := psi_M (T := T) (W := W) (x := x1) (y := y1) c1 c2
    have eL : gLe x0 y0 x1 y1 = cl (y0 + (y1 - y0) * (-x0 / (x1 - x0))) - cl y0 := by unfold gLe; rw [if_neg (by grind), if_pos c0]
    have eR : gRi W x0 y0 x1 y1 = 0 := by unfold gRi; rw [if_neg (by grind), if_neg (by grind)]
    have eo : othX T.P W x0 x1 = othR T.P .lm (-(x0 * 65536)) (x1 / W * 4194304) W := by
     unfold othX othR dxR
     simp only
     rw [if_neg (by grind), if_neg (by grind), if_neg (by grind), show -(x0 * 65536) + x1 / W * 4194304 * W / 64 = (x1 - x0) * 65536 by grind]
    have ex : outX W x0 x1 = -x0 := by unfold outX; rw [min0_p c1, min0_n c0, pos0_n (by grind), pos0_n (by grind)]; grind
    rw [eL, eR, eo, ex]
    simp only [hasT, hasS, Bool.false_eq_true, if_false, if_true, outD, Zp.pw, Zp.qw, Tab.z1, Tab.z2] at h
    clear ht hq eo
    generalize cl (y0 + (y1 - y0) * (-x0 / (x1 - x0))) = ca at *
    refine le_eqs ?_ h ?_
    ·congr 1; grind
    ·grind
  ·have c0 : 0 < x0 := by grind
   have eL : gLe x0 y0 x1 y1 = 0 := by unfold gLe; rw [if_neg (by grind), if_neg (by grind)]
   by_cases c3 : W <= x0
   ·
    have h := Tab.pair hT hw0 hw1 .rr (p := (x0 - W) * 65536) (q := (x1 - W) * 65536) (t := 0) (s := 0) hy0 hy1 okR okR hT.cR hT.cR
     ⟨hh1, hh2, fun h => by simp at h, fun h => by simp at h, fun h => by simp at h, fun _ => by grind, fun h => by simp at h⟩ ⟨fun h => by simp [hasT] at h, fun h => by simp [hasS] at h⟩
     (by grind) (by show _ <= ((4259840 : Nat) : Rat); rw [cw3]; grind) (by grind) (by show _ <= ((4259840 : Nat) : Rat); rw [cw3]; grind)
    have e0 := psi_R (T := T) (W := W) (x := x0) (y := y0) c0 c3
    have e1 := psi_R (T := T) (W := W) (x := x1) (y := y1) c1 (by grind)
    have eR : gRi W x0 y0 x1 y1 = cl (y1 + 1) - cl (y0 + 1) := by unfold gRi; rw [if_pos c3]
    have eo : othX T.P W x0 x1 = othR T.P .rr ((x0 - W) * 65536) ((x1 - W) * 65536) W := by
     unfold othX othR dxR
     simp only
     rw [if_neg (by grind), if_neg (by grind), show (x1 - W) * 65536 - (x0 - W) * 65536 = (x1 - x0) * 65536 by grind]
     by_cases cc : W + 2 <= x0
     ·rw [if_pos cc, if_pos (by grind)]
     ·rw [if_neg cc, if_neg (by grind)]
    have ex : outX W x0 x1 = x1 - x0 := by unfold outX; rw [min0_p c1, min0_p c0, pos0_p (by grind), pos0_p (by grind)]; grind
    rw [eL, eR, eo, ex]
    simp only [hasT, hasS, Bool.false_eq_true, if_false, outD, Zp.pw, Zp.qw, Tab.z1, Tab.z2] at h
    refine le_eqs ?_ h ?_
    ·congr 1; grind
    ·grind
   ·have c3 : x0 < W := by grind
    have hp : x0 / W * W = x0 := Rat.div_mul_cancel (by grind)
    have hp0 := div_pos0 (a := x0) (b := W) (by grind) (by grind)
    have hp1 := div_le1 (a := x0) (b := W) (by grind) (by grind)
    have e0 := psi_M (T := T) (W := W) (x := x0) (y := y0) c0 c3
    by_cases c2 : W <= x1
    ·
     have hden : 0 < x1 - x0 := by grind
     have hs : (W - x0) / (x1 - x0) * (x1 - x0) = W - x0 := Rat.div_mul_cancel (by grind)
     have eD : (4194304 - x0 / W * 4194304) * W / 64 = (W - x0) * 65536 := by grind
     have h := Tab.pair hT hw0 hw1 .mr (p := x0 / W * 4194304) (q := (x1 - W) * 65536) (t := 0) (s := (W - x0) / (x1 - x0)) hy0 hy1 okM okR hT.cM hT.cR
      ⟨hh1, hh2, fun h => by simp at h, fun h => by simp at h, fun h => by simp at h, fun h => by simp at h, fun _ => by grind⟩
      ⟨fun h => by simp [hasT] at h, fun _ => by
       unfold sD
       simp only
       rw [eD]
       exact ⟨by grind, by grind⟩⟩
      (by grind) (by show _ <= ((4194304 : Nat) : Rat); rw [cw2]; grind) (by grind) (by show _ <= ((4259840 : Nat) : Rat); rw [cw3]; grind)
     have e1 := psi_R (T := T) (W := W) (x := x1) (y := y1) c1 c2
     have eR : gRi W x0 y0 x1 y1 = cl (y1 + 1) - cl (y0 + (y1 - y0) * ((W - x0) / (x1 - x0)) + 1) := by unfold gRi; rw [if_neg (by grind), if_pos c2]
     have eo : othX T.P W x0 x1 = othR T.P .mr (x0 / W * 4194304) ((x1 - W) * 65536) W := by
      unfold othX othR dxR
      simp only
      rw [if_neg (by grind), if_neg (by grind), if_neg (by grind), eD, show (W - x0) * 65536 + (x1 - W) * 65536 = (x1 - x0) * 65536 by grind]
     have ex : outX W x0 x1 = x1 - W := by unfold outX; rw [min0_p c1, min0_p c0, pos0_p (by grind), pos0_n (by grind)]; grind
     rw [eL, eR, eo, ex]
     simp only [hasT, hasS, Bool.false_eq_true, if_false, if_true, outD, Zp.pw, Zp.qw, Tab.z1, Tab.z2] at h
     clear hs eD hp eo
     generalize cl (y0 + (y1 - y0) * ((W - x0) / (x1 - x0)) + 1) = cb at *
     refine le_eqs ?_ h ?_
     ·congr 1; grind
     ·grind
    ·
     have c2 : x1 < W := by grind
     have hq : x1 / W * W = x1 := Rat.div_mul_cancel (by grind)
     have hq0 := div_pos0 (a := x1) (b := W) (by grind) (by grind)
     have hq1 := div_le1 (a := x1) (b := W) (by grind) (by grind)
     have hpq : x0 / W <= x1 / W := by
      refine Rat.le_of_mul_le_mul_right (c := W) ?_ (by grind)
      rw [hp, hq]
      exact hx
     have h := Tab.pair hT hw0 hw1 .mm (p := x0 / W * 4194304) (q := x1 / W * 4194304) (t := 0) (s := 0) hy0 hy1 okM okM hT.cM hT.cM
      ⟨hh1, hh2, fun h => by simp at h, fun h => by simp at h, fun _ => by grind, fun h => by simp at h, fun h => by simp at h⟩ ⟨fun h => by simp [hasT] at h, fun h => by simp [hasS] at h⟩
      (by grind) (by show _ <= ((4194304 : Nat) : Rat); rw [cw2]; grind) (by grind) (by show _ <= ((4194304 : Nat) : Rat); rw [cw2]; grind)
     have e1 := psi_M (T := T) (W := W) (x := x1) (y := y1) c1 c2
     have eR : gRi W x0 y0 x1 y1 = 0 := by unfold gRi; rw [if_neg (by grind), if_neg (by grind)]
     have eo : othX T.P W x0 x1 = othR T.P .mm (x0 / W * 4194304) (x1 / W * 4194304) W := by
      unfold othX othR dxR
      simp only
      rw [if_neg (by grind), if_neg (by grind), if_neg (by grind), show (x1 / W * 4194304 - x0 / W * 4194304) * W / 64 = (x1 - x0) * 65536 by grind]
     have ex : outX W x0 x1 = 0 := by unfold outX; rw [min0_p c1, min0_p c0, pos0_n (by grind), pos0_n (by grind)]; grind
     rw [eL, eR, eo, ex]
     simp only [hasT, hasS, Bool.false_eq_true, if_false, outD, Zp.pw, Zp.qw, Tab.z1, Tab.z2] at h
     refine le_eqs ?_ h ?_
     ·congr 1; grind
     ·grind
end Go.Proofs.Ytmgcbodlolnheaa
