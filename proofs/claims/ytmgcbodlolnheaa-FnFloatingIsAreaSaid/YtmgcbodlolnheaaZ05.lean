/- The program's float32 and float64 operations, in rational numbers. When a line in the numbers of fixed point goes well: nothing leaves its kind. A line in the numbers of fixed point goes well: no operation leaves its kind. Coordinates in 64ths of a pixel as float32; lines between such points, and between near points, in the numbers of fixed point. Calls as data ('impl.Op'): 'Op.at', 'impl.call'. -/
import Derived.Test.YtmgcbodlolnheaaZ04
import Derived.Deep.LoopGhost
import Derived.Test.YtmgcbodlolnheaaZ00
import Derived.Deep.DeepCutAuto
import Derived.Laws.OwnMore
namespace Go.Proofs.Ytmgcbodlolnheaa
open Go.ChangeShapes Go.WideShapes Go.ChangeAt Go.RowKit
def flerp (t p q : Nat) : Nat := fop .add p (fop .mul t (fop .sub q p))
def FlerpOk (t p q : Nat) : Prop := Fok .sub q p /\ Fok .mul t (fop .sub q p) /\ Fok .add p (fop .mul t (fop .sub q p))
def fdev (a b c : Nat) : Nat := fop .add (fop .sub a (fop .mul 1073741824 b)) c
def FdevOk (a b c : Nat) : Prop := Fok .mul 1073741824 b /\ Fok .sub a (fop .mul 1073741824 b) /\ Fok .add (fop .sub a (fop .mul 1073741824 b)) c /\ Fok .mul (fdev a b c) (fdev a b c)
def fdevSq (ax ay bx qy cx cy : Nat) : Nat := fop .add (fop .mul (fdev ax bx cx) (fdev ax bx cx)) (fop .mul (fdev ay qy cy) (fdev ay qy cy))
def FdevSqOk (ax ay bx qy cx cy : Nat) : Prop := FdevOk ax bx cx /\ FdevOk ay qy cy /\ Fok .add (fop .mul (fdev ax bx cx) (fdev ax bx cx)) (fop .mul (fdev ay qy cy) (fdev ay qy cy))
def SqOk (x : Nat) : Prop := (FloatKind.f64.format.sqrt x).isSome = true
def fsqrt (x : Nat) : Nat := (FloatKind.f64.format.sqrt x).getD 0
def Fok64 (op : BinOp) (a b : Nat) : Prop := (floatBits op .f64 a b).isSome = true
def fop64 (op : BinOp) (a b : Nat) : Nat := (floatBits op .f64 a b).getD 0
theorem Fok64.eq {op : BinOp} {a b : Nat} (h : Fok64 op a b) : floatBits op .f64 a b = some (fop64 op a b) := by
 unfold Fok64 at h
 unfold fop64
 cases hh : floatBits op .f64 a b with
 | none => rw [hh] at h; cases h
 | some r => rfl
section
variable {P : Program} (w : World)
theorem run_fop64 {op : BinOp} {a b : Nat} (t : TypeId) (h : Fok64 op a b) : (binOp op t (.float .f64 a) (.float .f64 b)).run P w = .ok (.float .f64 (fop64 op a b)) w :=
 run_float_arith w op t .f64 a b _ h.eq
@[go_sem] theorem run_fadd64 {a b : Nat} (t : TypeId) (h : Fok64 .add a b) : (binOp .add t (.float .f64 a) (.float .f64 b)).run P w = .ok (.float .f64 (fop64 .add a b)) w := run_fop64 w t h
@[go_sem] theorem run_fsub64 {a b : Nat} (t : TypeId) (h : Fok64 .sub a b) : (binOp .sub t (.float .f64 a) (.float .f64 b)).run P w = .ok (.float .f64 (fop64 .sub a b)) w := run_fop64 w t h
@[go_sem] theorem run_fmul64 {a b : Nat} (t : TypeId) (h : Fok64 .mul a b) : (binOp .mul t (.float .f64 a) (.float .f64 b)).run P w = .ok (.float .f64 (fop64 .mul a b)) w := run_fop64 w t h
@[go_sem] theorem run_fquo64 {a b : Nat} (t : TypeId) (h : Fok64 .quo a b) : (binOp .quo t (.float .f64 a) (.float .f64 b)).run P w = .ok (.float .f64 (fop64 .quo a b)) w := run_fop64 w t h
end
def Iok6464 (a : Nat) : Prop := (floatToIntVal .f64 a .i64).isSome = true
def int64of (a : Nat) : Int := (floatToIntVal .f64 a .i64).getD 0
def linesB (W : Nat) (H : Int) : List (Nat × Nat) -> Nat -> Nat -> Buf -> Buf
 | [], _, _, B => B
 | (qx, qy) :: t, px, py, B => linesB W H t qx qy (lineB W H px py qx qy B)
def LinesOk (W : Nat) (H : Int) : List (Nat × Nat) -> Nat -> Nat -> Buf -> Prop
 | [], _, _, _ => True
 | (qx, qy) :: t, px, py, B => LineOk W H px py qx qy B /\ LinesOk W H t qx qy (lineB W H px py qx qy B)
def steps (pt : Nat -> Nat × Nat) (s : Nat) : Nat -> Nat -> List (Nat × Nat)
 | 0, _ => []
 | m + 1, t => pt (fop .add t s) :: steps pt s m (fop .add t s)
def StepsOk (ok : Nat -> Prop) (s : Nat) : Nat -> Nat -> Prop
 | 0, _ => True
 | m + 1, t => Fok .add t s /\ ok (fop .add t s) /\ StepsOk ok s m (fop .add t s)
def thrice (d : Nat) : Nat := fop64 .mul 4613937818241073152 (wide d)
def parts (d : Nat) : Int := 1 + int64of (fsqrt (fsqrt (thrice d)))
def PartsOk (d : Nat) : Prop := Num32 d /\ Fok64 .mul 4613937818241073152 (wide d) /\ SqOk (thrice d) /\ SqOk (fsqrt (thrice d)) /\
 Iok6464 (fsqrt (fsqrt (thrice d))) /\ 0 <= int64of (fsqrt (fsqrt (thrice d))) /\
 int64of (fsqrt (fsqrt (thrice d))) <= 1000000 /\ Fok .quo 1065353216 (floatOfInt .f32 (parts d))
def fge (a b : Nat) : Bool := FloatKind.f32.format.order a b == some .gt || FloatKind.f32.format.order a b == some .eq
def quadAt (ax bx cx t : Nat) : Nat := flerp t (flerp t ax bx) (flerp t bx cx)
def QuadAtOk (ax bx cx t : Nat) : Prop := FlerpOk t ax bx /\ FlerpOk t bx cx /\ FlerpOk t (flerp t ax bx) (flerp t bx cx)
def cubeAt (ax bx cx dx t : Nat) : Nat := flerp t (flerp t (flerp t ax bx) (flerp t bx cx)) (flerp t (flerp t bx cx) (flerp t cx dx))
def CubeAtOk (ax bx cx dx t : Nat) : Prop := FlerpOk t ax bx /\ FlerpOk t bx cx /\ FlerpOk t cx dx /\ FlerpOk t (flerp t ax bx) (flerp t bx cx) /\ FlerpOk t (flerp t bx cx) (flerp t cx dx) /\
 FlerpOk t (flerp t (flerp t ax bx) (flerp t bx cx)) (flerp t (flerp t bx cx) (flerp t cx dx))
def quadPts (ax ay bx qy cx cy : Nat) : List (Nat × Nat) :=
 if fge (fdevSq ax ay bx qy cx cy) 1051361018 = true then
  steps (fun t => (quadAt ax bx cx t, quadAt ay qy cy t)) (fop .quo 1065353216 (floatOfInt .f32 (parts (fdevSq ax ay bx qy cx cy)))) (parts (fdevSq ax ay bx qy cx cy) - 1).toNat 0 ++ [(cx, cy)]
 else [(cx, cy)]
def QuadOk (ax ay bx qy cx cy : Nat) : Prop := FdevSqOk ax ay bx qy cx cy /\ (fge (fdevSq ax ay bx qy cx cy) 1051361018 = true -> PartsOk (fdevSq ax ay bx qy cx cy) /\
 StepsOk (fun t => QuadAtOk ax bx cx t /\ QuadAtOk ay qy cy t) (fop .quo 1065353216 (floatOfInt .f32 (parts (fdevSq ax ay bx qy cx cy)))) (parts (fdevSq ax ay bx qy cx cy) - 1).toNat 0)
end Go.Proofs.Ytmgcbodlolnheaa
namespace Go.Proofs.Ytmgcbodlolnheaa
open Flt
def F32 (a : Nat) : Prop := Fin Ieee.single a
def V (a : Nat) : Rat := fval Ieee.single a
def F64 (a : Nat) : Prop := Fin Ieee.double a
def VV (a : Nat) : Rat := fval Ieee.double a
def R32 (x : Rat) (r : Nat) : Prop := Rounds Ieee.single x r
def R64 (x : Rat) (r : Nat) : Prop := Rounds Ieee.double x r
theorem R32.fin {x : Rat} {r : Nat} (h : R32 x r) : F32 r := Rounds.fin h
theorem R64.fin {x : Rat} {r : Nat} (h : R64 x r) : F64 r := Rounds.fin h
theorem big_single : big Ieee.single = 126 := by decide
theorem big_double : big Ieee.double = 1022 := by decide
theorem fadd_ok {a b : Nat} (ha : F32 a) (hb : F32 b) (h : ab (V a + V b) <= p2 126) : Fok .add a b /\ R32 (V a + V b) (fop .add a b) := by
 obtain ⟨r, h1, h2⟩ := add_rounds good_single ha hb (by rw [big_single]; exact h)
 have e : floatBits .add .f32 a b = some r := h1
 unfold Fok fop
 rw [e]
 exact ⟨rfl, h2⟩
theorem fsub_ok {a b : Nat} (ha : F32 a) (hb : F32 b) (h : ab (V a - V b) <= p2 126) : Fok .sub a b /\ R32 (V a - V b) (fop .sub a b) := by
 obtain ⟨r, h1, h2⟩ := sub_rounds good_single ha hb (by rw [big_single]; exact h)
 have e : floatBits .sub .f32 a b = some r := h1
 unfold Fok fop
 rw [e]
 exact ⟨rfl, h2⟩
theorem fmul_ok {a b : Nat} (ha : F32 a) (hb : F32 b) (h : ab (V a * V b) <= p2 126) : Fok .mul a b /\ R32 (V a * V b) (fop .mul a b) := by
 obtain ⟨r, h1, h2⟩ := mul_rounds good_single ha hb (by rw [big_single]; exact h)
 have e : floatBits .mul .f32 a b = some r := h1
 unfold Fok fop
 rw [e]
 exact ⟨rfl, h2⟩
theorem fquo_ok {a b : Nat} (ha : F32 a) (hb : F32 b) (h0 : V b ≠ 0) (h : ab (V a) <= p2 125 * ab (V b)) : Fok .quo a b /\ R32 (V a / V b) (fop .quo a b) := by
 obtain ⟨r, h1, h2⟩ := div_rounds good_single ha hb h0 (by rw [big_single]; exact h)
 have e : floatBits .quo .f32 a b = some r := h1
 unfold Fok fop
 rw [e]
 exact ⟨rfl, h2⟩
theorem fadd64_ok {a b : Nat} (ha : F64 a) (hb : F64 b) (h : ab (VV a + VV b) <= p2 1022) : Fok64 .add a b /\ R64 (VV a + VV b) (fop64 .add a b) := by
 obtain ⟨r, h1, h2⟩ := add_rounds good_double ha hb (by rw [big_double]; exact h)
 have e : floatBits .add .f64 a b = some r := h1
 unfold Fok64 fop64
 rw [e]
 exact ⟨rfl, h2⟩
theorem fsub64_ok {a b : Nat} (ha : F64 a) (hb : F64 b) (h : ab (VV a - VV b) <= p2 1022) : Fok64 .sub a b /\ R64 (VV a - VV b) (fop64 .sub a b) := by
 obtain ⟨r, h1, h2⟩ := sub_rounds good_double ha hb (by rw [big_double]; exact h)
 have e : floatBits .sub .f64 a b = some r := h1
 unfold Fok64 fop64
 rw [e]
 exact ⟨rfl, h2⟩
theorem fmul64_ok {a b : Nat} (ha : F64 a) (hb : F64 b) (h : ab (VV a * VV b) <= p2 1022) : Fok64 .mul a b /\ R64 (VV a * VV b) (fop64 .mul a b) := by
 obtain ⟨r, h1, h2⟩ := mul_rounds good_double ha hb (by rw [big_double]; exact h)
 have e : floatBits .mul .f64 a b = some r := h1
 unfold Fok64 fop64
 rw [e]
 exact ⟨rfl, h2⟩
theorem fquo64_ok {a b : Nat} (ha : F64 a) (hb : F64 b) (h0 : VV b ≠ 0) (h : ab (VV a) <= p2 1021 * ab (VV b)) : Fok64 .quo a b /\ R64 (VV a / VV b) (fop64 .quo a b) := by
 obtain ⟨r, h1, h2⟩ := div_rounds good_double ha hb h0 (by rw [big_double]; exact h)
 have e : floatBits .quo .f64 a b = some r := h1
 unfold Fok64 fop64
 rw [e]
 exact ⟨rfl, h2⟩
theorem fgt_iff {a b : Nat} (ha : F32 a) (hb : F32 b) : fgt a b = true ↔ V b < V a := by
 have h : FloatKind.f32.format.order a b = some (if V a < V b then .lt else if V a = V b then .eq else .gt) := order_val (f := Ieee.single) ha hb
 unfold fgt
 rw [h]
 by_cases h1 : V a < V b
 ·rw [if_pos h1]
  constructor
  ·intro h; cases h
  ·intro h; grind
 ·rw [if_neg h1]
  by_cases h2 : V a = V b
  ·rw [if_pos h2]
   constructor
   ·intro h; cases h
   ·intro h; grind
  ·rw [if_neg h2]
   constructor
   ·intro _; grind
   ·intro _; rfl
theorem flt_iff {a b : Nat} (ha : F32 a) (hb : F32 b) : flt a b = true ↔ V a < V b := by
 have h : FloatKind.f32.format.order a b = some (if V a < V b then .lt else if V a = V b then .eq else .gt) := order_val (f := Ieee.single) ha hb
 unfold flt
 rw [h]
 by_cases h1 : V a < V b
 ·rw [if_pos h1]
  exact ⟨fun _ => h1, fun _ => rfl⟩
 ·rw [if_neg h1]
  constructor
  ·intro h
   split at h <;> cases h
  ·intro h; grind
theorem fle_iff {a b : Nat} (ha : F32 a) (hb : F32 b) : fle a b = true ↔ V a <= V b := by
 have h : FloatKind.f32.format.order a b = some (if V a < V b then .lt else if V a = V b then .eq else .gt) := order_val (f := Ieee.single) ha hb
 unfold fle
 rw [h]
 by_cases h1 : V a < V b
 ·rw [if_pos h1]
  exact ⟨fun _ => by grind, fun _ => rfl⟩
 ·rw [if_neg h1]
  by_cases h2 : V a = V b
  ·rw [if_pos h2]
   exact ⟨fun _ => by grind, fun _ => rfl⟩
  ·rw [if_neg h2]
   constructor
   ·intro h; cases h
   ·intro h; grind
theorem ofInt_ok (n : Int) (h : ab (n : Rat) <= p2 126) : R32 (n : Rat) (floatOfInt .f32 n) := int_rounds good_single n (by rw [big_single]; exact h)
theorem ofInt64_ok (n : Int) (h : ab (n : Rat) <= p2 1022) : R64 (n : Rat) (floatOfInt .f64 n) := int_rounds good_double n (by rw [big_double]; exact h)
theorem min_i32 : IntKind.i32.min = -2147483648 := by decide
theorem max_i32 : IntKind.i32.max = 2147483647 := by decide
theorem int64to32_ok {a : Nat} (ha : F64 a) (h1 : -2147483648 <= truncR (VV a)) (h2 : truncR (VV a) <= 2147483647) : Iok64 a /\ int64to32 a = truncR (VV a) := by
 have h : (FloatKind.f64.decode a).toInt .zero = some (truncR (VV a)) := toInt_val (f := Ieee.double) ha (way := .zero) (by decide)
 have e : floatToIntVal .f64 a .i32 = some (truncR (VV a)) := by
  unfold floatToIntVal
  rw [h]
  simp only [min_i32, max_i32]
  rw [if_pos ⟨h1, h2⟩]
 unfold Iok64 int64to32
 rw [e]
 exact ⟨rfl, rfl⟩
theorem truncR_int (n : Int) : truncR (n : Rat) = n := by
 unfold truncR
 split
 ·exact Rat.floor_intCast n
 ·have : -(n : Rat) = ((-n : Int) : Rat) := by push_cast; rfl
  rw [this, Rat.floor_intCast]
  omega
theorem rep_wide {y : Rat} (h : Rep Ieee.single y) : Rep Ieee.double y := by
 obtain ⟨n, q, h1, h2, h3, h4⟩ := h
 have e1 : Ieee.single.binade = 8388608 := by decide
 have e2 : Ieee.double.binade = 4503599627370496 := by decide
 have e3 : Ieee.single.leastPlace = -149 := by decide
 have e4 : Ieee.double.leastPlace = -1074 := by decide
 rw [e1] at h2 h3
 rw [e3] at h4
 exact ⟨n, q, h1, by rw [e2]; omega, by rw [e2]; omega, by rw [e4]; omega⟩
theorem wide_ok {a : Nat} (ha : F32 a) (h : ab (V a) <= p2 126) : Num32 a /\ F64 (wide a) /\ VV (wide a) = V a := by
 have hrep := rep_wide (val_rep ha)
 obtain ⟨s, m, e, ea⟩ := ha
 have ea' : FloatKind.f32.decode a = .number s m e := ea
 have hv : V a = dval (.number s m e) := by unfold V fval; rw [ea]
 have hbig : ab (dval (.number s m e)) <= p2 (big Ieee.double) := by
  rw [<- hv, big_double]
  exact Rat.le_trans h (p2_mono (by decide))
 have hr := write_rounds' good_double s m e hbig
 have hw : wide a = Ieee.double.write (.number s m e) := by unfold wide; rw [ea']; rfl
 have hx := hr.exact (by rw [<- hv]; exact hrep)
 refine ⟨⟨s, m, e, ea', ?_⟩, by rw [hw]; exact hr.fin, by rw [hw, hv]; exact hx⟩
 obtain ⟨s', m', e', hf⟩ := hr.fin
 have : FloatKind.f64.decode (wide a) = .number s' m' e' := by rw [hw]; exact hf
 rw [this]
 rfl
theorem num64_of {a : Nat} (h : F64 a) : Num64 a := by
 obtain ⟨s, m, e, ea⟩ := h
 have : FloatKind.f64.decode a = .number s m e := ea
 unfold Num64
 rw [this]
 rfl
theorem rep_int {f : Ieee.Format} (hf : f.leastPlace <= 0) {n : Int} (h1 : n <= 2 * f.binade) (h2 : -(2 * f.binade) <= n) : Rep f (n : Rat) :=
 ⟨n, 0, by rw [p2_zero, Rat.mul_one], h1, h2, hf⟩
theorem ab_int_le {n : Int} {b : Nat} (h1 : n <= b) (h2 : -(b : Int) <= n) : ab (n : Rat) <= b := by
 have a1 : (n : Rat) <= b := by exact_mod_cast h1
 have a2 : -(b : Rat) <= n := by
  have h3 : ((-(b : Int) : Int) : Rat) <= (n : Rat) := Rat.intCast_le_intCast.2 h2
  simpa [Rat.intCast_natCast] using h3
 exact ab_le a1 a2
theorem p2_126 : ((2147483648 : Nat) : Rat) <= p2 126 := by
 have e : p2 (31 : Nat) = ((2147483648 : Nat) : Rat) := by rw [p2_nat]
 rw [<- e]
 exact p2_mono (by decide)
theorem whole_ok {way : Ieee.Toward} (hway : way ≠ .even) {a : Nat} (ha : F32 a) (hV : ab (V a) <= p2 126) (h1 : -2147483648 <= cutR way (V a)) (h2 : cutR way (V a) <= 2147483647) :
  Num32 a /\ Num64 (wide a) /\ Iok64 (FloatKind.f64.encode ((FloatKind.f64.decode (wide a)).integral way)) /\ int64to32 (FloatKind.f64.encode ((FloatKind.f64.decode (wide a)).integral way)) = cutR way (V a) := by
 obtain ⟨w1, w2, w3⟩ := wide_ok ha hV
 have e4 : Ieee.double.leastPlace = -1074 := by decide
 have e2 : Ieee.double.binade = 4503599627370496 := by decide
 have hbig : ab (cutR way (VV (wide a)) : Rat) <= p2 (big Ieee.double) := by
  rw [w3, big_double]
  refine Rat.le_trans (ab_int_le (b := 2147483648) (by omega) (by omega)) ?_
  exact Rat.le_trans p2_126 (p2_mono (by decide))
 have hr := integral_float good_double w2 hway hbig
 have hx : fval Ieee.double (Ieee.double.write ((Ieee.double.read (wide a)).integral way)) = (cutR way (V a) : Rat) := by
  have := hr.exact (by
   have e5 : fval Ieee.double (wide a) = V a := w3
   rw [e5]
   exact rep_int (by rw [e4]; decide) (by rw [e2]; omega) (by rw [e2]; omega))
  rw [this]
  have e5 : fval Ieee.double (wide a) = V a := w3
  rw [e5]
 have hT : truncR (VV (Ieee.double.write ((Ieee.double.read (wide a)).integral way))) = cutR way (V a) := by
  show truncR (fval Ieee.double _) = _
  rw [hx, truncR_int]
 obtain ⟨i1, i2⟩ := int64to32_ok (a := Ieee.double.write ((Ieee.double.read (wide a)).integral way)) hr.fin (by rw [hT]; exact h1) (by rw [hT]; exact h2)
 exact ⟨w1, num64_of w2, i1, i2.trans hT⟩
theorem ffl_ok {a : Nat} (ha : F32 a) (hV : ab (V a) <= p2 126) (h1 : -2147483648 <= (V a).floor) (h2 : (V a).floor <= 2147483647) : FlOk a /\ ffl a = (V a).floor := by
 obtain ⟨w1, w2, w3, w4⟩ := whole_ok (way := .down) (by decide) ha hV h1 h2
 exact ⟨⟨w1, w2, w3⟩, w4⟩
def ceilR (x : Rat) : Int := -(-x).floor
theorem fce_ok {a : Nat} (ha : F32 a) (hV : ab (V a) <= p2 126) (h1 : -2147483648 <= ceilR (V a)) (h2 : ceilR (V a) <= 2147483647) : CeOk a /\ fce a = ceilR (V a) := by
 obtain ⟨w1, w2, w3, w4⟩ := whole_ok (way := .up) (by decide) ha hV h1 h2
 exact ⟨⟨w1, w2, w3⟩, w4⟩
theorem least_single : Ieee.single.leastPlace = -149 := by decide
theorem binade_single : Ieee.single.binade = 8388608 := by decide
theorem R32.le {x : Rat} {r : Nat} (h : R32 x r) {n : Int} {q : Int} (hx : x <= n * p2 q) (h1 : n <= 16777216) (h2 : -16777216 <= n) (hq : -149 <= q) : V r <= n * p2 q :=
 Rounds.up h _ ⟨n, q, rfl, by rw [binade_single]; omega, by rw [binade_single]; omega, by rw [least_single]; exact hq⟩ hx
theorem R32.ge {x : Rat} {r : Nat} (h : R32 x r) {n : Int} {q : Int} (hx : n * p2 q <= x) (h1 : n <= 16777216) (h2 : -16777216 <= n) (hq : -149 <= q) : n * p2 q <= V r :=
 Rounds.dn h _ ⟨n, q, rfl, by rw [binade_single]; omega, by rw [binade_single]; omega, by rw [least_single]; exact hq⟩ hx
theorem R32.eq {x : Rat} {r : Nat} (h : R32 x r) {n : Int} {q : Int} (hx : x = n * p2 q) (h1 : n <= 16777216) (h2 : -16777216 <= n) (hq : -149 <= q) : V r = x := by
 have a := h.le (n := n) (q := q) (by rw [hx]; exact Rat.le_refl) h1 h2 hq
 have b := h.ge (n := n) (q := q) (by rw [hx]; exact Rat.le_refl) h1 h2 hq
 grind
theorem R32.leInt {x : Rat} {r : Nat} (h : R32 x r) {n : Int} (hx : x <= n) (h1 : n <= 16777216) (h2 : -16777216 <= n) : V r <= n := by
 have := h.le (n := n) (q := 0) (by rw [p2_zero, Rat.mul_one]; exact hx) h1 h2 (by decide)
 rwa [p2_zero, Rat.mul_one] at this
theorem R32.geInt {x : Rat} {r : Nat} (h : R32 x r) {n : Int} (hx : (n : Rat) <= x) (h1 : n <= 16777216) (h2 : -16777216 <= n) : (n : Rat) <= V r := by
 have := h.ge (n := n) (q := 0) (by rw [p2_zero, Rat.mul_one]; exact hx) h1 h2 (by decide)
 rwa [p2_zero, Rat.mul_one] at this
theorem R32.rel {x : Rat} {r : Nat} (h : R32 x r) : V r <= x + ab x * p2 (-24) + p2 (-150) /\ x <= V r + ab x * p2 (-24) + p2 (-150) := by
 obtain ⟨L, k, l1, l2, l3, l4, l5, l6⟩ := Rounds.err h
 rw [least_single] at l1 l4
 rw [binade_single] at l4
 have hL : p2 L <= 2 * (ab x * p2 (-24) + p2 (-150)) := by
  have ha := ab_nonneg x
  have hp := p2_pos (-24)
  have hq := p2_pos (-150)
  have hm := Rat.mul_nonneg ha (Rat.le_of_lt hp)
  rcases l4 with h4 | h4
  ·subst h4
   have : p2 (-149) = 2 * p2 (-150) := by rw [<- p2_succ]; rfl
   grind
  ·have h5 := Rat.mul_le_mul_of_nonneg_right h4 (Rat.le_of_lt hp)
   have h6 : ((8388608 : Nat) : Rat) * p2 L * p2 (-24) = p2 L / 2 := by
    have e1 : ((8388608 : Nat) : Rat) = p2 23 := by rw [show (23 : Int) = ((23 : Nat) : Int) by rfl, p2_nat]
    have e2 : p2 23 * p2 (-24) = p2 (-1) := by rw [<- p2_add]; rfl
    have e3 : p2 (-1) = 1 / 2 := by
     have : p2 (-1) * 2 = 1 := by rw [<- p2_one, <- p2_add]; exact p2_zero
     grind
    rw [e1]
    grind
   grind
 have hV : V r = fval Ieee.single r := rfl
 rw [hV]
 constructor <;> grind
theorem ab_bounds {x y : Rat} (h : ab x <= y) : x <= y /\ -y <= x := by
 have h1 := le_ab x
 have h2 := neg_le_ab x
 constructor <;> grind
theorem p2_neg (n : Nat) : p2 (-(n : Int)) * ((2 ^ n : Nat) : Rat) = 1 := by rw [<- p2_nat, <- p2_add, show -(n : Int) + n = 0 by omega, p2_zero]
theorem read_V {a : Nat} {s : Bool} {m : Nat} {e : Int} (h : Ieee.single.read a = .number s m e) : F32 a /\ V a = sgn s * m * p2 e :=
 ⟨⟨s, m, e, h⟩, by show dval (Ieee.single.read a) = _; rw [h]; rfl⟩
theorem cTiny : F32 897988541 /\ (999 : Rat) / 1000000000 <= V 897988541 /\ V 897988541 <= 1 / 1000000 := by
 obtain ⟨h1, h2⟩ := read_V (a := 897988541) (s := false) (m := 8796093) (e := -43) (by decide)
 refine ⟨h1, ?_⟩
 rw [h2]
 have := p2_neg 43
 simp only [sgn]
 push_cast at this ⊢
 constructor <;> grind
theorem fzero : F32 0 /\ V 0 = 0 := by
 obtain ⟨h1, h2⟩ := read_V (a := 0) (s := false) (m := 0) (e := -149) (by decide)
 exact ⟨h1, by rw [h2]; simp⟩
theorem p2_100 : (1000000000000000000000000000000 : Rat) <= p2 100 := by
 have : p2 ((100 : Nat) : Int) = ((2 ^ 100 : Nat) : Rat) := p2_nat 100
 have e : p2 100 = ((2 ^ 100 : Nat) : Rat) := this
 rw [e]
 push_cast
 grind
theorem big126 {x : Rat} (h : x <= 1000000000000000000000000000000) : x <= p2 126 := Rat.le_trans h (Rat.le_trans p2_100 (p2_mono (by decide)))
theorem big125 {x : Rat} (h : x <= 1000000000000000000000000000000) : x <= p2 125 := Rat.le_trans h (Rat.le_trans p2_100 (p2_mono (by decide)))
theorem p2_m24 : p2 (-24) = 1 / 16777216 := by
 have h := p2_neg 24
 have e : p2 (-24) = p2 (-((24 : Nat) : Int)) := rfl
 rw [e]
 push_cast at h
 grind
theorem p2_m150 : p2 (-150) <= 1 / 1000000000000000000000000000000 /\ 0 < p2 (-150) := by
 refine ⟨?_, p2_pos _⟩
 have h1 : p2 (-150) <= p2 (-100) := p2_mono (by decide)
 have h := p2_neg 100
 have e : p2 (-100) = p2 (-((100 : Nat) : Int)) := rfl
 have h2 := p2_100
 have e2 : p2 100 = ((2 ^ 100 : Nat) : Rat) := p2_nat 100
 rw [<- e2] at h
 rw [<- e] at h
 have hp := p2_pos (-100)
 have h3 := Rat.mul_le_mul_of_nonneg_left h2 (Rat.le_of_lt hp)
 grind
theorem R32.near5 {x : Rat} {r : Nat} (h : R32 x r) : ab (V r) <= ab x * (100001 / 100000) + 1 / 1000000000000000000000000000000 /\ ab (V r - x) <= ab x * (1 / 16777216) + 1 / 1000000000000000000000000000000 := by
 obtain ⟨h1, h2⟩ := h.rel
 rw [p2_m24] at h1 h2
 obtain ⟨h3, _⟩ := p2_m150
 have ha := ab_nonneg x
 have hx1 := le_ab x
 have hx2 := neg_le_ab x
 constructor
 ·refine ab_le ?_ ?_ <;> grind
 ·refine ab_le ?_ ?_ <;> grind
theorem ab_div {x y : Rat} (hy : 0 < y) : ab (x / y) = ab x / y := by
 have h1 : x / y * y = x := by rw [Rat.div_mul_cancel]; grind
 have h2 : ab (x / y) * y = ab x := by
  rw [<- h1, ab_mul, ab_of_nonneg (Rat.le_of_lt hy), h1]
 rw [<- h2]
 have : ab (x / y) * y / y = ab (x / y) := by rw [Rat.mul_div_cancel]; grind
 rw [this]
theorem c64 : F32 1115684864 /\ V 1115684864 = 64 := by
 obtain ⟨h1, h2⟩ := read_V (a := 1115684864) (s := false) (m := 8388608) (e := -17) (by decide)
 refine ⟨h1, ?_⟩
 rw [h2]
 have := p2_neg 17
 simp only [sgn]
 push_cast at this ⊢
 grind
theorem p2_m6 : p2 (-6) = 1 / 64 := by
 have h := p2_neg 6
 have e : p2 (-6) = p2 (-((6 : Nat) : Int)) := rfl
 rw [e]
 push_cast at h
 grind
theorem ofInt_any {n : Int} (h1 : -16777216 <= n) (h2 : n <= 16777216) : F32 (floatOfInt .f32 n) /\ V (floatOfInt .f32 n) = n := by
 have hr := ofInt_ok n (by
  refine big126 ?_
  have := ab_int_le (n := n) (b := 16777216) (by omega) (by omega)
  grind)
 exact ⟨hr.fin, hr.eq (n := n) (q := 0) (by rw [p2_zero, Rat.mul_one]) h2 h1 (by decide)⟩
def Q64 (a : Nat) (n : Int) : Prop := F32 a /\ V a = (n : Rat) / 64
theorem quo64 {n : Int} (h1 : -16777216 <= n) (h2 : n <= 16777216) : Fok .quo (floatOfInt .f32 n) 1115684864 /\ Q64 (fop .quo (floatOfInt .f32 n) 1115684864) n := by
 obtain ⟨a1, a2⟩ := ofInt_any h1 h2
 obtain ⟨c1, c2⟩ := c64
 obtain ⟨q1, q2⟩ := fquo_ok a1 c1 (by rw [c2]; decide) (by
  rw [a2, c2]
  have h3 := ab_int_le (n := n) (b := 16777216) (by omega) (by omega)
  have h4 : (1000000000000000000000000000000 : Rat) <= p2 125 := big125 Rat.le_refl
  have h5 : ab 64 = 64 := by decide
  rw [h5]
  grind)
 rw [a2, c2] at q2
 exact ⟨q1, q2.fin, q2.eq (n := n) (q := -6) (by rw [p2_m6]; grind) h2 h1 (by decide)⟩
theorem Q64.zero : Q64 0 0 := ⟨fzero.1, by rw [fzero.2]; grind⟩
theorem Q64.bd {a : Nat} {n : Int} (h : Q64 a n) {m : Nat} (h1 : n <= m) (h2 : -(m : Int) <= n) : ab (V a) <= (m : Rat) / 64 := by
 rw [h.2]
 have h3 := ab_int_le h1 h2
 have h4 := le_ab (n : Rat)
 have h5 := neg_le_ab (n : Rat)
 exact ab_le (by grind) (by grind)
theorem Q64.le_iff {a b : Nat} {m n : Int} (ha : Q64 a m) (hb : Q64 b n) : V a <= V b ↔ m <= n := by
 rw [ha.2, hb.2]
 constructor
 ·intro h
  have : (m : Rat) <= n := by grind
  exact Rat.intCast_le_intCast.1 this
 ·intro h
  have := Rat.intCast_le_intCast.2 h
  grind
theorem Q64.lt_iff {a b : Nat} {m n : Int} (ha : Q64 a m) (hb : Q64 b n) : V a < V b ↔ m < n := by
 have := hb.le_iff ha
 constructor
 ·intro h
  rcases Int.lt_or_le m n with h1 | h1
  ·exact h1
  ·have := this.2 h1
   grind
 ·intro h
  have h2 : ¬ V b <= V a := fun hc => by have := this.1 hc; omega
  grind
theorem Q64.sub {a b : Nat} {m n : Int} (ha : Q64 a m) (hb : Q64 b n) (h1 : -16777216 <= m - n) (h2 : m - n <= 16777216) : Fok .sub a b /\ Q64 (fop .sub a b) (m - n) := by
 have hv : V a - V b = ((m - n : Int) : Rat) / 64 := by rw [ha.2, hb.2]; push_cast; grind
 obtain ⟨q1, q2⟩ := fsub_ok ha.1 hb.1 (by
  rw [hv]
  refine big126 ?_
  have h3 := ab_int_le (n := m - n) (b := 16777216) (by omega) (by omega)
  have h4 := le_ab ((m - n : Int) : Rat)
  have h5 := neg_le_ab ((m - n : Int) : Rat)
  exact ab_le (by grind) (by grind))
 rw [hv] at q2
 exact ⟨q1, q2.fin, by
  have := q2.eq (n := m - n) (q := -6) (by rw [p2_m6]; grind) h2 h1 (by decide)
  exact this⟩
end Go.Proofs.Ytmgcbodlolnheaa
namespace Go.Proofs.Ytmgcbodlolnheaa
open Go.ChangeShapes Go.WideShapes Go.ChangeAt Go.RowKit
set_option linter.unusedVariables false
def cubeD (ax ay bx qy cx cy dx dy : Nat) : Nat := if flt (fdevSq ax ay bx qy dx dy) (fdevSq ax ay cx cy dx dy) = true then fdevSq ax ay cx cy dx dy else fdevSq ax ay bx qy dx dy
def cubePts (ax ay bx qy cx cy dx dy : Nat) : List (Nat × Nat) :=
 if fge (cubeD ax ay bx qy cx cy dx dy) 1051361018 = true then
  steps (fun t => (cubeAt ax bx cx dx t, cubeAt ay qy cy dy t)) (fop .quo 1065353216 (floatOfInt .f32 (parts (cubeD ax ay bx qy cx cy dx dy)))) (parts (cubeD ax ay bx qy cx cy dx dy) - 1).toNat 0 ++ [(dx, dy)]
 else [(dx, dy)]
def CubeOk (ax ay bx qy cx cy dx dy : Nat) : Prop := FdevSqOk ax ay bx qy dx dy /\ FdevSqOk ax ay cx cy dx dy /\ (fge (cubeD ax ay bx qy cx cy dx dy) 1051361018 = true -> PartsOk (cubeD ax ay bx qy cx cy dx dy) /\
 StepsOk (fun t => CubeAtOk ax bx cx dx t /\ CubeAtOk ay qy cy dy t) (fop .quo 1065353216 (floatOfInt .f32 (parts (cubeD ax ay bx qy cx cy dx dy)))) (parts (cubeD ax ay bx qy cx cy dx dy) - 1).toNat 0)
def IntsAt (w : World) (B : Nat) (v : Value) (ps : List Int) : Prop :=
 ∃ (A : Option Addr) (cap : Nat), v = .slice A ps.length cap /\ ps.length <= 9223372036854775807 /\
  (0 < ps.length -> ∃ g off, A = some ⟨g, off, none⟩ /\ g < B /\ ∀ j p, ps[j]? = some p -> w.cell? ⟨g, off + j, none⟩ = some (.int .i64 p))
theorem IntsAt.kept {S : Nat -> Prop} {w w' : World} {B : Nat} {v : Value} {ps : List Int} (h : IntsAt w B v ps) (hk : Kept S w w') (hB : B <= w.heap.size) (hS : ∀ k, k < B -> ¬ S k) : IntsAt w' B v ps := by
 obtain ⟨A, cap, h1, h2, h3⟩ := h
 refine ⟨A, cap, h1, h2, fun hp => ?_⟩
 obtain ⟨g, off, h4, h5, h6⟩ := h3 hp
 exact ⟨g, off, h4, h5, fun j p hj => (hk.cell (p := ⟨g, off + j, none⟩) (Nat.lt_of_lt_of_le h5 hB) (hS g h5)).trans (h6 j p hj)⟩
def atF (ps : List Int) (i : Nat) : Nat := if i < ps.length then fop .quo (floatOfInt .f32 (ps.getD i 0)) 1115684864 else 0
def AtOk (ps : List Int) : Prop := ∀ p ∈ ps, Fok .quo (floatOfInt .f32 p) 1115684864
set_option maxRecDepth 100000 in
theorem at_any (kind : Int) (pv : Value) (ps : List Int) (i : Nat) (B : Nat) (w : World) (hi : i <= 100) (h : IntsAt w B pv ps) (hB : B <= w.heap.size) (hok : AtOk ps) :
  Calls Try.prog 49 #[.agg #[.int .i64 kind, pv], .int .i64 (i : Int)] w fun e w' => e = .returned (.float .f32 (atF ps i)) /\ Same w w' := by
 obtain ⟨A, cap, rfl, h2, h3⟩ := h
 by_cases hlt : i < ps.length
 ·obtain ⟨g, off, rfl, h5, h6⟩ := h3 (by omega)
  have hc := h6 i (ps.getD i 0) (by simp [List.getD, hlt])
  have hq := hok (ps.getD i 0) (by simp [List.getD, hlt])
  have e : atF ps i = fop .quo (floatOfInt .f32 (ps.getD i 0)) 1115684864 := if_pos hlt
  rw [e]
  generalize ps.getD i 0 = p at hc hq
  generalize ps.length = n at hlt h2
  have hgB : g < w.heap.size := by omega
  clear e h3 h6 hok
  go_enter Try.func49, Try.ntmps49
  go_wp2
  go_ret
  exact ⟨rfl, (Kept.refl _ _).alloc _⟩
 ·have e : atF ps i = 0 := if_neg hlt
  rw [e]
  generalize ps.length = n at hlt h2
  clear e h3 hok
  go_enter Try.func49, Try.ntmps49
  go_wp2
  go_ret
  exact ⟨rfl, (Kept.refl _ _).alloc _⟩
structure RS where
 fx : Nat
 fy : Nat
 px : Nat
 py : Nat
 B : Buf
def stepOp (W : Nat) (H : Int) (o : Int × List Int) (s : RS) : RS :=
 if o.1 = 0 then ⟨atF o.2 0, atF o.2 1, atF o.2 0, atF o.2 1, s.B⟩
 else if o.1 = 1 then ⟨s.fx, s.fy, atF o.2 0, atF o.2 1, lineB W H s.px s.py (atF o.2 0) (atF o.2 1) s.B⟩
 else if o.1 = 2 then s
 else if o.1 = 3 then s
 else if o.1 = 4 then ⟨s.fx, s.fy, s.fx, s.fy, lineB W H s.px s.py s.fx s.fy s.B⟩
 else s
def StepOk (W : Nat) (H : Int) (o : Int × List Int) (s : RS) : Prop :=
 AtOk o.2 /\ (o.1 = 1 -> LineOk W H s.px s.py (atF o.2 0) (atF o.2 1) s.B) /\
 (o.1 = 2 -> False) /\
 (o.1 = 3 -> False) /\
 (o.1 = 4 -> LineOk W H s.px s.py s.fx s.fy s.B)
def RasS (w : World) (b g W H : Nat) (o : Value) (rest : List Value) (s : RS) : Prop := Ras w b g W H o rest s.fx s.fy s.px s.py s.B
structure Held (w0 : World) (b g t : Nat) (c0 c1 : Value) (w' : World) : Prop where
 a0 : w'.cell? ⟨t, 0, none⟩ = some c0
 a1 : w'.cell? ⟨t, 1, none⟩ = some c1
 lt : t < w'.heap.size
 k : Kept (KS b g) w0 w'
theorem Held.next {w0 w' w'' : World} {b g t : Nat} {c0 c1 : Value} (h : Held w0 b g t c0 c1 w') (hk : Kept (KS b g) w' w'') (hne : t ≠ b /\ t ≠ g) : Held w0 b g t c0 c1 w'' := by
 have hS : ¬ KS b g t := fun hs => by rcases hs with hs | hs <;> simp_all
 exact ⟨(hk.cell (p := ⟨t, 0, none⟩) h.lt hS).trans h.a0, (hk.cell (p := ⟨t, 1, none⟩) h.lt hS).trans h.a1, Nat.lt_of_lt_of_le h.lt hk.size, h.k.trans hk⟩
theorem Held.first (w : World) (b g : Nat) (c0 c1 : Value) : Held w b g w.heap.size c0 c1 ((w.alloc (.cells #[c0, c1] 31)).drew) := by
 have hb := (Blk.new w 31 #[c0, c1]).drew
 exact ⟨by rw [hb.cell]; rfl, by rw [hb.cell]; rfl, hb.lt, ((Kept.refl _ _).alloc _).drew⟩
set_option maxHeartbeats 1000000 in
set_option maxRecDepth 100000 in
theorem call_move (b g W H : Nat) (o : Value) (rest : List Value) (fx fy px py : Nat) (B : Buf) (pv : Value) (ps : List Int) (D : Nat) (w : World) (hd : Dims W H rest)
  (h : Ras w b g W H o rest fx fy px py B) (hp : IntsAt w D pv ps) (hD : D <= w.heap.size) (hbD : D <= b) (hgD : D <= g) (hok : AtOk ps) :
  Calls Try.prog 40 #[.pointer (some ⟨b, 0, none⟩), .agg #[.int .i64 0, pv]] w fun e w' => e = .returned (.tuple #[]) /\
   Ras w' b g W H o rest (atF ps 0) (atF ps 1) (atF ps 0) (atF ps 1) B /\ Kept (KS b g) w w' := by
 have hblt := h.lt
 have hS : ∀ k, k < D -> ¬ KS b g k := fun k hk hs => by rcases hs with rfl | rfl <;> omega
 have hat0 : ∀ (w' : World), Kept (KS b g) w w' -> Calls Try.prog 49 #[.agg #[.int .i64 0, pv], .int .i64 0] w' fun e w'' => e = .returned (.float .f32 (atF ps 0)) /\ Same w' w'' :=
  fun w' hk => at_any 0 pv ps 0 D w' (by omega) (hp.kept hk hD hS) (Nat.le_trans hD hk.size) hok
 have H0 := hid hat0
 clear hat0
 have hat1 : ∀ (w' : World), Kept (KS b g) w w' -> Calls Try.prog 49 #[.agg #[.int .i64 0, pv], .int .i64 1] w' fun e w'' => e = .returned (.float .f32 (atF ps 1)) /\ Same w' w'' :=
  fun w' hk => at_any 0 pv ps 1 D w' (by omega) (hp.kept hk hD hS) (Nat.le_trans hD hk.size) hok
 have H1 := hid hat1
 clear hat1
 have HR := hid h
 obtain ⟨A, cap, rfl, _, _⟩ := hp
 clear h hS
 have hne : w.heap.size ≠ b /\ w.heap.size ≠ g := by omega
 have hr0 : ∀ w', Held w b g w.heap.size (.int .i64 0) (.slice A ps.length cap) w' -> w'.cell? ⟨w.heap.size, 0, none⟩ = some (.int .i64 0) := fun _ h => h.a0
 have hr1 : ∀ w', Held w b g w.heap.size (.int .i64 0) (.slice A ps.length cap) w' -> w'.cell? ⟨w.heap.size, 1, none⟩ = some (.slice A ps.length cap) := fun _ h => h.a1
 go_enter Try.func40, Try.ntmps40
 go_upto_region 3 with fail
 go_region_held3 (Held w b g w.heap.size (.int .i64 0) (.slice A ps.length cap)) (with_reducible (first | exact Held.first _ _ _ _ _ | exact Held.next (by assumption) (Kept.of_same (by assumption)) hne | exact Held.next (by assumption) (by assumption) hne)) (first | (go_at_call 49; ((with_reducible refine (H0.out _ ?_).mono ?_); (exact Held.k (by assumption)); rintro e w' ⟨rfl, hs0⟩)) | (go_at_call 49; ((with_reducible refine (H1.out _ ?_).mono ?_); (exact Held.k (by assumption)); rintro e w' ⟨rfl, hs1⟩)) | (go_at_call 48; ((with_reducible refine (move_any b g W H o rest fx fy px py _ _ B _ ?_).mono ?_); (exact (((HR.out.same ((Kept.refl _ _).alloc _).drew).same hs0).same hs1)); rintro e w' ⟨rfl, hr, hsz⟩)))
 have hr := hid hr
 go_wp2_with fail
 go_end0
 exact ⟨rfl, hr.out, (((((Kept.refl _ _).alloc _).drew).trans (Kept.of_same hs0)).trans (Kept.of_same hs1)).trans hsz⟩
set_option maxHeartbeats 1000000 in
set_option maxRecDepth 100000 in
theorem call_line (b g W H : Nat) (o : Value) (rest : List Value) (fx fy px py : Nat) (B : Buf) (pv : Value) (ps : List Int) (D : Nat) (w : World) (hd : Dims W H rest)
  (h : Ras w b g W H o rest fx fy px py B) (hp : IntsAt w D pv ps) (hD : D <= w.heap.size) (hbD : D <= b) (hgD : D <= g) (hok : AtOk ps)
  (hl : LineOk W H px py (atF ps 0) (atF ps 1) B) :
  Calls Try.prog 40 #[.pointer (some ⟨b, 0, none⟩), .agg #[.int .i64 1, pv]] w fun e w' => e = .returned (.tuple #[]) /\
   Ras w' b g W H o rest fx fy (atF ps 0) (atF ps 1) (lineB W H px py (atF ps 0) (atF ps 1) B) /\ Kept (KS b g) w w' := by
 have hblt := h.lt
 have hS : ∀ k, k < D -> ¬ KS b g k := fun k hk hs => by rcases hs with rfl | rfl <;> omega
 have hat0 : ∀ (w' : World), Kept (KS b g) w w' -> Calls Try.prog 49 #[.agg #[.int .i64 1, pv], .int .i64 0] w' fun e w'' => e = .returned (.float .f32 (atF ps 0)) /\ Same w' w'' :=
  fun w' hk => at_any 1 pv ps 0 D w' (by omega) (hp.kept hk hD hS) (Nat.le_trans hD hk.size) hok
 have H0 := hid hat0
 clear hat0
 have hat1 : ∀ (w' : World), Kept (KS b g) w w' -> Calls Try.prog 49 #[.agg #[.int .i64 1, pv], .int .i64 1] w' fun e w'' => e = .returned (.float .f32 (atF ps 1)) /\ Same w' w'' :=
  fun w' hk => at_any 1 pv ps 1 D w' (by omega) (hp.kept hk hD hS) (Nat.le_trans hD hk.size) hok
 have H1 := hid hat1
 clear hat1
 have HR := hid h
 have HL := hid hl
 clear hl
 obtain ⟨A, cap, rfl, _, _⟩ := hp
 clear h hS
 have hne : w.heap.size ≠ b /\ w.heap.size ≠ g := by omega
 have hr0 : ∀ w', Held w b g w.heap.size (.int .i64 1) (.slice A ps.length cap) w' -> w'.cell? ⟨w.heap.size, 0, none⟩ = some (.int .i64 1) := fun _ h => h.a0
 have hr1 : ∀ w', Held w b g w.heap.size (.int .i64 1) (.slice A ps.length cap) w' -> w'.cell? ⟨w.heap.size, 1, none⟩ = some (.slice A ps.length cap) := fun _ h => h.a1
 go_enter Try.func40, Try.ntmps40
 go_upto_region 5 with fail
 go_region_held3 (Held w b g w.heap.size (.int .i64 1) (.slice A ps.length cap)) (with_reducible (first | exact Held.first _ _ _ _ _ | exact Held.next (by assumption) (Kept.of_same (by assumption)) hne | exact Held.next (by assumption) (by assumption) hne)) (first | (go_at_call 49; ((with_reducible refine (H0.out _ ?_).mono ?_); (exact Held.k (by assumption)); rintro e w' ⟨rfl, hs0⟩)) | (go_at_call 49; ((with_reducible refine (H1.out _ ?_).mono ?_); (exact Held.k (by assumption)); rintro e w' ⟨rfl, hs1⟩)) | (go_at_call 50; ((with_reducible refine (line_any b g W H o rest fx fy px py _ _ B _ hd ?_ HL.out).mono ?_); (exact (((HR.out.same ((Kept.refl _ _).alloc _).drew).same hs0).same hs1)); rintro e w' ⟨rfl, hr, hsz⟩)))
 have hr := hid hr
 go_wp2_with fail
 go_end0
 exact ⟨rfl, hr.out, (((((Kept.refl _ _).alloc _).drew).trans (Kept.of_same hs0)).trans (Kept.of_same hs1)).trans hsz⟩
theorem call_close (b g W H : Nat) (o : Value) (rest : List Value) (fx fy px py : Nat) (B : Buf) (A : Option Addr) (n cap : Nat) (w : World) (hd : Dims W H rest)
  (h : Ras w b g W H o rest fx fy px py B) (hl : LineOk W H px py fx fy B) :
  Calls Try.prog 40 #[.pointer (some ⟨b, 0, none⟩), .agg #[.int .i64 4, .slice A n cap]] w fun e w' => e = .returned (.tuple #[]) /\
   Ras w' b g W H o rest fx fy fx fy (lineB W H px py fx fy B) /\ Kept (KS b g) w w' := by
 have HR := hid h
 have HL := hid hl
 clear h hl
 go_enter Try.func40, Try.ntmps40
 go_wp2_with fail
 refine (close_any b g W H o rest fx fy px py B _ hd (HR.out.same ((Kept.refl _ _).alloc _)) HL.out).mono ?_
 rintro e w' ⟨rfl, r1, r2⟩
 have R1 := hid r1
 have R2 := hid r2
 clear r1 r2
 go_wp2_with fail
 go_end0
 exact ⟨rfl, R1.out, ((Kept.refl _ _).alloc _).trans R2.out⟩
theorem call_none (b g W H : Nat) (o : Value) (rest : List Value) (fx fy px py : Nat) (B : Buf) (kind : Int) (A : Option Addr) (n cap : Nat) (w : World)
  (h : Ras w b g W H o rest fx fy px py B) (hk : kind < 0 ∨ 4 < kind) :
  Calls Try.prog 40 #[.pointer (some ⟨b, 0, none⟩), .agg #[.int .i64 kind, .slice A n cap]] w fun e w' => e = .returned (.tuple #[]) /\
   Ras w' b g W H o rest fx fy px py B /\ Kept (KS b g) w w' := by
 have HR := hid h
 clear h
 rcases hk with hk | hk
 all_goals
  go_enter Try.func40, Try.ntmps40
  go_wp2_with fail
  go_end0
  exact ⟨rfl, HR.out.same ((Kept.refl _ _).alloc _), (Kept.refl _ _).alloc _⟩
theorem call_any (b g W H : Nat) (o : Value) (rest : List Value) (s : RS) (op : Int × List Int) (pv : Value) (D : Nat) (w : World) (hd : Dims W H rest)
  (h : RasS w b g W H o rest s) (hp : IntsAt w D pv op.2) (hD : D <= w.heap.size) (hbD : D <= b) (hgD : D <= g) (hok : StepOk W H op s) :
  Calls Try.prog 40 #[.pointer (some ⟨b, 0, none⟩), .agg #[.int .i64 op.1, pv]] w fun e w' => e = .returned (.tuple #[]) /\
   RasS w' b g W H o rest (stepOp W H op s) /\ Kept (KS b g) w w' := by
 obtain ⟨kind, ps⟩ := op
 obtain ⟨k0, k1, k2, k3, k4⟩ := hok
 simp only at hp k0 k1 k2 k3 k4
 unfold RasS stepOp
 simp only
 by_cases e0 : kind = 0
 ·subst e0
  simp only [↓reduceIte]
  exact call_move b g W H o rest _ _ _ _ _ pv ps D w hd h hp hD hbD hgD k0
 rw [if_neg e0]
 by_cases e1 : kind = 1
 ·subst e1
  simp only [↓reduceIte]
  exact call_line b g W H o rest _ _ _ _ _ pv ps D w hd h hp hD hbD hgD k0 (k1 rfl)
 rw [if_neg e1]
 by_cases e2 : kind = 2
 ·subst e2
  simp only [↓reduceIte]
  exact (k2 rfl).elim
 rw [if_neg e2]
 by_cases e3 : kind = 3
 ·subst e3
  simp only [↓reduceIte]
  exact (k3 rfl).elim
 rw [if_neg e3]
 obtain ⟨A, cap, rfl, _, _⟩ := hp
 by_cases e4 : kind = 4
 ·subst e4
  simp only [↓reduceIte]
  exact call_close b g W H o rest _ _ _ _ _ A ps.length cap w hd h (k4 rfl)
 rw [if_neg e4]
 exact call_none b g W H o rest _ _ _ _ _ kind A ps.length cap w h (by omega)
def byteCells (l : List Int) : Array Value := (l.map (Value.int .u8)).toArray
theorem byteCells_set {l : List Int} {k : Nat} (v : Int) : (byteCells l).setIfInBounds k (.int .u8 v) = byteCells (l.set k v) := by
 unfold byteCells
 apply Array.ext'
 simp
theorem byteCells_made (n : Nat) : madeCells #[.int .u8 0] n = byteCells (List.replicate n 0) := by
 unfold byteCells
 apply Array.ext'
 rw [toList_madeCells_one]
 simp
theorem take_set_succ {D : List Int} {k : Nat} (h : k < D.length) (v : Int) : (D.set k v).take (k + 1) = D.take k ++ [v] := by
 rw [List.take_succ_eq_append_getElem (by simpa using h)]
 rw [List.take_set_of_le (Nat.le_refl _)]
 simp
section
variable {w : World} {d : Nat} {D : List Int}
theorem byte_blk (h : Blk w d 5 (byteCells D)) (k : Nat) (v : Int) : Blk (w.setCell ⟨d, k, none⟩ (.int .u8 v)) d 5 (byteCells (D.set k v)) := by
 have := h.set_ k (.int .u8 v)
 rwa [byteCells_set] at this
theorem byte_cell (h : Blk w d 5 (byteCells D)) {k : Nat} (hk : k < D.length) : w.cell? ⟨d, k, none⟩ = some (.int .u8 (D.getD k 0)) := by
 rw [h.cell]
 simp [byteCells, hk, List.getD]
end
section
variable {acc : Int}
end
def Iok8 (a : Nat) : Prop := (floatToIntVal .f32 a .u8).isSome = true
def fint8 (a : Nat) : Int := (floatToIntVal .f32 a .u8).getD 0
theorem run_fint8 {P : Program} {a : Nat} (src dst : TypeId) (hs : (P.underlying src).isSome = true) (hd : P.underlying dst = some (.int .u8)) (h : Iok8 a) (w : World) :
  (convert src dst (.float .f32 a)).run P w = .ok (.int .u8 (fint8 a)) w := by
 refine run_convert_float_int w src dst .f32 .u8 a _ hs hd ?_
 unfold Iok8 at h
 unfold fint8
 cases hh : floatToIntVal .f32 a .u8 with
 | none => rw [hh] at h; cases h
 | some r => rfl
def fneg (a : Nat) : Nat := Go.Op.negFloat .f32 a
def fpart (acc : Nat) : Nat :=
 if flt acc 0 = true then (if fgt (fneg acc) 1065353216 = true then 1065353216 else fneg acc)
 else (if fgt acc 1065353216 = true then 1065353216 else acc)
def floByte (acc : Nat) : Int := fint8 (fop .mul 1132462079 (fpart acc))
def FloByteOk (acc : Nat) : Prop := Fok .mul 1132462079 (fpart acc) /\ Iok8 (fop .mul 1132462079 (fpart acc))
def floBytes : Nat -> List Nat -> List Int
 | _, [] => []
 | acc, v :: t => floByte (fop .add acc v) :: floBytes (fop .add acc v) t
def FloBytesOk : Nat -> List Nat -> Prop
 | _, [] => True
 | acc, v :: t => Fok .add acc v /\ FloByteOk (fop .add acc v) /\ FloBytesOk (fop .add acc v) t
theorem length_floBytes : ∀ (acc : Nat) (l : List Nat), (floBytes acc l).length = l.length
 | _, [] => rfl
 | acc, v :: t => by simp [floBytes, length_floBytes]
theorem drop_fAt {l : List Nat} {k : Nat} (h : k < l.length) : l.drop k = fAt l k :: l.drop (k + 1) := by
 rw [List.drop_eq_getElem_cons h]
 simp [fAt, List.getD, h]
@[go_sem] theorem unary_fneg (a : Nat) : Op.unary .neg (.float .f32 a) = pure (.float .f32 (fneg a)) := rfl
theorem fpart_cases (acc : Nat) :
  ((FloatKind.f32.format.order acc 0 == some Ordering.lt) = true /\ (FloatKind.f32.format.order (fneg acc) 1065353216 == some Ordering.gt) = true /\ fpart acc = 1065353216) ∨
  ((FloatKind.f32.format.order acc 0 == some Ordering.lt) = true /\ (FloatKind.f32.format.order (fneg acc) 1065353216 == some Ordering.gt) = false /\ fpart acc = fneg acc) ∨
  ((FloatKind.f32.format.order acc 0 == some Ordering.lt) = false /\ (FloatKind.f32.format.order acc 1065353216 == some Ordering.gt) = true /\ fpart acc = 1065353216) ∨
  ((FloatKind.f32.format.order acc 0 == some Ordering.lt) = false /\ (FloatKind.f32.format.order acc 1065353216 == some Ordering.gt) = false /\ fpart acc = acc) := by
 unfold fpart flt fgt
 cases (FloatKind.f32.format.order acc 0 == some Ordering.lt) <;> cases (FloatKind.f32.format.order (fneg acc) 1065353216 == some Ordering.gt) <;>
  cases (FloatKind.f32.format.order acc 1065353216 == some Ordering.gt) <;> simp
theorem flo_round {w wr : World} {d n k acc : Nat} {D' : List Int} {l : List Nat} (hk : k <= n) (hlt : k < n) (q1 : D'.length = n) (hl : l.length = n) (q2 : D'.take k ++ floBytes acc (l.drop k) = floBytes 0 l)
  (q3 : Blk wr d 5 (byteCells D')) (q4 : Kept (· = d) w wr) (a4 : FloBytesOk (fop .add acc (fAt l k)) (l.drop (k + 1))) (x : Nat) (hv : fpart (fop .add acc (fAt l k)) = x) :
  ∃ (k_1 acc_1 : Nat) (D'_1 : List Int), k_1 <= n /\ Value.int .i64 ((k : Int) + 1) = .int .i64 k_1 /\ Value.float .f32 (fop .add acc (fAt l k)) = .float .f32 acc_1 /\ FloBytesOk acc_1 (l.drop k_1) /\ D'_1.length = n /\
   D'_1.take k_1 ++ floBytes acc_1 (l.drop k_1) = floBytes 0 l /\ Blk (wr.setCell ⟨d, k, none⟩ (.int .u8 (fint8 (fop .mul 1132462079 x)))) d 5 (byteCells D'_1) /\ Kept (· = d) w (wr.setCell ⟨d, k, none⟩ (.int .u8 (fint8 (fop .mul 1132462079 x)))) := by
 refine ⟨k + 1, _, D'.set k (fint8 (fop .mul 1132462079 x)), by omega, by simp, rfl, a4, by simpa using q1, ?_, byte_blk q3 k _, q4.set_in rfl⟩
 rw [take_set_succ (by omega), <- q2, drop_fAt (k := k) (by omega), floBytes, floByte, hv]
 simp
set_option maxHeartbeats 1000000 in
set_option maxRecDepth 100000 in
theorem accFlo_any (d g n : Nat) (D : List Int) (l : List Nat) (rest : List Value) (w : World) (hd : Blk w d 5 (byteCells D)) (hD : D.length = n) (hg : Blk w g 72 (fbufCells l rest)) (hl : l.length = n)
  (hn : n <= 100000) (hcap : n + rest.length <= 100000) (hok : FloBytesOk 0 l) :
  Calls Try.prog 54 #[.slice (some ⟨d, 0, none⟩) n n, .slice (some ⟨g, 0, none⟩) n (n + rest.length)] w fun e w' => e = .returned (.tuple #[]) /\
   Blk w' d 5 (byteCells (floBytes 0 l)) /\ Kept (· = d) w w' := by
 have hne : g ≠ d := hg.ne_ hd (by decide)
 have HD := hid hd
 have HG := hid hg
 have HL := hid hl
 have HDL := hid hD
 have HOK := hid hok
 have hno : ¬ n < n := by omega
 clear hd hg hl hD hok
 go_enter Try.func54, Try.ntmps54
 go_wp2
 go_loopw [4, 15] (fun a i wr => ∃ (k acc : Nat) (D' : List Int), k <= n /\ i = .int .i64 k /\ a = .float .f32 acc /\ FloBytesOk acc (l.drop k) /\ D'.length = n /\ D'.take k ++ floBytes acc (l.drop k) = floBytes 0 l /\ Blk wr d 5 (byteCells D') /\ Kept (· = d) w wr) (fun _ i _ => n - (intOf i).toNat)
 case atStart => exact ⟨0, 0, D, Nat.zero_le _, rfl, rfl, by simpa using HOK.out, HDL.out, by simp, HD.out, Kept.refl _ _⟩
 case round =>
  obtain ⟨k, acc, D', hk, rfl, rfl, q0, q1, q2, q3, q4⟩ := hrel
  by_cases hlt : k < n
  ·have hgw := q4.blk HG.out hne
   have c1 := fbuf_cell hgw (k := k) (by have := HL.out; omega)
   have c2 := byte_cell q3 (k := k) (by omega)
   have c3 := q3.frozen k
   rw [drop_fAt (by have := HL.out; omega)] at q0
   obtain ⟨a1, ⟨a2, a3⟩, a4⟩ := q0
   have A4 := hid a4
   clear a4
   have e8 := fun w => run_fint8 (P := Try.prog) 72 5 (by kernel_rfl) Try.underlying5 a3 w
   rcases fpart_cases (fop .add acc (fAt l k)) with ⟨o1, o2, o3⟩ | ⟨o1, o2, o3⟩ | ⟨o1, o2, o3⟩ | ⟨o1, o2, o3⟩
   all_goals
    rw [o3] at a2 e8
    have O3 := hid o3
    clear o3 a3
    go_wp2
    go_roundw
    case measure => simp [intOf]; omega
    case rel => exact flo_round hk hlt q1 HL.out q2 q3 q4 A4.out _ O3.out
  ·obtain rfl : k = n := by omega
   have hz : floBytes acc (l.drop k) = [] := by rw [List.drop_of_length_le (by have := HL.out; omega)]; rfl
   have hD2 : D' = floBytes 0 l := by rw [<- q2, hz, List.append_nil, List.take_of_length_le (by omega)]
   have HZ := hid hD2
   clear hD2 hz q2 q0
   go_wp2
   go_end0
   exact ⟨rfl, by rw [<- HZ.out]; exact q3, q4⟩
theorem info5 : (Try.prog.info? 5).map (fun i => (i.zero, i.size, i.bytes)) = some (some (.int .u8 0), 1, 1) := by kernel_rfl
theorem make_u8 (W H : Nat) (hn : W * H <= 1000000) (u : World) : (Instr.makeSlice 34 (.int .i64 ((W : Int) * (H : Int))) (.int .i64 ((W : Int) * (H : Int)))).run Try.prog u =
  .ok (.slice (some ⟨u.heap.size, 0, none⟩) (W * H) (W * H)) (u.alloc (.cells (byteCells (List.replicate (W * H) 0)) 5)) := by
 obtain ⟨i0, hi, hz0, hz1, hz2⟩ := info_parts info5
 have h := run_make (P := Try.prog) u 34 5 i0 (.int .u8 0) Try.underlying34 hi hz0 .i64 .i64 ((W * H : Nat) : Int) ((W * H : Nat) : Int) (by omega) (Int.le_refl _) (by rw [hz2]; omega) (by omega)
 rw [<- byteCells_made]
 have e : ((W * H : Nat) : Int) = (W : Int) * (H : Int) := by push_cast; rfl
 rw [<- e]
 rw [hz1, Nat.mul_one, Int.toNat_natCast] at h
 exact h
def maskOf : Buf -> List Int
 | .fix l => l
 | .flo l => floBytes 0 l
def MaskOk : Buf -> Prop
 | .fix _ => False
 | .flo l => FloBytesOk 0 l
theorem length_maskOf (B : Buf) : (maskOf B).length = B.len := by
 cases B with
 | fix l => rfl
 | flo l => exact length_floBytes _ _
set_option maxHeartbeats 1000000 in
set_option maxRecDepth 100000 in
theorem zzmask_any (b g W H : Nat) (o : Value) (rest : List Value) (fx fy px py : Nat) (B : Buf) (w : World) (hd : Dims W H rest)
  (h : Ras w b g W H o rest fx fy px py B) (hok : MaskOk B) :
  Calls Try.prog 42 #[.pointer (some ⟨b, 0, none⟩)] w fun e w' => ∃ d, e = .returned (.slice (some ⟨d, 0, none⟩) (W * H) (W * H)) /\ w.heap.size <= d /\ Blk w' d 5 (byteCells (maskOf B)) /\ Same w w' := by
 have hmk := make_u8 W H (by have := hd.n; omega)
 have m0 : 0 <= (W : Int) * (H : Int) := Int.mul_nonneg (by omega) (by omega)
 have m1 : (W : Int) * (H : Int) <= 100000 := by rw [<- Int.natCast_mul]; have := hd.n; omega
 have hDb := (Blk.new w 5 (byteCells (List.replicate (W * H) 0))).drew
 have hnb := hd.n
 have hcb := hd.c
 have hDl : (List.replicate (W * H) (0 : Int)).length = W * H := List.length_replicate
 cases B with
 | fix l => exact hok.elim
 | flo l =>
  obtain ⟨h1, h2, h3⟩ := h
  obtain ⟨c0, c1, c2, c3, c4, c5, c6, c7, c8, c9⟩ := rz_cells h1
  have hlt := h1.lt
  have H2 := hid ((h2.alloc (.cells (byteCells (List.replicate (W * H) 0)) 5)).drew)
  have H3 := hid h3
  have HL := hid hDl
  have HDB := hid hDb
  have HOK := hid hok
  clear h1 h2 h3 hDl hDb c5 c6 c7 c8 c9 hok
  go_enter Try.func42, Try.ntmps42
  go_wp2
  go_region
  go_wp2_with fail
  refine (accFlo_any w.heap.size g (W * H) (List.replicate (W * H) 0) l rest _ HDB.out HL.out H2.out H3.out hnb hcb HOK.out).mono ?_
  rintro e w' ⟨rfl, r1, r2⟩
  go_wp2
  go_ret
  exact ⟨_, rfl, Nat.le_refl _, r1, (((Kept.refl (fun k => k = w.heap.size) w).alloc _).drew.trans r2).mono fun k hk he => absurd he (Nat.ne_of_lt hk)⟩
end Go.Proofs.Ytmgcbodlolnheaa
