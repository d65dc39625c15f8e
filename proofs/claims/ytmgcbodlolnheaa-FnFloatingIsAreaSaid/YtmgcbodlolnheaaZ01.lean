/- Contracts of the rasterizer's small helpers: clamp, fixedFloor, fixedCeil, fixedMin, fixedMax; float32 operations as plain functions. Contracts of the small helpers in floating point: floatingFloor, floatingCeil, floatingMin, floatingMax, math.Floor, math.Ceil. The accumulation buffer of float32 as a list of words; additions to it. What one row of 'floatingLineTo' adds to the buffer, as plain -/
import Derived.Test.YtmgcbodlolnheaaZ00
import Derived.Deep.DeepCutAuto
import Derived.Deep.LoopGhost
namespace Go.Proofs.Ytmgcbodlolnheaa
open Go.ChangeShapes Go.WideShapes Go.ChangeAt Go.RowKit
def imin (x y : Int) : Int := if x < y then x else y
def imax (x y : Int) : Int := if y < x then x else y
def clampN (x : Int) (W : Nat) : Nat := if x < 0 then 0 else if x < W then x.toNat else W
theorem clampN_le (x : Int) (W : Nat) : clampN x W <= W := by
 unfold clampN
 split
 ·omega
 ·split <;> omega
theorem clamp_any (x : Int) (W : Nat) (hx : x <= 2147483647) (hW : W <= 2147483647) (w : World) :
  Calls Try.prog 67 #[.int .i32 x, .int .i32 (W : Int)] w fun e w' => e = .returned (.int .u64 (clampN x W : Nat)) /\ w = w' := by
 by_cases h : x < 0
 ·have e : clampN x W = 0 := by simp [clampN, h]
  rw [e]
  clear e
  go_enter Try.func67, Try.ntmps67
  go_wp2
  go_ret
  exact ⟨rfl, rfl⟩
 ·by_cases h2 : x < W
  ·have e : ((clampN x W : Nat) : Int) = x := by simp [clampN, h, h2]; omega
   rw [e]
   clear e
   go_enter Try.func67, Try.ntmps67
   go_wp2
   go_ret
   exact ⟨rfl, rfl⟩
  ·have e : clampN x W = W := by simp [clampN, h, h2]
   rw [e]
   clear e
   go_enter Try.func67, Try.ntmps67
   go_wp2
   go_ret
   exact ⟨rfl, rfl⟩
def Fok (op : BinOp) (a b : Nat) : Prop := (floatBits op .f32 a b).isSome = true
def fop (op : BinOp) (a b : Nat) : Nat := (floatBits op .f32 a b).getD 0
theorem Fok.eq {op : BinOp} {a b : Nat} (h : Fok op a b) : floatBits op .f32 a b = some (fop op a b) := by
 unfold Fok at h
 unfold fop
 cases hh : floatBits op .f32 a b with
 | none => rw [hh] at h; cases h
 | some r => rfl
section
variable {P : Program} (w : World)
theorem run_fop {op : BinOp} {a b : Nat} (t : TypeId) (h : Fok op a b) : (binOp op t (.float .f32 a) (.float .f32 b)).run P w = .ok (.float .f32 (fop op a b)) w :=
 run_float_arith w op t .f32 a b _ h.eq
@[go_sem] theorem run_fadd {a b : Nat} (t : TypeId) (h : Fok .add a b) : (binOp .add t (.float .f32 a) (.float .f32 b)).run P w = .ok (.float .f32 (fop .add a b)) w := run_fop w t h
@[go_sem] theorem run_fsub {a b : Nat} (t : TypeId) (h : Fok .sub a b) : (binOp .sub t (.float .f32 a) (.float .f32 b)).run P w = .ok (.float .f32 (fop .sub a b)) w := run_fop w t h
@[go_sem] theorem run_fmul {a b : Nat} (t : TypeId) (h : Fok .mul a b) : (binOp .mul t (.float .f32 a) (.float .f32 b)).run P w = .ok (.float .f32 (fop .mul a b)) w := run_fop w t h
@[go_sem] theorem run_fquo {a b : Nat} (t : TypeId) (h : Fok .quo a b) : (binOp .quo t (.float .f32 a) (.float .f32 b)).run P w = .ok (.float .f32 (fop .quo a b)) w := run_fop w t h
def Iok (a : Nat) : Prop := (floatToIntVal .f32 a .i32).isSome = true
def fint (a : Nat) : Int := (floatToIntVal .f32 a .i32).getD 0
@[go_sem] theorem run_fint {a : Nat} (src dst : TypeId) (hs : (P.underlying src).isSome = true) (hd : P.underlying dst = some (.int .i32)) (h : Iok a) :
  (convert src dst (.float .f32 a)).run P w = .ok (.int .i32 (fint a)) w := by
 refine run_convert_float_int w src dst .f32 .i32 a _ hs hd ?_
 unfold Iok at h
 unfold fint
 cases hh : floatToIntVal .f32 a .i32 with
 | none => rw [hh] at h; cases h
 | some r => rfl
end
def fgt (a b : Nat) : Bool := FloatKind.f32.format.order a b == some .gt
def flt (a b : Nat) : Bool := FloatKind.f32.format.order a b == some .lt
def fle (a b : Nat) : Bool := FloatKind.f32.format.order a b == some .lt || FloatKind.f32.format.order a b == some .eq
@[go_sem ↓] theorem binOp_f32_gtr (t : TypeId) (a b : Nat) : binOp .gtr t (.float .f32 a) (.float .f32 b) = pure (.bool (fgt a b)) := binOp_float_cmp_gtr t .f32 a b
@[go_sem ↓] theorem binOp_f32_lss (t : TypeId) (a b : Nat) : binOp .lss t (.float .f32 a) (.float .f32 b) = pure (.bool (flt a b)) := binOp_float_cmp_lss t .f32 a b
@[go_sem ↓] theorem binOp_f32_leq (t : TypeId) (a b : Nat) : binOp .leq t (.float .f32 a) (.float .f32 b) = pure (.bool (fle a b)) := binOp_float_cmp_leq t .f32 a b
theorem find75 : Extern.find Try.f75 = some (Extern.MathFloor.toIntegral "math.archFloor" .down) := by kernel_rfl
theorem find77 : Extern.find Try.f77 = some (Extern.MathFloor.toIntegral "math.archCeil" .up) := by kernel_rfl
theorem next75 : Extern.findNext Try.f75 = none := by kernel_rfl
theorem next77 : Extern.findNext Try.f77 = none := by kernel_rfl
theorem body75 : Try.f75.body.isNone = true := by kernel_rfl
theorem body77 : Try.f77.body.isNone = true := by kernel_rfl
def Num64 (x : Nat) : Prop := (FloatKind.f64.decode x).isNaN = false
def fl64 (x : Nat) : Nat := FloatKind.f64.encode ((FloatKind.f64.decode x).integral .down)
def ce64 (x : Nat) : Nat := FloatKind.f64.encode ((FloatKind.f64.decode x).integral .up)
def cutOf (way : Ieee.Toward) (x : Nat) (d : Ieee.Datum) : Sem Value :=
 match d with
 | .nan s t =>
  if FloatKind.f64.format.quiet t = t then pure (.float .f64 x) else do
  let kept <- choose (.extern "math.Floor,Ceil,Trunc,RoundToEven.signallingNaN kept" 2)
  pure (.float .f64 (if kept == 1 then x else FloatKind.f64.encode (.nan s (FloatKind.f64.format.quiet t))))
 | d => pure (.float .f64 (FloatKind.f64.encode (d.integral way)))
theorem run_toIntegral {P : Program} (nm : String) (way : Ieee.Toward) (x : Nat) (h : Num64 x) (w : World) :
  (Extern.MathFloor.toIntegral nm way #[.float .f64 x]).run P w = .ok (.float .f64 (FloatKind.f64.encode ((FloatKind.f64.decode x).integral way))) w := by
 have e : Extern.MathFloor.toIntegral nm way #[.float .f64 x] = cutOf way x (FloatKind.f64.decode x) := rfl
 rw [e]
 unfold Num64 at h
 revert h
 cases FloatKind.f64.decode x with
 | nan s t => intro h; cases h
 | infinity s => intro _; rfl
 | number s m e => intro _; rfl
theorem run_floor (x : Nat) (h : Num64 x) (w : World) : (callFunc 75 #[.float .f64 x]).run Try.prog w = .ok (.value (.float .f64 (fl64 x))) w := by
 rw [run_callFunc_extern Try.func75 (by kernel_rfl) body75 next75 find75, run_toIntegral _ _ _ h]
 rfl
theorem run_ceil (x : Nat) (h : Num64 x) (w : World) : (callFunc 77 #[.float .f64 x]).run Try.prog w = .ok (.value (.float .f64 (ce64 x))) w := by
 rw [run_callFunc_extern Try.func77 (by kernel_rfl) body77 next77 find77, run_toIntegral _ _ _ h]
 rfl
theorem floor64_any (x : Nat) (h : Num64 x) (w : World) :
  Calls Try.prog 73 #[.float .f64 x] w fun e w' => e = .returned (.float .f64 (fl64 x)) /\ w = w' := by
 have hr := run_floor x h
 go_enter Try.func73, Try.ntmps73
 go_wp2
 go_ret
 exact ⟨rfl, rfl⟩
theorem ceil64_any (x : Nat) (h : Num64 x) (w : World) :
  Calls Try.prog 74 #[.float .f64 x] w fun e w' => e = .returned (.float .f64 (ce64 x)) /\ w = w' := by
 have hr := run_ceil x h
 go_enter Try.func74, Try.ntmps74
 go_wp2
 go_ret
 exact ⟨rfl, rfl⟩
def wide (a : Nat) : Nat := FloatKind.f64.encode (FloatKind.f32.decode a)
def Num32 (a : Nat) : Prop := ∃ s m e, FloatKind.f32.decode a = .number s m e /\ (FloatKind.f64.decode (wide a)).isInfinity = false
theorem run_wide {P : Program} {a : Nat} (src dst : TypeId) (hs : (P.underlying src).isSome = true) (hd : P.underlying dst = some (.float .f64)) (h : Num32 a) (w : World) :
  (convert src dst (.float .f32 a)).run P w = .ok (.float .f64 (wide a)) w := by
 obtain ⟨s, m, e, h1, h2⟩ := h
 refine run_convert_float_float w src dst .f32 .f64 a _ hs hd ?_
 unfold wide at h2 ⊢
 unfold floatToFloatBits
 rw [h1] at h2 ⊢
 rw [if_neg (by decide)]
 simp only
 rw [if_neg (by rw [h2]; decide)]
def Iok64 (a : Nat) : Prop := (floatToIntVal .f64 a .i32).isSome = true
def int64to32 (a : Nat) : Int := (floatToIntVal .f64 a .i32).getD 0
theorem run_int64to32 {P : Program} {a : Nat} (src dst : TypeId) (hs : (P.underlying src).isSome = true) (hd : P.underlying dst = some (.int .i32)) (h : Iok64 a) (w : World) :
  (convert src dst (.float .f64 a)).run P w = .ok (.int .i32 (int64to32 a)) w := by
 refine run_convert_float_int w src dst .f64 .i32 a _ hs hd ?_
 unfold Iok64 at h
 unfold int64to32
 cases hh : floatToIntVal .f64 a .i32 with
 | none => rw [hh] at h; cases h
 | some r => rfl
def ffl (a : Nat) : Int := int64to32 (fl64 (wide a))
def fce (a : Nat) : Int := int64to32 (ce64 (wide a))
def FlOk (a : Nat) : Prop := Num32 a /\ Num64 (wide a) /\ Iok64 (fl64 (wide a))
def CeOk (a : Nat) : Prop := Num32 a /\ Num64 (wide a) /\ Iok64 (ce64 (wide a))
theorem ffl_any (a : Nat) (h : FlOk a) (w : World) :
  Calls Try.prog 63 #[.float .f32 a] w fun e w' => e = .returned (.int .i32 (ffl a)) /\ w = w' := by
 obtain ⟨h1, h2, h3⟩ := h
 have e1 := fun w => run_wide (P := Try.prog) 72 51 (by kernel_rfl) Try.underlying51 h1 w
 have e2 := fun w => run_int64to32 (P := Try.prog) 51 21 (by kernel_rfl) Try.underlying21 h3 w
 go_enter Try.func63, Try.ntmps63
 go_wp2_with (go_at_call 73; refine (floor64_any _ h2 _).mono ?_; rintro e w' ⟨rfl, rfl⟩)
 go_ret
 exact ⟨rfl, rfl⟩
theorem fce_any (a : Nat) (h : CeOk a) (w : World) :
  Calls Try.prog 64 #[.float .f32 a] w fun e w' => e = .returned (.int .i32 (fce a)) /\ w = w' := by
 obtain ⟨h1, h2, h3⟩ := h
 have e1 := fun w => run_wide (P := Try.prog) 72 51 (by kernel_rfl) Try.underlying51 h1 w
 have e2 := fun w => run_int64to32 (P := Try.prog) 51 21 (by kernel_rfl) Try.underlying21 h3 w
 go_enter Try.func64, Try.ntmps64
 go_wp2_with (go_at_call 74; refine (ceil64_any _ h2 _).mono ?_; rintro e w' ⟨rfl, rfl⟩)
 go_ret
 exact ⟨rfl, rfl⟩
def fmin (a b : Nat) : Nat := if flt a b = true then a else b
def fmax (a b : Nat) : Nat := if fgt a b = true then a else b
theorem fmin_any (a b : Nat) (w : World) :
  Calls Try.prog 65 #[.float .f32 a, .float .f32 b] w fun e w' => e = .returned (.float .f32 (fmin a b)) /\ w = w' := by
 by_cases h : flt a b = true
 ·have e : fmin a b = a := by simp [fmin, h]
  rw [e]
  have h' : (FloatKind.f32.format.order a b == some Ordering.lt) = true := h
  clear e h
  go_enter Try.func65, Try.ntmps65
  go_wp2
  go_ret
  exact ⟨rfl, rfl⟩
 ·have e : fmin a b = b := by simp [fmin, h]
  rw [e]
  have h' : (FloatKind.f32.format.order a b == some Ordering.lt) = false := Bool.eq_false_iff.2 h
  clear e h
  go_enter Try.func65, Try.ntmps65
  go_wp2
  go_ret
  exact ⟨rfl, rfl⟩
theorem fmax_any (a b : Nat) (w : World) :
  Calls Try.prog 66 #[.float .f32 a, .float .f32 b] w fun e w' => e = .returned (.float .f32 (fmax a b)) /\ w = w' := by
 by_cases h : fgt a b = true
 ·have e : fmax a b = a := by simp [fmax, h]
  rw [e]
  have h' : (FloatKind.f32.format.order a b == some Ordering.gt) = true := h
  clear e h
  go_enter Try.func66, Try.ntmps66
  go_wp2
  go_ret
  exact ⟨rfl, rfl⟩
 ·have e : fmax a b = b := by simp [fmax, h]
  rw [e]
  have h' : (FloatKind.f32.format.order a b == some Ordering.gt) = false := Bool.eq_false_iff.2 h
  clear e h
  go_enter Try.func66, Try.ntmps66
  go_wp2
  go_ret
  exact ⟨rfl, rfl⟩
def fbufCells (l : List Nat) (rest : List Value) : Array Value := (l.map (Value.float .f32) ++ rest).toArray
def fAt (l : List Nat) (k : Nat) : Nat := l.getD k 0
def fbump (l : List Nat) (k v : Nat) : List Nat := l.modify k (fun a => fop .add a v)
theorem length_fbump (l : List Nat) (k v : Nat) : (fbump l k v).length = l.length := by simp [fbump]
theorem fbump_out (l : List Nat) (k v : Nat) (h : l.length <= k) : fbump l k v = l := by
 unfold fbump
 rw [List.modify_eq_self h]
theorem fbufCells_get {l : List Nat} {rest : List Value} {k : Nat} (h : k < l.length) : (fbufCells l rest)[k]? = some (.float .f32 (fAt l k)) := by
 unfold fbufCells
 rw [List.getElem?_toArray, List.getElem?_append_left (by simpa using h)]
 simp [fAt, List.getD, h]
theorem fbufCells_set {l : List Nat} {rest : List Value} {k : Nat} (h : k < l.length) (v : Nat) :
  (fbufCells l rest).setIfInBounds k (.float .f32 (fop .add (fAt l k) v)) = fbufCells (fbump l k v) rest := by
 unfold fbufCells fbump
 apply Array.ext'
 simp only [Array.toList_setIfInBounds]
 apply List.ext_getElem?
 intro i
 rw [List.getElem?_set]
 by_cases hi : k = i
 ·subst hi
  rw [if_pos rfl, if_pos (by simp; omega), List.getElem?_append_left (by simpa using h)]
  simp [fAt, List.getD, h]
 ·rw [if_neg hi]
  by_cases hl : i < l.length
  ·rw [List.getElem?_append_left (by simpa using hl), List.getElem?_append_left (by simpa using hl)]
   simp [hi]
  ·rw [List.getElem?_append_right (by simpa using hl), List.getElem?_append_right (by simpa using hl)]
   simp
section
variable {w : World} {g : Nat} {l : List Nat} {rest : List Value}
theorem fbuf_cell (h : Blk w g 72 (fbufCells l rest)) {k : Nat} (hk : k < l.length) : w.cell? ⟨g, k, none⟩ = some (.float .f32 (fAt l k)) := by
 rw [h.cell, fbufCells_get hk]
theorem fbuf_bump (h : Blk w g 72 (fbufCells l rest)) {k : Nat} (hk : k < l.length) (v : Nat) :
  Blk (w.setCell ⟨g, k, none⟩ (.float .f32 (fop .add (fAt l k) v))) g 72 (fbufCells (fbump l k v) rest) := by
 have := h.set_ k (.float .f32 (fop .add (fAt l k) v))
 rwa [fbufCells_set hk] at this
end
def fadds : List (Nat × Nat) -> List Nat -> List Nat
 | [], l => l
 | (k, v) :: t, l => fadds t (fbump l k v)
def FaddsOk : List (Nat × Nat) -> List Nat -> Prop
 | [], _ => True
 | (k, v) :: t, l => (k < l.length -> Fok .add (fAt l k) v) /\ FaddsOk t (fbump l k v)
theorem length_fadds : ∀ (t : List (Nat × Nat)) (l : List Nat), (fadds t l).length = l.length
 | [], _ => rfl
 | (k, v) :: t, l => by rw [fadds, length_fadds t, length_fbump]
theorem fadds_append : ∀ (s t : List (Nat × Nat)) (l : List Nat), fadds (s ++ t) l = fadds t (fadds s l)
 | [], _, _ => rfl
 | (k, v) :: s, t, l => by rw [List.cons_append, fadds, fadds_append s t, fadds]
theorem FaddsOk_append : ∀ (s t : List (Nat × Nat)) (l : List Nat), FaddsOk (s ++ t) l ↔ FaddsOk s l /\ FaddsOk t (fadds s l)
 | [], _, _ => by simp [FaddsOk, fadds]
 | (k, v) :: s, t, l => by rw [List.cons_append, FaddsOk, FaddsOk, FaddsOk_append s t, fadds, and_assoc]
def ffill (base W : Nat) (x0 : Int) (v : Nat) : Nat -> List (Nat × Nat)
 | 0 => []
 | j + 1 => ffill base W x0 v j ++ [(base + clampN (x0 + (j : Int)) W, v)]
theorem ffill_ok {base W : Nat} {x0 : Int} {v N : Nat} {l : List Nat} (h : FaddsOk (ffill base W x0 v N) l) : ∀ j, j < N -> base + clampN (x0 + (j : Int)) W < l.length -> Fok .add (fAt (fadds (ffill base W x0 v j) l) (base + clampN (x0 + (j : Int)) W)) v := by
 induction N with
 | zero => intro j hj; omega
 | succ N ih =>
  rw [ffill, FaddsOk_append] at h
  intro j hj hk
  by_cases e : j = N
  ·subst e
   exact h.2.1 (by rw [length_fadds]; exact hk)
  ·exact ih h.1 j (by omega) hk
def flo (x xn : Nat) : Nat := if fgt x xn = true then xn else x
def fhi (x xn : Nat) : Nat := if fgt x xn = true then x else xn
def frowN (W base x xn d lo : Nat) : List (Nat × Nat) := [((base + clampN (ffl lo) W), (fop .sub d (fop .mul d (fop .sub (fop .mul 1056964608 (fop .add x xn)) (floatOfInt .f32 (ffl lo)))))), ((base + clampN (ffl lo + 1) W), (fop .mul d (fop .sub (fop .mul 1056964608 (fop .add x xn)) (floatOfInt .f32 (ffl lo)))))]
def frowT (W base d lo hi : Nat) : List (Nat × Nat) := [((base + clampN (ffl lo) W), (fop .mul d (fop .mul (fop .mul (fop .mul 1056964608 (fop .quo 1065353216 (fop .sub hi lo))) (fop .sub 1065353216 (fop .sub lo (floatOfInt .f32 (ffl lo))))) (fop .sub 1065353216 (fop .sub lo (floatOfInt .f32 (ffl lo))))))), ((base + clampN (ffl lo + 1) W), (fop .mul d (fop .sub (fop .sub 1065353216 (fop .mul (fop .mul (fop .mul 1056964608 (fop .quo 1065353216 (fop .sub hi lo))) (fop .sub 1065353216 (fop .sub lo (floatOfInt .f32 (ffl lo))))) (fop .sub 1065353216 (fop .sub lo (floatOfInt .f32 (ffl lo)))))) (fop .mul (fop .mul (fop .mul 1056964608 (fop .quo 1065353216 (fop .sub hi lo))) (fop .add (fop .sub hi (floatOfInt .f32 (fce hi))) 1065353216)) (fop .add (fop .sub hi (floatOfInt .f32 (fce hi))) 1065353216))))), ((base + clampN (fce hi) W), (fop .mul d (fop .mul (fop .mul (fop .mul 1056964608 (fop .quo 1065353216 (fop .sub hi lo))) (fop .add (fop .sub hi (floatOfInt .f32 (fce hi))) 1065353216)) (fop .add (fop .sub hi (floatOfInt .f32 (fce hi))) 1065353216))))]
def frowM (W base d lo hi N : Nat) : List (Nat × Nat) := ([((base + clampN (ffl lo) W), (fop .mul d (fop .mul (fop .mul (fop .mul 1056964608 (fop .quo 1065353216 (fop .sub hi lo))) (fop .sub 1065353216 (fop .sub lo (floatOfInt .f32 (ffl lo))))) (fop .sub 1065353216 (fop .sub lo (floatOfInt .f32 (ffl lo))))))), ((base + clampN (ffl lo + 1) W), (fop .mul d (fop .sub (fop .mul (fop .quo 1065353216 (fop .sub hi lo)) (fop .sub 1069547520 (fop .sub lo (floatOfInt .f32 (ffl lo))))) (fop .mul (fop .mul (fop .mul 1056964608 (fop .quo 1065353216 (fop .sub hi lo))) (fop .sub 1065353216 (fop .sub lo (floatOfInt .f32 (ffl lo))))) (fop .sub 1065353216 (fop .sub lo (floatOfInt .f32 (ffl lo))))))))] ++ ffill base W (ffl lo + 2) (fop .mul d (fop .quo 1065353216 (fop .sub hi lo))) N ++ [((base + clampN (fce hi - 1) W), (fop .mul d (fop .sub (fop .sub 1065353216 (fop .add (fop .mul (fop .quo 1065353216 (fop .sub hi lo)) (fop .sub 1069547520 (fop .sub lo (floatOfInt .f32 (ffl lo))))) (fop .mul (fop .quo 1065353216 (fop .sub hi lo)) (floatOfInt .f32 (fce hi - ffl lo - 3))))) (fop .mul (fop .mul (fop .mul 1056964608 (fop .quo 1065353216 (fop .sub hi lo))) (fop .add (fop .sub hi (floatOfInt .f32 (fce hi))) 1065353216)) (fop .add (fop .sub hi (floatOfInt .f32 (fce hi))) 1065353216))))), ((base + clampN (fce hi) W), (fop .mul d (fop .mul (fop .mul (fop .mul 1056964608 (fop .quo 1065353216 (fop .sub hi lo))) (fop .add (fop .sub hi (floatOfInt .f32 (fce hi))) 1065353216)) (fop .add (fop .sub hi (floatOfInt .f32 (fce hi))) 1065353216))))])
def frow (W base x xn d : Nat) : List (Nat × Nat) :=
 if fce (fhi x xn) <= ffl (flo x xn) + 1 then frowN W base x xn d (flo x xn)
 else if fce (fhi x xn) <= ffl (flo x xn) + 2 then frowT W base d (flo x xn) (fhi x xn)
 else frowM W base d (flo x xn) (fhi x xn) (fce (fhi x xn) - ffl (flo x xn) - 3).toNat
def FrowNOk (x xn d lo : Nat) : Prop := Fok .add x xn /\ Fok .mul 1056964608 (fop .add x xn) /\ Fok .sub (fop .mul 1056964608 (fop .add x xn)) (floatOfInt .f32 (ffl lo)) /\ Fok .mul d (fop .sub (fop .mul 1056964608 (fop .add x xn)) (floatOfInt .f32 (ffl lo))) /\ Fok .sub d (fop .mul d (fop .sub (fop .mul 1056964608 (fop .add x xn)) (floatOfInt .f32 (ffl lo))))
def FrowTOk (d lo hi : Nat) : Prop := Fok .sub hi lo /\ Fok .quo 1065353216 (fop .sub hi lo) /\ Fok .mul 1056964608 (fop .quo 1065353216 (fop .sub hi lo)) /\ Fok .sub lo (floatOfInt .f32 (ffl lo)) /\ Fok .sub 1065353216 (fop .sub lo (floatOfInt .f32 (ffl lo))) /\ Fok .mul (fop .mul 1056964608 (fop .quo 1065353216 (fop .sub hi lo))) (fop .sub 1065353216 (fop .sub lo (floatOfInt .f32 (ffl lo)))) /\ Fok .mul (fop .mul (fop .mul 1056964608 (fop .quo 1065353216 (fop .sub hi lo))) (fop .sub 1065353216 (fop .sub lo (floatOfInt .f32 (ffl lo))))) (fop .sub 1065353216 (fop .sub lo (floatOfInt .f32 (ffl lo)))) /\ Fok .mul d (fop .mul (fop .mul (fop .mul 1056964608 (fop .quo 1065353216 (fop .sub hi lo))) (fop .sub 1065353216 (fop .sub lo (floatOfInt .f32 (ffl lo))))) (fop .sub 1065353216 (fop .sub lo (floatOfInt .f32 (ffl lo))))) /\ Fok .sub 1065353216 (fop .mul (fop .mul (fop .mul 1056964608 (fop .quo 1065353216 (fop .sub hi lo))) (fop .sub 1065353216 (fop .sub lo (floatOfInt .f32 (ffl lo))))) (fop .sub 1065353216 (fop .sub lo (floatOfInt .f32 (ffl lo))))) /\ Fok .sub hi (floatOfInt .f32 (fce hi)) /\ Fok .add (fop .sub hi (floatOfInt .f32 (fce hi))) 1065353216 /\ Fok .mul (fop .mul 1056964608 (fop .quo 1065353216 (fop .sub hi lo))) (fop .add (fop .sub hi (floatOfInt .f32 (fce hi))) 1065353216) /\ Fok .mul (fop .mul (fop .mul 1056964608 (fop .quo 1065353216 (fop .sub hi lo))) (fop .add (fop .sub hi (floatOfInt .f32 (fce hi))) 1065353216)) (fop .add (fop .sub hi (floatOfInt .f32 (fce hi))) 1065353216) /\ Fok .sub (fop .sub 1065353216 (fop .mul (fop .mul (fop .mul 1056964608 (fop .quo 1065353216 (fop .sub hi lo))) (fop .sub 1065353216 (fop .sub lo (floatOfInt .f32 (ffl lo))))) (fop .sub 1065353216 (fop .sub lo (floatOfInt .f32 (ffl lo)))))) (fop .mul (fop .mul (fop .mul 1056964608 (fop .quo 1065353216 (fop .sub hi lo))) (fop .add (fop .sub hi (floatOfInt .f32 (fce hi))) 1065353216)) (fop .add (fop .sub hi (floatOfInt .f32 (fce hi))) 1065353216)) /\ Fok .mul d (fop .sub (fop .sub 1065353216 (fop .mul (fop .mul (fop .mul 1056964608 (fop .quo 1065353216 (fop .sub hi lo))) (fop .sub 1065353216 (fop .sub lo (floatOfInt .f32 (ffl lo))))) (fop .sub 1065353216 (fop .sub lo (floatOfInt .f32 (ffl lo)))))) (fop .mul (fop .mul (fop .mul 1056964608 (fop .quo 1065353216 (fop .sub hi lo))) (fop .add (fop .sub hi (floatOfInt .f32 (fce hi))) 1065353216)) (fop .add (fop .sub hi (floatOfInt .f32 (fce hi))) 1065353216))) /\ Fok .mul d (fop .mul (fop .mul (fop .mul 1056964608 (fop .quo 1065353216 (fop .sub hi lo))) (fop .add (fop .sub hi (floatOfInt .f32 (fce hi))) 1065353216)) (fop .add (fop .sub hi (floatOfInt .f32 (fce hi))) 1065353216))
def FrowMOk (d lo hi : Nat) : Prop := Fok .sub hi lo /\ Fok .quo 1065353216 (fop .sub hi lo) /\ Fok .mul 1056964608 (fop .quo 1065353216 (fop .sub hi lo)) /\ Fok .sub lo (floatOfInt .f32 (ffl lo)) /\ Fok .sub 1065353216 (fop .sub lo (floatOfInt .f32 (ffl lo))) /\ Fok .mul (fop .mul 1056964608 (fop .quo 1065353216 (fop .sub hi lo))) (fop .sub 1065353216 (fop .sub lo (floatOfInt .f32 (ffl lo)))) /\ Fok .mul (fop .mul (fop .mul 1056964608 (fop .quo 1065353216 (fop .sub hi lo))) (fop .sub 1065353216 (fop .sub lo (floatOfInt .f32 (ffl lo))))) (fop .sub 1065353216 (fop .sub lo (floatOfInt .f32 (ffl lo)))) /\ Fok .mul d (fop .mul (fop .mul (fop .mul 1056964608 (fop .quo 1065353216 (fop .sub hi lo))) (fop .sub 1065353216 (fop .sub lo (floatOfInt .f32 (ffl lo))))) (fop .sub 1065353216 (fop .sub lo (floatOfInt .f32 (ffl lo))))) /\ Fok .sub 1069547520 (fop .sub lo (floatOfInt .f32 (ffl lo))) /\ Fok .mul (fop .quo 1065353216 (fop .sub hi lo)) (fop .sub 1069547520 (fop .sub lo (floatOfInt .f32 (ffl lo)))) /\ Fok .sub (fop .mul (fop .quo 1065353216 (fop .sub hi lo)) (fop .sub 1069547520 (fop .sub lo (floatOfInt .f32 (ffl lo))))) (fop .mul (fop .mul (fop .mul 1056964608 (fop .quo 1065353216 (fop .sub hi lo))) (fop .sub 1065353216 (fop .sub lo (floatOfInt .f32 (ffl lo))))) (fop .sub 1065353216 (fop .sub lo (floatOfInt .f32 (ffl lo))))) /\ Fok .mul d (fop .sub (fop .mul (fop .quo 1065353216 (fop .sub hi lo)) (fop .sub 1069547520 (fop .sub lo (floatOfInt .f32 (ffl lo))))) (fop .mul (fop .mul (fop .mul 1056964608 (fop .quo 1065353216 (fop .sub hi lo))) (fop .sub 1065353216 (fop .sub lo (floatOfInt .f32 (ffl lo))))) (fop .sub 1065353216 (fop .sub lo (floatOfInt .f32 (ffl lo)))))) /\ Fok .mul (fop .quo 1065353216 (fop .sub hi lo)) (floatOfInt .f32 (fce hi - ffl lo - 3)) /\ Fok .add (fop .mul (fop .quo 1065353216 (fop .sub hi lo)) (fop .sub 1069547520 (fop .sub lo (floatOfInt .f32 (ffl lo))))) (fop .mul (fop .quo 1065353216 (fop .sub hi lo)) (floatOfInt .f32 (fce hi - ffl lo - 3))) /\ Fok .sub 1065353216 (fop .add (fop .mul (fop .quo 1065353216 (fop .sub hi lo)) (fop .sub 1069547520 (fop .sub lo (floatOfInt .f32 (ffl lo))))) (fop .mul (fop .quo 1065353216 (fop .sub hi lo)) (floatOfInt .f32 (fce hi - ffl lo - 3)))) /\ Fok .sub hi (floatOfInt .f32 (fce hi)) /\ Fok .add (fop .sub hi (floatOfInt .f32 (fce hi))) 1065353216 /\ Fok .mul (fop .mul 1056964608 (fop .quo 1065353216 (fop .sub hi lo))) (fop .add (fop .sub hi (floatOfInt .f32 (fce hi))) 1065353216) /\ Fok .mul (fop .mul (fop .mul 1056964608 (fop .quo 1065353216 (fop .sub hi lo))) (fop .add (fop .sub hi (floatOfInt .f32 (fce hi))) 1065353216)) (fop .add (fop .sub hi (floatOfInt .f32 (fce hi))) 1065353216) /\ Fok .sub (fop .sub 1065353216 (fop .add (fop .mul (fop .quo 1065353216 (fop .sub hi lo)) (fop .sub 1069547520 (fop .sub lo (floatOfInt .f32 (ffl lo))))) (fop .mul (fop .quo 1065353216 (fop .sub hi lo)) (floatOfInt .f32 (fce hi - ffl lo - 3))))) (fop .mul (fop .mul (fop .mul 1056964608 (fop .quo 1065353216 (fop .sub hi lo))) (fop .add (fop .sub hi (floatOfInt .f32 (fce hi))) 1065353216)) (fop .add (fop .sub hi (floatOfInt .f32 (fce hi))) 1065353216)) /\ Fok .mul d (fop .sub (fop .sub 1065353216 (fop .add (fop .mul (fop .quo 1065353216 (fop .sub hi lo)) (fop .sub 1069547520 (fop .sub lo (floatOfInt .f32 (ffl lo))))) (fop .mul (fop .quo 1065353216 (fop .sub hi lo)) (floatOfInt .f32 (fce hi - ffl lo - 3))))) (fop .mul (fop .mul (fop .mul 1056964608 (fop .quo 1065353216 (fop .sub hi lo))) (fop .add (fop .sub hi (floatOfInt .f32 (fce hi))) 1065353216)) (fop .add (fop .sub hi (floatOfInt .f32 (fce hi))) 1065353216))) /\ Fok .mul d (fop .mul (fop .mul (fop .mul 1056964608 (fop .quo 1065353216 (fop .sub hi lo))) (fop .add (fop .sub hi (floatOfInt .f32 (fce hi))) 1065353216)) (fop .add (fop .sub hi (floatOfInt .f32 (fce hi))) 1065353216)) /\ Fok .mul d (fop .quo 1065353216 (fop .sub hi lo))
def FrowOk (x xn d : Nat) : Prop := FlOk (flo x xn) /\ CeOk (fhi x xn) /\ -1000000000 <= ffl (flo x xn) /\ ffl (flo x xn) <= 1000000000 /\ -1000000000 <= fce (fhi x xn) /\ fce (fhi x xn) <= 1000000000 /\
 (fce (fhi x xn) <= ffl (flo x xn) + 1 -> FrowNOk x xn d (flo x xn)) /\ (fce (fhi x xn) = ffl (flo x xn) + 2 -> FrowTOk d (flo x xn) (fhi x xn)) /\ (ffl (flo x xn) + 2 < fce (fhi x xn) -> FrowMOk d (flo x xn) (fhi x xn))
structure GL where
 ay : Nat
 ey : Nat
 dir : Nat
 dxdy : Nat
def GL.dy (L : GL) (y : Int) : Nat := fop .sub (fmin (floatOfInt .f32 (y + 1)) L.ey) (fmax (floatOfInt .f32 y) L.ay)
def GL.nx (L : GL) (y : Int) (x : Nat) : Nat := fop .add x (fop .mul (L.dy y) L.dxdy)
def GL.adds (L : GL) (W : Nat) : Nat -> Int -> Nat -> List (Nat × Nat)
 | 0, _, _ => []
 | k + 1, y, x => (if y < 0 then [] else frow W (y.toNat * W) x (L.nx y x) (fop .mul (L.dy y) L.dir)) ++ L.adds W k (y + 1) (L.nx y x)
def GL.ok (L : GL) : Nat -> Int -> Nat -> Prop
 | 0, _, _ => True
 | k + 1, y, x => Fok .sub (fmin (floatOfInt .f32 (y + 1)) L.ey) (fmax (floatOfInt .f32 y) L.ay) /\ Fok .mul (L.dy y) L.dxdy /\ Fok .add x (fop .mul (L.dy y) L.dxdy) /\
   (0 <= y -> Fok .mul (L.dy y) L.dir /\ FrowOk x (L.nx y x) (fop .mul (L.dy y) L.dir)) /\ L.ok k (y + 1) (L.nx y x)
def bufCells (l : List Int) (rest : List Value) : Array Value := (l.map (Value.int .u32) ++ rest).toArray
section
variable {w : World} {g : Nat} {l : List Int} {rest : List Value}
end
section
variable (W base : Nat) (l : List Int) (x xn d lo hi : Int)
end
theorem info72 : (Try.prog.info? 72).map (fun i => (i.zero, i.size, i.bytes)) = some (some (.float .f32 0), 1, 4) := by kernel_rfl
theorem info100 : (Try.prog.info? 100).map (fun i => (i.zero, i.size, i.bytes)) = some (some (.int .u32 0), 1, 4) := by kernel_rfl
theorem make_f32 (n : Nat) (hn : n <= 1000000) (u : World) : (Instr.makeSlice 83 (.int .i64 (n : Int)) (.int .i64 (n : Int))).run Try.prog u =
  .ok (.slice (some ⟨u.heap.size, 0, none⟩) n n) (u.alloc (.cells (madeCells #[.float .f32 0] n) 72)) := by
 obtain ⟨i0, hi, hz0, hz1, hz2⟩ := info_parts info72
 have h := run_make (P := Try.prog) u 83 72 i0 (.float .f32 0) Try.underlying83 hi hz0 .i64 .i64 (n : Int) (n : Int) (by omega) (Int.le_refl _) (by rw [hz2]; omega) (by omega)
 simpa [hz1, Value.cells] using h
theorem make_u32 (n : Nat) (hn : n <= 1000000) (u : World) : (Instr.makeSlice 84 (.int .i64 (n : Int)) (.int .i64 (n : Int))).run Try.prog u =
  .ok (.slice (some ⟨u.heap.size, 0, none⟩) n n) (u.alloc (.cells (madeCells #[.int .u32 0] n) 100)) := by
 obtain ⟨i0, hi, hz0, hz1, hz2⟩ := info_parts info100
 have h := run_make (P := Try.prog) u 84 100 i0 (.int .u32 0) Try.underlying84 hi hz0 .i64 .i64 (n : Int) (n : Int) (by omega) (Int.le_refl _) (by rw [hz2]; omega) (by omega)
 simpa [hz1, Value.cells] using h
def rz (f u : Value) (fl : Bool) (W H : Int) (fx fy px py : Nat) : Array Value :=
 #[f, u, .bool fl, .int .i64 W, .int .i64 H, .float .f32 fx, .float .f32 fy, .float .f32 px, .float .f32 py, .int .i64 0]
theorem rz_cells {w : World} {b : Nat} {f u : Value} {fl : Bool} {W H : Int} {fx fy px py : Nat} (h : Blk w b 87 (rz f u fl W H fx fy px py)) :
  w.cell? ⟨b, 0, none⟩ = some f /\ w.cell? ⟨b, 1, none⟩ = some u /\ w.cell? ⟨b, 2, none⟩ = some (.bool fl) /\ w.cell? ⟨b, 3, none⟩ = some (.int .i64 W) /\
  w.cell? ⟨b, 4, none⟩ = some (.int .i64 H) /\ w.cell? ⟨b, 5, none⟩ = some (.float .f32 fx) /\ w.cell? ⟨b, 6, none⟩ = some (.float .f32 fy) /\
  w.cell? ⟨b, 7, none⟩ = some (.float .f32 px) /\ w.cell? ⟨b, 8, none⟩ = some (.float .f32 py) /\ w.cell? ⟨b, 9, none⟩ = some (.int .i64 0) := by
 refine ⟨?_, ?_, ?_, ?_, ?_, ?_, ?_, ?_, ?_, ?_⟩ <;> rw [h.cell] <;> rfl
set_option maxRecDepth 100000 in
theorem use_make_f (b n : Nat) (W H : Int) (o : Value) (fl : Bool) (fx fy px py : Nat) (hn : W * H = n) (h1 : 1 <= n) (h2 : n <= 65536) (w : World)
  (hb : Blk w b 87 (rz (.slice none 0 0) o fl W H fx fy px py)) :
  Calls Try.prog 56 #[.pointer (some ⟨b, 0, none⟩), .bool true] w fun e w' => e = .returned (.tuple #[]) /\
   ∃ g, w.heap.size <= g /\ Blk w' b 87 (rz (.slice (some ⟨g, 0, none⟩) n n) o true W H fx fy px py) /\ Blk w' g 72 (madeCells #[.float .f32 0] n) /\ Kept (· = b) w w' := by
 obtain ⟨c0, c1, c2, c3, c4, c5, c6, c7, c8, c9⟩ := rz_cells hb
 have f0 := hb.frozen 0
 have f2 := hb.frozen 2
 have hmk := make_f32 n (by omega)
 have hlt := hb.lt
 have hN : (0:Int) < (n:Int) := by omega
 clear c1 c5 c6 c7 c8 c9
 have HB := hid hb
 clear hb
 go_enter Try.func56, Try.ntmps56
 go_wp2
 go_region
 go_wp2
 go_end0
 have hb := HB.out
 refine ⟨rfl, w.heap.size, Nat.le_refl _, ?_, ?_, ?_⟩
 ·exact ((((hb.set_ 2 _).set_ 0 _).alloc _).drew)
 ·have := Blk.new ((w.setCell ⟨b, 2, none⟩ (.bool true)).setCell ⟨b, 0, none⟩ (.slice (some ⟨w.heap.size, 0, none⟩) n n)) 72 (madeCells #[.float .f32 0] n)
  simpa using this.drew
 ·exact ((((Kept.refl (· = b) w).setCell (.inr rfl) _).setCell (.inr rfl) _).alloc _).drew
set_option maxRecDepth 100000 in
theorem use_make_u (b n : Nat) (W H : Int) (o : Value) (fl : Bool) (fx fy px py : Nat) (hn : W * H = n) (h1 : 1 <= n) (h2 : n <= 65536) (w : World)
  (hb : Blk w b 87 (rz o (.slice none 0 0) fl W H fx fy px py)) :
  Calls Try.prog 56 #[.pointer (some ⟨b, 0, none⟩), .bool false] w fun e w' => e = .returned (.tuple #[]) /\
   ∃ g, w.heap.size <= g /\ Blk w' b 87 (rz o (.slice (some ⟨g, 0, none⟩) n n) false W H fx fy px py) /\ Blk w' g 100 (madeCells #[.int .u32 0] n) /\ Kept (· = b) w w' := by
 obtain ⟨c0, c1, c2, c3, c4, c5, c6, c7, c8, c9⟩ := rz_cells hb
 have f1 := hb.frozen 1
 have f2 := hb.frozen 2
 have hmk := make_u32 n (by omega)
 have hlt := hb.lt
 have hN : (0:Int) < (n:Int) := by omega
 clear c0 c5 c6 c7 c8 c9
 have HB := hid hb
 clear hb
 go_enter Try.func56, Try.ntmps56
 go_wp2
 go_region
 go_wp2
 go_end0
 have hb := HB.out
 refine ⟨rfl, w.heap.size, Nat.le_refl _, ?_, ?_, ?_⟩
 ·exact ((((hb.set_ 2 _).set_ 1 _).alloc _).drew)
 ·have := Blk.new ((w.setCell ⟨b, 2, none⟩ (.bool false)).setCell ⟨b, 1, none⟩ (.slice (some ⟨w.heap.size, 0, none⟩) n n)) 100 (madeCells #[.int .u32 0] n)
  simpa using this.drew
 ·exact ((((Kept.refl (· = b) w).setCell (.inr rfl) _).setCell (.inr rfl) _).alloc _).drew
theorem rz_reset {w : World} {b : Nat} {f u : Value} {fl : Bool} {W H W0 H0 : Int} {fx fy px py : Nat} (h : Blk w b 87 (rz f u fl W0 H0 fx fy px py)) :
  Blk (((((((w.setCell ⟨b, 3, none⟩ (.int .i64 W)).setCell ⟨b, 4, none⟩ (.int .i64 H)).setCell ⟨b, 5, none⟩ (.float .f32 0)).setCell ⟨b, 6, none⟩ (.float .f32 0)).setCell ⟨b, 7, none⟩ (.float .f32 0)).setCell ⟨b, 8, none⟩ (.float .f32 0)).setCell ⟨b, 9, none⟩ (.int .i64 0)) b 87
   (rz f u fl W H 0 0 0 0) := by
 have := ((((((h.set_ 3 (.int .i64 W)).set_ 4 (.int .i64 H)).set_ 5 (.float .f32 0)).set_ 6 (.float .f32 0)).set_ 7 (.float .f32 0)).set_ 8 (.float .f32 0)).set_ 9 (.int .i64 0)
 simpa [rz] using this
def Fresh (w : World) (b g n : Nat) (fl : Bool) (W H : Int) : Prop :=
 match fl with
 | true => Blk w b 87 (rz (.slice (some ⟨g, 0, none⟩) n n) (.slice none 0 0) true W H 0 0 0 0) /\ Blk w g 72 (madeCells #[.float .f32 0] n)
 | false => Blk w b 87 (rz (.slice none 0 0) (.slice (some ⟨g, 0, none⟩) n n) false W H 0 0 0 0) /\ Blk w g 100 (madeCells #[.int .u32 0] n)
set_option maxRecDepth 100000 in
theorem reset_w (b n : Nat) (W H : Int) (fl : Bool) (W0 H0 : Int) (fx fy px py : Nat) (hn : W * H = n) (h1 : 1 <= n) (h2 : n <= 65536) (hw : 512 < W) (w : World)
  (hb : Blk w b 87 (rz (.slice none 0 0) (.slice none 0 0) fl W0 H0 fx fy px py)) :
  Calls Try.prog 47 #[.pointer (some ⟨b, 0, none⟩), .int .i64 W, .int .i64 H] w fun e w' => e = .returned (.tuple #[]) /\
   ∃ g, w.heap.size <= g /\ Fresh w' b g n true W H /\ Kept (· = b) w w' := by
 obtain ⟨c0, c1, c2, c3, c4, c5, c6, c7, c8, c9⟩ := rz_cells hb
 have f3 := hb.frozen 3
 have f4 := hb.frozen 4
 have f5 := hb.frozen 5
 have f6 := hb.frozen 6
 have f7 := hb.frozen 7
 have f8 := hb.frozen 8
 have f9 := hb.frozen 9
 have hlt := hb.lt
 have HB := hid hb
 have HN := hid hn
 clear hb hn
 go_enter Try.func47, Try.ntmps47
 go_wp2_with fail
 have hB := rz_reset (W := W) (H := H) HB.out
 refine (use_make_f b n W H (.slice none 0 0) fl 0 0 0 0 HN.out h1 h2 _ hB).mono ?_
 rintro e w' ⟨rfl, g, hg, hb1, hb2, hk⟩
 go_wp2
 go_end0
 refine ⟨rfl, g, by simpa using hg, ⟨hb1, hb2⟩, ?_⟩
 refine Kept.trans ?_ hk
 iterate 7 (refine Kept.set_in ?_ (by rfl))
 exact Kept.refl _ _
set_option maxRecDepth 100000 in
theorem reset_h (b n : Nat) (W H : Int) (fl : Bool) (W0 H0 : Int) (fx fy px py : Nat) (hn : W * H = n) (h1 : 1 <= n) (h2 : n <= 65536) (hw : ¬ 512 < W) (hh : 512 < H) (w : World)
  (hb : Blk w b 87 (rz (.slice none 0 0) (.slice none 0 0) fl W0 H0 fx fy px py)) :
  Calls Try.prog 47 #[.pointer (some ⟨b, 0, none⟩), .int .i64 W, .int .i64 H] w fun e w' => e = .returned (.tuple #[]) /\
   ∃ g, w.heap.size <= g /\ Fresh w' b g n true W H /\ Kept (· = b) w w' := by
 obtain ⟨c0, c1, c2, c3, c4, c5, c6, c7, c8, c9⟩ := rz_cells hb
 have f3 := hb.frozen 3
 have f4 := hb.frozen 4
 have f5 := hb.frozen 5
 have f6 := hb.frozen 6
 have f7 := hb.frozen 7
 have f8 := hb.frozen 8
 have f9 := hb.frozen 9
 have hlt := hb.lt
 have HB := hid hb
 have HN := hid hn
 clear hb hn
 go_enter Try.func47, Try.ntmps47
 go_wp2_with fail
 have hB := rz_reset (W := W) (H := H) HB.out
 refine (use_make_f b n W H (.slice none 0 0) fl 0 0 0 0 HN.out h1 h2 _ hB).mono ?_
 rintro e w' ⟨rfl, g, hg, hb1, hb2, hk⟩
 go_wp2
 go_end0
 refine ⟨rfl, g, by simpa using hg, ⟨hb1, hb2⟩, ?_⟩
 refine Kept.trans ?_ hk
 iterate 7 (refine Kept.set_in ?_ (by rfl))
 exact Kept.refl _ _
set_option maxRecDepth 100000 in
theorem reset_n (b n : Nat) (W H : Int) (fl : Bool) (W0 H0 : Int) (fx fy px py : Nat) (hn : W * H = n) (h1 : 1 <= n) (h2 : n <= 65536) (hw : ¬ 512 < W) (hh : ¬ 512 < H) (w : World)
  (hb : Blk w b 87 (rz (.slice none 0 0) (.slice none 0 0) fl W0 H0 fx fy px py)) :
  Calls Try.prog 47 #[.pointer (some ⟨b, 0, none⟩), .int .i64 W, .int .i64 H] w fun e w' => e = .returned (.tuple #[]) /\
   ∃ g, w.heap.size <= g /\ Fresh w' b g n false W H /\ Kept (· = b) w w' := by
 obtain ⟨c0, c1, c2, c3, c4, c5, c6, c7, c8, c9⟩ := rz_cells hb
 have f3 := hb.frozen 3
 have f4 := hb.frozen 4
 have f5 := hb.frozen 5
 have f6 := hb.frozen 6
 have f7 := hb.frozen 7
 have f8 := hb.frozen 8
 have f9 := hb.frozen 9
 have hlt := hb.lt
 have HB := hid hb
 have HN := hid hn
 clear hb hn
 go_enter Try.func47, Try.ntmps47
 go_wp2_with fail
 have hB := rz_reset (W := W) (H := H) HB.out
 refine (use_make_u b n W H (.slice none 0 0) fl 0 0 0 0 HN.out h1 h2 _ hB).mono ?_
 rintro e w' ⟨rfl, g, hg, hb1, hb2, hk⟩
 go_wp2
 go_end0
 refine ⟨rfl, g, by simpa using hg, ⟨hb1, hb2⟩, ?_⟩
 refine Kept.trans ?_ hk
 iterate 7 (refine Kept.set_in ?_ (by rfl))
 exact Kept.refl _ _
theorem reset_new (b n : Nat) (W H : Int) (fl : Bool) (W0 H0 : Int) (fx fy px py : Nat) (hn : W * H = n) (h1 : 1 <= n) (h2 : n <= 65536) (w : World)
  (hb : Blk w b 87 (rz (.slice none 0 0) (.slice none 0 0) fl W0 H0 fx fy px py)) :
  Calls Try.prog 47 #[.pointer (some ⟨b, 0, none⟩), .int .i64 W, .int .i64 H] w fun e w' => e = .returned (.tuple #[]) /\
   ∃ g, w.heap.size <= g /\ Fresh w' b g n (decide (512 < W ∨ 512 < H)) W H /\ Kept (· = b) w w' := by
 by_cases hw : 512 < W
 ·have e : decide (512 < W ∨ 512 < H) = true := by simp [hw]
  rw [e]
  exact reset_w b n W H fl W0 H0 fx fy px py hn h1 h2 hw w hb
 ·by_cases hh : 512 < H
  ·have e : decide (512 < W ∨ 512 < H) = true := by simp [hh]
   rw [e]
   exact reset_h b n W H fl W0 H0 fx fy px py hn h1 h2 hw hh w hb
  ·have e : decide (512 < W ∨ 512 < H) = false := by simp [hw, hh]
   rw [e]
   exact reset_n b n W H fl W0 H0 fx fy px py hn h1 h2 hw hh w hb
set_option maxRecDepth 100000 in
theorem new_any (n : Nat) (W H : Int) (hn : W * H = n) (h1 : 1 <= n) (h2 : n <= 65536) (w : World) :
  Calls Try.prog 36 #[.int .i64 W, .int .i64 H] w fun e w' => ∃ b g, e = .returned (.pointer (some ⟨b, 0, none⟩)) /\ w.heap.size <= b /\ w.heap.size <= g /\ Fresh w' b g n (decide (512 < W ∨ 512 < H)) W H /\ Same w w' := by
 have HN := hid hn
 clear hn
 go_enter Try.func36, Try.ntmps36
 go_wp2_with fail
 refine (reset_new w.heap.size n W H false 0 0 0 0 0 0 HN.out h1 h2 _ (Blk.new w 87 (rz (.slice none 0 0) (.slice none 0 0) false 0 0 0 0 0 0))).mono ?_
 rintro e w' ⟨rfl, g, hg, hf, hk⟩
 have HF := hid hf
 clear hf
 go_wp2
 go_ret
 have hg' : w.heap.size + 1 <= g := by simpa using hg
 refine ⟨_, g, rfl, Nat.le_refl _, by omega, HF.out, ?_⟩
 have := ((Kept.refl (· = w.heap.size) w).alloc _).trans hk
 exact this.mono fun k hlt he => absurd he (Nat.ne_of_lt hlt)
def firstLoop : Code -> Option Code
 | .loop c => some c
 | .seq a b => match firstLoop a with
  | some c => some c
  | none => firstLoop b
 | .block _ c => firstLoop c
 | .scope c => firstLoop c
 | .cond _ a b => match firstLoop a with
  | some c => some c
  | none => firstLoop b
 | _ => none
set_option linter.unusedVariables false
theorem exists_frame (a : Act) (F : (Nat -> Value) -> Act) (h : a = F (fun i => a.tmps.getD i undef)) : ∃ f, a = F f := ⟨_, h⟩
end Go.Proofs.Ytmgcbodlolnheaa
namespace Go.Proofs.Ytmgcbodlolnheaa
open Go.ChangeShapes Go.WideShapes Go.ChangeAt Go.RowKit
set_option linter.unusedVariables false
noncomputable def body58 : Code := (Try.f58.body.bind firstLoop).getD .skip
set_option maxHeartbeats 8000000 in
set_option maxRecDepth 100000 in
theorem frow_narrow (K : Act -> World -> Prop) (Q0 : Exit -> Act -> World -> Prop) (b g n Y W dxdy dir ay ey x : Nat) (yM : Int) (ws : World) (c1 c3 c4 c5 c6 u14 u15 u16 u17 u18 u19 u20 u21 u22 u23 u24 u25 u26 u27 u28 u29 u30 u31 u32 u33 u34 u35 u36 u37 u38 u39 u40 u41 u42 c43 c44 c45 c46 c47 c48 c49 c50 c51 c52 c53 c54 c55 c56 c57 c58 c59 c60 c61 c62 c63 c64 c65 c66 c67 c68 c69 c70 c71 c72 c73 c74 c75 c76 c77 c78 c79 c80 c81 c82 c83 c84 c85 c86 c87 c88 c89 c90 c91 c92 c93 c94 c95 c96 c97 c98 c99 c100 c101 u102 u103 u104 u105 u106 u107 u108 u109 u110 u111 u112 u113 u114 u115 u116 u117 u118 u119 u120 u121 u122 u123 u124 u125 u126 u127 u128 u129 u130 u131 u132 u133 u134 u135 u136 u137 u138 u139 u140 u141 u142 u143 u144 u145 u146 u147 u148 u149 u150 u151 u152 u153 u154 u155 u156 u157 u158 u159 u160 u161 u162 u163 u164 u165 u166 u167 u168 u169 u170 u171 u172 u173 u174 u175 u176 u177 u178 u179 u180 u181 u182 u183 u184 u185 u186 u187 u188 u189 u190 u191 u192 u193 u194 u195 u196 u197 u198 u199 u200 u201 u202 u203 u204 u205 u206 u207 u208 u209 u210 u211 u212 u213 u214 u215 u216 u217 u218 u219 u220 u221 u222 u223 u224 u225 u226 u227 u228 u229 u230 u231 u232 u233 u234 u235 u236 u237 u238 u239 u240 u241 u242 u243 u244 u245 u246 u247 u248 u249 u250 u251 u252 u253 u254 u255 u256 u257 u258 u259 u260 u261 u262 u263 u264 u265 u266 u267 u268 u269 u270 u271 u272 u273 u274 u275 u276 u277 u278 u279 u280 u281 u282 u283 u284 u285 u286 u287 u288 u289 u290 u291 u292 u293 u294 u295 u296 u297 u298 u299 u300 u301 u302 u303 u304 u305 u306 u307 u308 u309 u310 u311 u312 u313 u314 u315 u316 u317 u318 u319 u320 u321 u322 u323 u324 u325 u326 u327 u328 u329 u330 u331 u332 u333 u334 u335 u336 u337 u338 u339 u340 u341 u342 u343 u344 u345 u346 u347 u348 u349 u350 u351 u352 u353 u354 u355 u356 u357 u358 u359 u360 u361 u362 u363 : Value)
 (l : List Nat) (rest : List Value) (hl : l.length = n)
 (c1' : ws.cell? ⟨b, 0, none⟩ = some (.slice (some ⟨g, 0, none⟩) n (n + rest.length))) (hyM : (Y : Int) < yM)
 (hbg : Blk ws g 72 (fbufCells l rest))
 (hY : Y <= 2000) (hW : W <= 2000) (dy xn d : Nat)
 (hdy : (fop .sub (fmin (floatOfInt .f32 ((Y : Int) + 1)) ey) (fmax (floatOfInt .f32 (Y : Int)) ay)) = dy) (q1 : Fok .sub (fmin (floatOfInt .f32 ((Y : Int) + 1)) ey) (fmax (floatOfInt .f32 (Y : Int)) ay))
 (q2 : Fok .mul dy dxdy) (q3 : Fok .add x (fop .mul dy dxdy)) (q4 : Fok .mul dy dir)
 (hxn : fop .add x (fop .mul dy dxdy) = xn) (hd : fop .mul dy dir = d)
 (hm0 : 0 <= (Y : Int) * W) (hm1 : (Y : Int) * W + W <= n) (hn : n <= 100000) (hcap2 : n + rest.length <= 100000) (hW1 : 1 <= W)
 (lo hi : Nat) (HLO : Hid (lo = if fgt x xn = true then xn else x)) (HHI : Hid (hi = if fgt x xn = true then x else xn))
 (p1 : FlOk lo) (p2 : CeOk hi) (b1 : -1000000000 <= ffl lo) (b1' : ffl lo <= 1000000000) (b2 : -1000000000 <= fce hi) (b2' : fce hi <= 1000000000)
 (hcase : fce hi <= ffl lo + 1)
  (r0 : Fok .add x xn) (r1 : Fok .mul 1056964608 (fop .add x xn)) (r2 : Fok .sub (fop .mul 1056964608 (fop .add x xn)) (floatOfInt .f32 (ffl lo))) (r3 : Fok .mul d (fop .sub (fop .mul 1056964608 (fop .add x xn)) (floatOfInt .f32 (ffl lo)))) (r4 : Fok .sub d (fop .mul d (fop .sub (fop .mul 1056964608 (fop .add x xn)) (floatOfInt .f32 (ffl lo)))))
 (hadds : FaddsOk [((Y * W + clampN (ffl lo) W), (fop .sub d (fop .mul d (fop .sub (fop .mul 1056964608 (fop .add x xn)) (floatOfInt .f32 (ffl lo)))))), ((Y * W + clampN (ffl lo + 1) W), (fop .mul d (fop .sub (fop .mul 1056964608 (fop .add x xn)) (floatOfInt .f32 (ffl lo)))))] l)
 (hK : ∀ a' w', (∃ f : Nat -> Value, a' = ⟨#[.pointer (some ⟨b, 0, none⟩), c1, .float .f32 ey, c3, c4, c5, c6, .float .f32 ay, .float .f32 dir, .float .f32 dxdy, .float .f32 xn, .int .i32 (↑Y + 1), .int .i32 yM, .int .i32 ↑W, (f 14), (f 15), (f 16), (f 17), (f 18), (f 19), (f 20), (f 21), (f 22), (f 23), (f 24), (f 25), (f 26), (f 27), (f 28), (f 29), (f 30), (f 31), (f 32), (f 33), (f 34), (f 35), (f 36), (f 37), (f 38), (f 39), (f 40), (f 41), (f 42), c43, c44, c45, c46, c47, c48, c49, c50, c51, c52, c53, c54, c55, c56, c57, c58, c59, c60, c61, c62, c63, c64, c65, c66, c67, c68, c69, c70, c71, c72, c73, c74, c75, c76, c77, c78, c79, c80, c81, c82, c83, c84, c85, c86, c87, c88, c89, c90, c91, c92, c93, c94, c95, c96, c97, c98, c99, c100, c101, (f 102), (f 103), (f 104), (f 105), (f 106), (f 107), (f 108), (f 109), (f 110), (f 111), (f 112), (f 113), (f 114), (f 115), (f 116), (f 117), (f 118), (f 119), (f 120), (f 121), (f 122), (f 123), (f 124), (f 125), (f 126), (f 127), (f 128), (f 129), (f 130), (f 131), (f 132), (f 133), (f 134), (f 135), (f 136), (f 137), (f 138), (f 139), (f 140), (f 141), (f 142), (f 143), (f 144), (f 145), (f 146), (f 147), (f 148), (f 149), (f 150), (f 151), (f 152), (f 153), (f 154), (f 155), (f 156), (f 157), (f 158), (f 159), (f 160), (f 161), (f 162), (f 163), (f 164), (f 165), (f 166), (f 167), (f 168), (f 169), (f 170), (f 171), (f 172), (f 173), (f 174), (f 175), (f 176), (f 177), (f 178), (f 179), (f 180), (f 181), (f 182), (f 183), (f 184), (f 185), (f 186), (f 187), (f 188), (f 189), (f 190), (f 191), (f 192), (f 193), (f 194), (f 195), (f 196), (f 197), (f 198), (f 199), (f 200), (f 201), (f 202), (f 203), (f 204), (f 205), (f 206), (f 207), (f 208), (f 209), (f 210), (f 211), (f 212), (f 213), (f 214), (f 215), (f 216), (f 217), (f 218), (f 219), (f 220), (f 221), (f 222), (f 223), (f 224), (f 225), (f 226), (f 227), (f 228), (f 229), (f 230), (f 231), (f 232), (f 233), (f 234), (f 235), (f 236), (f 237), (f 238), (f 239), (f 240), (f 241), (f 242), (f 243), (f 244), (f 245), (f 246), (f 247), (f 248), (f 249), (f 250), (f 251), (f 252), (f 253), (f 254), (f 255), (f 256), (f 257), (f 258), (f 259), (f 260), (f 261), (f 262), (f 263), (f 264), (f 265), (f 266), (f 267), (f 268), (f 269), (f 270), (f 271), (f 272), (f 273), (f 274), (f 275), (f 276), (f 277), (f 278), (f 279), (f 280), (f 281), (f 282), (f 283), (f 284), (f 285), (f 286), (f 287), (f 288), (f 289), (f 290), (f 291), (f 292), (f 293), (f 294), (f 295), (f 296), (f 297), (f 298), (f 299), (f 300), (f 301), (f 302), (f 303), (f 304), (f 305), (f 306), (f 307), (f 308), (f 309), (f 310), (f 311), (f 312), (f 313), (f 314), (f 315), (f 316), (f 317), (f 318), (f 319), (f 320), (f 321), (f 322), (f 323), (f 324), (f 325), (f 326), (f 327), (f 328), (f 329), (f 330), (f 331), (f 332), (f 333), (f 334), (f 335), (f 336), (f 337), (f 338), (f 339), (f 340), (f 341), (f 342), (f 343), (f 344), (f 345), (f 346), (f 347), (f 348), (f 349), (f 350), (f 351), (f 352), (f 353), (f 354), (f 355), (f 356), (f 357), (f 358), (f 359), (f 360), (f 361), (f 362), (f 363)], []⟩) -> Blk w' g 72 (fbufCells (fadds [((Y * W + clampN (ffl lo) W), (fop .sub d (fop .mul d (fop .sub (fop .mul 1056964608 (fop .add x xn)) (floatOfInt .f32 (ffl lo)))))), ((Y * W + clampN (ffl lo + 1) W), (fop .mul d (fop .sub (fop .mul 1056964608 (fop .add x xn)) (floatOfInt .f32 (ffl lo)))))] l) rest) -> Kept (· = g) ws w' -> K a' w') :
 Code.wp Try.prog body58 (Exit.then K Q0) ⟨#[.pointer (some ⟨b, 0, none⟩), c1, .float .f32 ey, c3, c4, c5, c6, .float .f32 ay, .float .f32 dir, .float .f32 dxdy, .float .f32 x, .int .i32 ↑Y, .int .i32 yM, .int .i32 ↑W, u14, u15, u16, u17, u18, u19, u20, u21, u22, u23, u24, u25, u26, u27, u28, u29, u30, u31, u32, u33, u34, u35, u36, u37, u38, u39, u40, u41, u42, c43, c44, c45, c46, c47, c48, c49, c50, c51, c52, c53, c54, c55, c56, c57, c58, c59, c60, c61, c62, c63, c64, c65, c66, c67, c68, c69, c70, c71, c72, c73, c74, c75, c76, c77, c78, c79, c80, c81, c82, c83, c84, c85, c86, c87, c88, c89, c90, c91, c92, c93, c94, c95, c96, c97, c98, c99, c100, c101, u102, u103, u104, u105, u106, u107, u108, u109, u110, u111, u112, u113, u114, u115, u116, u117, u118, u119, u120, u121, u122, u123, u124, u125, u126, u127, u128, u129, u130, u131, u132, u133, u134, u135, u136, u137, u138, u139, u140, u141, u142, u143, u144, u145, u146, u147, u148, u149, u150, u151, u152, u153, u154, u155, u156, u157, u158, u159, u160, u161, u162, u163, u164, u165, u166, u167, u168, u169, u170, u171, u172, u173, u174, u175, u176, u177, u178, u179, u180, u181, u182, u183, u184, u185, u186, u187, u188, u189, u190, u191, u192, u193, u194, u195, u196, u197, u198, u199, u200, u201, u202, u203, u204, u205, u206, u207, u208, u209, u210, u211, u212, u213, u214, u215, u216, u217, u218, u219, u220, u221, u222, u223, u224, u225, u226, u227, u228, u229, u230, u231, u232, u233, u234, u235, u236, u237, u238, u239, u240, u241, u242, u243, u244, u245, u246, u247, u248, u249, u250, u251, u252, u253, u254, u255, u256, u257, u258, u259, u260, u261, u262, u263, u264, u265, u266, u267, u268, u269, u270, u271, u272, u273, u274, u275, u276, u277, u278, u279, u280, u281, u282, u283, u284, u285, u286, u287, u288, u289, u290, u291, u292, u293, u294, u295, u296, u297, u298, u299, u300, u301, u302, u303, u304, u305, u306, u307, u308, u309, u310, u311, u312, u313, u314, u315, u316, u317, u318, u319, u320, u321, u322, u323, u324, u325, u326, u327, u328, u329, u330, u331, u332, u333, u334, u335, u336, u337, u338, u339, u340, u341, u342, u343, u344, u345, u346, u347, u348, u349, u350, u351, u352, u353, u354, u355, u356, u357, u358, u359, u360, u361, u362, u363], []⟩ ws := by
 have HL := hid hl
 have HB := hid hbg
 have HK := hid (Kept.refl (· = g) ws)
 have HOK := hid hadds
 clear hl hbg hadds
 conv => arg 2; whnf
 go_upto_region 22 with (first | (go_at_call 65; refine (fmin_any _ _ _).mono ?_; rintro e w' ⟨rfl, rfl⟩) | (go_at_call 66; refine (fmax_any _ _ _).mono ?_; rintro e w' ⟨rfl, rfl⟩) | (go_at_call 63; refine (ffl_any _ (by assumption) _).mono ?_; rintro e w' ⟨rfl, rfl⟩) | (go_at_call 64; refine (fce_any _ (by assumption) _).mono ?_; rintro e w' ⟨rfl, rfl⟩) | (go_at_call 67; refine (clamp_any _ _ (by omega) (by omega) _).mono ?_; rintro e w' ⟨rfl, rfl⟩))
 go_upto_if 140 with fail
 go_cut [18, 19] from 141 to 142 (fun s18 s19 wx => s18 = .float .f32 lo /\ s19 = .float .f32 hi /\ ws = wx)
 case first =>
  go_wp2_with fail
  all_goals go_meet
  ·have hq : fgt x xn = true := ‹(FloatKind.f32.format.order x xn == some Ordering.gt) = true›
   exact ⟨by rw [HLO.out, if_pos hq], by rw [HHI.out, if_pos hq], rfl⟩
  ·have hq : ¬ fgt x xn = true := Bool.eq_false_iff.1 ‹(FloatKind.f32.format.order x xn == some Ordering.gt) = false›
   exact ⟨by rw [HLO.out, if_neg hq], by rw [HHI.out, if_neg hq], rfl⟩
 case rest =>
  obtain ⟨rfl, rfl, rfl⟩ := hcut
  have o0 := HOK.out.1
  have o1 := HOK.out.2.1
  have O0 := hid o0
  have O1 := hid o1
  clear o0 o1
  go_upto_if 169 with (first | (go_at_call 65; refine (fmin_any _ _ _).mono ?_; rintro e w' ⟨rfl, rfl⟩) | (go_at_call 66; refine (fmax_any _ _ _).mono ?_; rintro e w' ⟨rfl, rfl⟩) | (go_at_call 63; refine (ffl_any _ (by assumption) _).mono ?_; rintro e w' ⟨rfl, rfl⟩) | (go_at_call 64; refine (fce_any _ (by assumption) _).mono ?_; rintro e w' ⟨rfl, rfl⟩) | (go_at_call 67; refine (clamp_any _ _ (by omega) (by omega) _).mono ?_; rintro e w' ⟨rfl, rfl⟩))
  go_cut [] from 170 to 180 (fun wx => Blk wx g 72 (fbufCells (fbump l (Y * W + clampN (ffl lo) W) (fop .sub d (fop .mul d (fop .sub (fop .mul 1056964608 (fop .add x xn)) (floatOfInt .f32 (ffl lo)))))) rest) /\ Kept (· = g) ws wx)
  case first =>
   by_cases ht : clampN (ffl lo) W < n - Y * W
   ·have hk : (Y * W + clampN (ffl lo) W) < (l).length := by have := HL.out; skip; omega
    have hc := fbuf_cell HB.out hk
    have hf := HB.out.frozen (Y * W + clampN (ffl lo) W)
    have ho : Fok .add (fAt l (Y * W + clampN (ffl lo) W)) (fop .sub d (fop .mul d (fop .sub (fop .mul 1056964608 (fop .add x xn)) (floatOfInt .f32 (ffl lo))))) := (O0.out) hk
    go_wp2_with fail
    go_meet
    exact ⟨fbuf_bump HB.out hk _, HK.out.set_in (by rfl)⟩
   ·have ht' : decide (clampN (ffl lo) W < n - Y * W) = false := by simpa using ht
    go_wp2_with fail
    go_meet
    exact ⟨by rw [fbump_out _ _ _ (by have := HL.out; skip; omega)]; exact HB.out, HK.out⟩
  case rest =>
   obtain ⟨hb1, hk1⟩ := hcut
   clear HK HB
   have HB1 := hid hb1
   have HK := hid hk1
   clear hb1 hk1
   go_upto_if 189 with (first | (go_at_call 65; refine (fmin_any _ _ _).mono ?_; rintro e w' ⟨rfl, rfl⟩) | (go_at_call 66; refine (fmax_any _ _ _).mono ?_; rintro e w' ⟨rfl, rfl⟩) | (go_at_call 63; refine (ffl_any _ (by assumption) _).mono ?_; rintro e w' ⟨rfl, rfl⟩) | (go_at_call 64; refine (fce_any _ (by assumption) _).mono ?_; rintro e w' ⟨rfl, rfl⟩) | (go_at_call 67; refine (clamp_any _ _ (by omega) (by omega) _).mono ?_; rintro e w' ⟨rfl, rfl⟩))
   go_cut [] from 190 to 198 (fun wx => Blk wx g 72 (fbufCells (fbump (fbump l (Y * W + clampN (ffl lo) W) (fop .sub d (fop .mul d (fop .sub (fop .mul 1056964608 (fop .add x xn)) (floatOfInt .f32 (ffl lo)))))) (Y * W + clampN (ffl lo + 1) W) (fop .mul d (fop .sub (fop .mul 1056964608 (fop .add x xn)) (floatOfInt .f32 (ffl lo))))) rest) /\ Kept (· = g) ws wx)
   case first =>
    by_cases ht : clampN (ffl lo + 1) W < n - Y * W
    ·have hk : (Y * W + clampN (ffl lo + 1) W) < ((fbump l (Y * W + clampN (ffl lo) W) (fop .sub d (fop .mul d (fop .sub (fop .mul 1056964608 (fop .add x xn)) (floatOfInt .f32 (ffl lo))))))).length := by have := HL.out; simp only [length_fbump]; omega
     have hc := fbuf_cell HB1.out hk
     have hf := HB1.out.frozen (Y * W + clampN (ffl lo + 1) W)
     have ho : Fok .add (fAt (fbump l (Y * W + clampN (ffl lo) W) (fop .sub d (fop .mul d (fop .sub (fop .mul 1056964608 (fop .add x xn)) (floatOfInt .f32 (ffl lo)))))) (Y * W + clampN (ffl lo + 1) W)) (fop .mul d (fop .sub (fop .mul 1056964608 (fop .add x xn)) (floatOfInt .f32 (ffl lo)))) := (O1.out) hk
     go_wp2_with fail
     go_meet
     exact ⟨fbuf_bump HB1.out hk _, HK.out.set_in (by rfl)⟩
    ·have ht' : decide (clampN (ffl lo + 1) W < n - Y * W) = false := by simpa using ht
     go_wp2_with fail
     go_meet
     exact ⟨by rw [fbump_out _ _ _ (by have := HL.out; simp only [length_fbump]; omega)]; exact HB1.out, HK.out⟩
   case rest =>
    obtain ⟨hb1, hk1⟩ := hcut
    clear HK HB1
    have HB3 := hid hb1
    have HK := hid hk1
    clear hb1 hk1
    go_wp2_with fail
    refine hK _ _ (exists_frame _ _ rfl) ?_ HK.out
    have hb := HB3.out
    exact hb
end Go.Proofs.Ytmgcbodlolnheaa
