/-
  Contracts of the rasterizer's small helpers: clamp, fixedFloor, fixedCeil, fixedMin, fixedMax; float32 operations as plain functions.
-/
import Derived.Test.YtmgcbodlolnheaaZBase
namespace Go.Proofs.Ytmgcbodlolnheaa
open Go.ChangeShapes Go.WideShapes Go.ChangeAt Go.RowKit

theorem fixedFloor_any (x : Int) (w : World) :
    Calls Try.prog 68 #[.int .i32 x] w fun e w' => e = .returned (.int .i32 (x / 512)) ∧ w = w' := by
  go_enter Try.func68, Try.ntmps68
  go_wp2
  go_ret
  exact ⟨rfl, rfl⟩
theorem fixedCeil_any (x : Int) (w : World) (h : -2147483648 ≤ x) (h' : x ≤ 2147483000) :
    Calls Try.prog 69 #[.int .i32 x] w fun e w' => e = .returned (.int .i32 ((x + 511) / 512)) ∧ w = w' := by
  go_enter Try.func69, Try.ntmps69
  go_wp2
  go_ret
  exact ⟨rfl, rfl⟩
/-- The smaller, the greater of two numbers. -/
def imin (x y : Int) : Int := if x < y then x else y
def imax (x y : Int) : Int := if y < x then x else y
theorem fixedMin_any (x y : Int) (w : World) :
    Calls Try.prog 70 #[.int .i32 x, .int .i32 y] w fun e w' => e = .returned (.int .i32 (imin x y)) ∧ w = w' := by
  by_cases h : x < y
  · have e : imin x y = x := by simp [imin, h]
    rw [e]
    clear e
    go_enter Try.func70, Try.ntmps70
    go_wp2
    go_ret
    exact ⟨rfl, rfl⟩
  · have e : imin x y = y := by simp [imin, h]
    rw [e]
    clear e
    go_enter Try.func70, Try.ntmps70
    go_wp2
    go_ret
    exact ⟨rfl, rfl⟩
theorem fixedMax_any (x y : Int) (w : World) :
    Calls Try.prog 71 #[.int .i32 x, .int .i32 y] w fun e w' => e = .returned (.int .i32 (imax x y)) ∧ w = w' := by
  by_cases h : y < x
  · have e : imax x y = x := by simp [imax, h]
    rw [e]
    clear e
    go_enter Try.func71, Try.ntmps71
    go_wp2
    go_ret
    exact ⟨rfl, rfl⟩
  · have e : imax x y = y := by simp [imax, h]
    rw [e]
    clear e
    go_enter Try.func71, Try.ntmps71
    go_wp2
    go_ret
    exact ⟨rfl, rfl⟩
/-- A place, held within a row. -/
def clampN (x : Int) (W : Nat) : Nat := if x < 0 then 0 else if x < W then x.toNat else W
theorem clampN_le (x : Int) (W : Nat) : clampN x W ≤ W := by
  unfold clampN
  split
  · omega
  · split <;> omega
theorem clamp_any (x : Int) (W : Nat) (hx : x ≤ 2147483647) (hW : W ≤ 2147483647) (w : World) :
    Calls Try.prog 67 #[.int .i32 x, .int .i32 (W : Int)] w fun e w' => e = .returned (.int .u64 (clampN x W : Nat)) ∧ w = w' := by
  by_cases h : x < 0
  · have e : clampN x W = 0 := by simp [clampN, h]
    rw [e]
    clear e
    go_enter Try.func67, Try.ntmps67
    go_wp2
    go_ret
    exact ⟨rfl, rfl⟩
  · by_cases h2 : x < W
    · have e : ((clampN x W : Nat) : Int) = x := by simp [clampN, h, h2]; omega
      rw [e]
      clear e
      go_enter Try.func67, Try.ntmps67
      go_wp2
      go_ret
      exact ⟨rfl, rfl⟩
    · have e : clampN x W = W := by simp [clampN, h, h2]
      rw [e]
      clear e
      go_enter Try.func67, Try.ntmps67
      go_wp2
      go_ret
      exact ⟨rfl, rfl⟩

/-! float32 as plain functions -/
/-- The operation has an answer by IEEE 754. -/
def Fok (op : BinOp) (a b : Nat) : Prop := (floatBits op .f32 a b).isSome = true
def fop (op : BinOp) (a b : Nat) : Nat := (floatBits op .f32 a b).getD 0
theorem Fok.eq {op : BinOp} {a b : Nat} (h : Fok op a b) : floatBits op .f32 a b = some (fop op a b) := by
  unfold Fok at h
  unfold fop
  cases hh : floatBits op .f32 a b with
  | none => rw [hh] at h; cases h
  | some r => rfl
section
variable {P : Program} (w : World)
theorem run_fop {op : BinOp} {a b : Nat} (t : TypeId) (h : Fok op a b) : (binOp op t (.float .f32 a) (.float .f32 b)).run P w = .ok (.float .f32 (fop op a b)) w :=
  run_float_arith w op t .f32 a b _ h.eq
@[go_sem] theorem run_fadd {a b : Nat} (t : TypeId) (h : Fok .add a b) : (binOp .add t (.float .f32 a) (.float .f32 b)).run P w = .ok (.float .f32 (fop .add a b)) w := run_fop w t h
@[go_sem] theorem run_fsub {a b : Nat} (t : TypeId) (h : Fok .sub a b) : (binOp .sub t (.float .f32 a) (.float .f32 b)).run P w = .ok (.float .f32 (fop .sub a b)) w := run_fop w t h
@[go_sem] theorem run_fmul {a b : Nat} (t : TypeId) (h : Fok .mul a b) : (binOp .mul t (.float .f32 a) (.float .f32 b)).run P w = .ok (.float .f32 (fop .mul a b)) w := run_fop w t h
@[go_sem] theorem run_fquo {a b : Nat} (t : TypeId) (h : Fok .quo a b) : (binOp .quo t (.float .f32 a) (.float .f32 b)).run P w = .ok (.float .f32 (fop .quo a b)) w := run_fop w t h

/-- The float32 cut towards zero is a number of int32. -/
def Iok (a : Nat) : Prop := (floatToIntVal .f32 a .i32).isSome = true
def fint (a : Nat) : Int := (floatToIntVal .f32 a .i32).getD 0
@[go_sem] theorem run_fint {a : Nat} (src dst : TypeId) (hs : (P.underlying src).isSome = true) (hd : P.underlying dst = some (.int .i32)) (h : Iok a) :
    (convert src dst (.float .f32 a)).run P w = .ok (.int .i32 (fint a)) w := by
  refine run_convert_float_int w src dst .f32 .i32 a _ hs hd ?_
  unfold Iok at h
  unfold fint
  cases hh : floatToIntVal .f32 a .i32 with
  | none => rw [hh] at h; cases h
  | some r => rfl
end
/-- Is one float32 greater than another one, at most as great? -/
def fgt (a b : Nat) : Bool := FloatKind.f32.format.order a b == some .gt
def flt (a b : Nat) : Bool := FloatKind.f32.format.order a b == some .lt
def fle (a b : Nat) : Bool := FloatKind.f32.format.order a b == some .lt || FloatKind.f32.format.order a b == some .eq
@[go_sem ↓] theorem binOp_f32_gtr (t : TypeId) (a b : Nat) : binOp .gtr t (.float .f32 a) (.float .f32 b) = pure (.bool (fgt a b)) := binOp_float_cmp_gtr t .f32 a b
@[go_sem ↓] theorem binOp_f32_lss (t : TypeId) (a b : Nat) : binOp .lss t (.float .f32 a) (.float .f32 b) = pure (.bool (flt a b)) := binOp_float_cmp_lss t .f32 a b
@[go_sem ↓] theorem binOp_f32_leq (t : TypeId) (a b : Nat) : binOp .leq t (.float .f32 a) (.float .f32 b) = pure (.bool (fle a b)) := binOp_float_cmp_leq t .f32 a b
end Go.Proofs.Ytmgcbodlolnheaa
