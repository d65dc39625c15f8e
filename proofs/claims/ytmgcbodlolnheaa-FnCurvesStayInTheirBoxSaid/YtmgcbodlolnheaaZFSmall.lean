/-
  Contracts of the small helpers in floating point: floatingFloor, floatingCeil, floatingMin, floatingMax, math.Floor, math.Ceil.
-/
import Derived.Test.YtmgcbodlolnheaaZSmall
namespace Go.Proofs.Ytmgcbodlolnheaa
open Go.ChangeShapes Go.WideShapes Go.ChangeAt Go.RowKit

theorem find75 : Extern.find Try.f75 = some (Extern.MathFloor.toIntegral "math.archFloor" .down) := by kernel_rfl
theorem find77 : Extern.find Try.f77 = some (Extern.MathFloor.toIntegral "math.archCeil" .up) := by kernel_rfl
theorem find72 : Extern.find Try.f72 = some Extern.MathSqrt.sqrt := by kernel_rfl
theorem next75 : Extern.findNext Try.f75 = none := by kernel_rfl
theorem next77 : Extern.findNext Try.f77 = none := by kernel_rfl
theorem next72 : Extern.findNext Try.f72 = none := by kernel_rfl
theorem body75 : Try.f75.body.isNone = true := by kernel_rfl
theorem body77 : Try.f77.body.isNone = true := by kernel_rfl
theorem body72 : Try.f72.body.isNone = true := by kernel_rfl

/-- Not a NaN. -/
def Num64 (x : Nat) : Prop := (FloatKind.f64.decode x).isNaN = false
def fl64 (x : Nat) : Nat := FloatKind.f64.encode ((FloatKind.f64.decode x).integral .down)
def ce64 (x : Nat) : Nat := FloatKind.f64.encode ((FloatKind.f64.decode x).integral .up)
def cutOf (way : Ieee.Toward) (x : Nat) (d : Ieee.Datum) : Sem Value :=
  match d with
  | .nan s t =>
    if FloatKind.f64.format.quiet t = t then pure (.float .f64 x) else do
    let kept ← choose (.extern "math.Floor,Ceil,Trunc,RoundToEven.signallingNaN kept" 2)
    pure (.float .f64 (if kept == 1 then x else FloatKind.f64.encode (.nan s (FloatKind.f64.format.quiet t))))
  | d => pure (.float .f64 (FloatKind.f64.encode (d.integral way)))
theorem run_toIntegral {P : Program} (nm : String) (way : Ieee.Toward) (x : Nat) (h : Num64 x) (w : World) :
    (Extern.MathFloor.toIntegral nm way #[.float .f64 x]).run P w = .ok (.float .f64 (FloatKind.f64.encode ((FloatKind.f64.decode x).integral way))) w := by
  have e : Extern.MathFloor.toIntegral nm way #[.float .f64 x] = cutOf way x (FloatKind.f64.decode x) := rfl
  rw [e]
  unfold Num64 at h
  revert h
  cases FloatKind.f64.decode x with
  | nan s t => intro h; cases h
  | infinity s => intro _; rfl
  | number s m e => intro _; rfl
theorem run_floor (x : Nat) (h : Num64 x) (w : World) : (callFunc 75 #[.float .f64 x]).run Try.prog w = .ok (.value (.float .f64 (fl64 x))) w := by
  rw [run_callFunc_extern Try.func75 (by kernel_rfl) body75 next75 find75, run_toIntegral _ _ _ h]
  rfl
theorem run_ceil (x : Nat) (h : Num64 x) (w : World) : (callFunc 77 #[.float .f64 x]).run Try.prog w = .ok (.value (.float .f64 (ce64 x))) w := by
  rw [run_callFunc_extern Try.func77 (by kernel_rfl) body77 next77 find77, run_toIntegral _ _ _ h]
  rfl
theorem floor64_any (x : Nat) (h : Num64 x) (w : World) :
    Calls Try.prog 73 #[.float .f64 x] w fun e w' => e = .returned (.float .f64 (fl64 x)) ∧ w = w' := by
  have hr := run_floor x h
  go_enter Try.func73, Try.ntmps73
  go_wp2
  go_ret
  exact ⟨rfl, rfl⟩
theorem ceil64_any (x : Nat) (h : Num64 x) (w : World) :
    Calls Try.prog 74 #[.float .f64 x] w fun e w' => e = .returned (.float .f64 (ce64 x)) ∧ w = w' := by
  have hr := run_ceil x h
  go_enter Try.func74, Try.ntmps74
  go_wp2
  go_ret
  exact ⟨rfl, rfl⟩
/-- float64 of a float32 -/
def wide (a : Nat) : Nat := FloatKind.f64.encode (FloatKind.f32.decode a)
def Num32 (a : Nat) : Prop := ∃ s m e, FloatKind.f32.decode a = .number s m e ∧ (FloatKind.f64.decode (wide a)).isInfinity = false
theorem run_wide {P : Program} {a : Nat} (src dst : TypeId) (hs : (P.underlying src).isSome = true) (hd : P.underlying dst = some (.float .f64)) (h : Num32 a) (w : World) :
    (convert src dst (.float .f32 a)).run P w = .ok (.float .f64 (wide a)) w := by
  obtain ⟨s, m, e, h1, h2⟩ := h
  refine run_convert_float_float w src dst .f32 .f64 a _ hs hd ?_
  unfold wide at h2 ⊢
  unfold floatToFloatBits
  rw [h1] at h2 ⊢
  rw [if_neg (by decide)]
  simp only
  rw [if_neg (by rw [h2]; decide)]
/-- The float64 as an int32. -/
def Iok64 (a : Nat) : Prop := (floatToIntVal .f64 a .i32).isSome = true
def int64to32 (a : Nat) : Int := (floatToIntVal .f64 a .i32).getD 0
theorem run_int64to32 {P : Program} {a : Nat} (src dst : TypeId) (hs : (P.underlying src).isSome = true) (hd : P.underlying dst = some (.int .i32)) (h : Iok64 a) (w : World) :
    (convert src dst (.float .f64 a)).run P w = .ok (.int .i32 (int64to32 a)) w := by
  refine run_convert_float_int w src dst .f64 .i32 a _ hs hd ?_
  unfold Iok64 at h
  unfold int64to32
  cases hh : floatToIntVal .f64 a .i32 with
  | none => rw [hh] at h; cases h
  | some r => rfl
/-- 'floatingFloor', 'floatingCeil' -/
def ffl (a : Nat) : Int := int64to32 (fl64 (wide a))
def fce (a : Nat) : Int := int64to32 (ce64 (wide a))
def FlOk (a : Nat) : Prop := Num32 a ∧ Num64 (wide a) ∧ Iok64 (fl64 (wide a))
def CeOk (a : Nat) : Prop := Num32 a ∧ Num64 (wide a) ∧ Iok64 (ce64 (wide a))
theorem ffl_any (a : Nat) (h : FlOk a) (w : World) :
    Calls Try.prog 63 #[.float .f32 a] w fun e w' => e = .returned (.int .i32 (ffl a)) ∧ w = w' := by
  obtain ⟨h1, h2, h3⟩ := h
  have e1 := fun w => run_wide (P := Try.prog) 72 51 (by kernel_rfl) Try.underlying51 h1 w
  have e2 := fun w => run_int64to32 (P := Try.prog) 51 21 (by kernel_rfl) Try.underlying21 h3 w
  go_enter Try.func63, Try.ntmps63
  go_wp2_with (go_at_call 73; refine (floor64_any _ h2 _).mono ?_; rintro e w' ⟨rfl, rfl⟩)
  go_ret
  exact ⟨rfl, rfl⟩
theorem fce_any (a : Nat) (h : CeOk a) (w : World) :
    Calls Try.prog 64 #[.float .f32 a] w fun e w' => e = .returned (.int .i32 (fce a)) ∧ w = w' := by
  obtain ⟨h1, h2, h3⟩ := h
  have e1 := fun w => run_wide (P := Try.prog) 72 51 (by kernel_rfl) Try.underlying51 h1 w
  have e2 := fun w => run_int64to32 (P := Try.prog) 51 21 (by kernel_rfl) Try.underlying21 h3 w
  go_enter Try.func64, Try.ntmps64
  go_wp2_with (go_at_call 74; refine (ceil64_any _ h2 _).mono ?_; rintro e w' ⟨rfl, rfl⟩)
  go_ret
  exact ⟨rfl, rfl⟩
/-- 'floatingMin', 'floatingMax' -/
def fmin (a b : Nat) : Nat := if flt a b = true then a else b
def fmax (a b : Nat) : Nat := if fgt a b = true then a else b
theorem fmin_any (a b : Nat) (w : World) :
    Calls Try.prog 65 #[.float .f32 a, .float .f32 b] w fun e w' => e = .returned (.float .f32 (fmin a b)) ∧ w = w' := by
  by_cases h : flt a b = true
  · have e : fmin a b = a := by simp [fmin, h]
    rw [e]
    have h' : (FloatKind.f32.format.order a b == some Ordering.lt) = true := h
    clear e h
    go_enter Try.func65, Try.ntmps65
    go_wp2
    go_ret
    exact ⟨rfl, rfl⟩
  · have e : fmin a b = b := by simp [fmin, h]
    rw [e]
    have h' : (FloatKind.f32.format.order a b == some Ordering.lt) = false := Bool.eq_false_iff.2 h
    clear e h
    go_enter Try.func65, Try.ntmps65
    go_wp2
    go_ret
    exact ⟨rfl, rfl⟩
theorem fmax_any (a b : Nat) (w : World) :
    Calls Try.prog 66 #[.float .f32 a, .float .f32 b] w fun e w' => e = .returned (.float .f32 (fmax a b)) ∧ w = w' := by
  by_cases h : fgt a b = true
  · have e : fmax a b = a := by simp [fmax, h]
    rw [e]
    have h' : (FloatKind.f32.format.order a b == some Ordering.gt) = true := h
    clear e h
    go_enter Try.func66, Try.ntmps66
    go_wp2
    go_ret
    exact ⟨rfl, rfl⟩
  · have e : fmax a b = b := by simp [fmax, h]
    rw [e]
    have h' : (FloatKind.f32.format.order a b == some Ordering.gt) = false := Bool.eq_false_iff.2 h
    clear e h
    go_enter Try.func66, Try.ntmps66
    go_wp2
    go_ret
    exact ⟨rfl, rfl⟩
end Go.Proofs.Ytmgcbodlolnheaa
