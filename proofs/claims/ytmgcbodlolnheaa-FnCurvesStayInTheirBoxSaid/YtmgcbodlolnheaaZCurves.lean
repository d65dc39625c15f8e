import Derived.Test.YtmgcbodlolnheaaZRas
import Derived.Deep.LoopGhost
namespace Go.Proofs.Ytmgcbodlolnheaa
open Go.ChangeShapes Go.WideShapes Go.ChangeAt Go.RowKit
/-- 'lerp' -/
def flerp (t p q : Nat) : Nat := fop .add p (fop .mul t (fop .sub q p))
def FlerpOk (t p q : Nat) : Prop := Fok .sub q p ∧ Fok .mul t (fop .sub q p) ∧ Fok .add p (fop .mul t (fop .sub q p))
theorem lerp_any (t px py qx qy : Nat) (hx : FlerpOk t px qx) (hy : FlerpOk t py qy) (w : World) :
    Calls Try.prog 62 #[.float .f32 t, .float .f32 px, .float .f32 py, .float .f32 qx, .float .f32 qy] w fun e w' =>
      e = .returned (.tuple #[.float .f32 (flerp t px qx), .float .f32 (flerp t py qy)]) ∧ w = w' := by
  obtain ⟨h1, h2, h3⟩ := hx
  obtain ⟨h4, h5, h6⟩ := hy
  go_enter Try.func62, Try.ntmps62
  go_wp2
  go_ret2
  exact ⟨rfl, rfl⟩
/-- 'devSquared' -/
def fdev (a b c : Nat) : Nat := fop .add (fop .sub a (fop .mul 1073741824 b)) c
def FdevOk (a b c : Nat) : Prop := Fok .mul 1073741824 b ∧ Fok .sub a (fop .mul 1073741824 b) ∧ Fok .add (fop .sub a (fop .mul 1073741824 b)) c ∧ Fok .mul (fdev a b c) (fdev a b c)
def fdevSq (ax ay bx qy cx cy : Nat) : Nat := fop .add (fop .mul (fdev ax bx cx) (fdev ax bx cx)) (fop .mul (fdev ay qy cy) (fdev ay qy cy))
def FdevSqOk (ax ay bx qy cx cy : Nat) : Prop := FdevOk ax bx cx ∧ FdevOk ay qy cy ∧ Fok .add (fop .mul (fdev ax bx cx) (fdev ax bx cx)) (fop .mul (fdev ay qy cy) (fdev ay qy cy))
theorem dev_any (ax ay bx qy cx cy : Nat) (h : FdevSqOk ax ay bx qy cx cy) (w : World) :
    Calls Try.prog 60 #[.float .f32 ax, .float .f32 ay, .float .f32 bx, .float .f32 qy, .float .f32 cx, .float .f32 cy] w fun e w' =>
      e = .returned (.float .f32 (fdevSq ax ay bx qy cx cy)) ∧ w = w' := by
  obtain ⟨⟨h1, h2, h3, h4⟩, ⟨k1, k2, k3, k4⟩, h5⟩ := h
  unfold fdev at h4 k4
  unfold fdev at h5
  go_enter Try.func60, Try.ntmps60
  go_wp2
  go_ret
  exact ⟨rfl, rfl⟩
/-- 'math.Sqrt' of a float64 that is not negative and not a NaN. -/
def SqOk (x : Nat) : Prop := (FloatKind.f64.format.sqrt x).isSome = true
def fsqrt (x : Nat) : Nat := (FloatKind.f64.format.sqrt x).getD 0
theorem run_sqrt {P : Program} (x : Nat) (h : SqOk x) (w : World) : (Extern.MathSqrt.sqrt #[.float .f64 x]).run P w = .ok (.float .f64 (fsqrt x)) w := by
  have e : Extern.MathSqrt.sqrt #[.float .f64 x] = (match FloatKind.f64.format.sqrt x with
    | some r => pure (.float .f64 r)
    | none => do pure (.float .f64 (← choose (.nanBits .f64 x x)))) := rfl
  rw [e]
  unfold SqOk at h
  unfold fsqrt
  cases hh : FloatKind.f64.format.sqrt x with
  | none => rw [hh] at h; cases h
  | some r => rfl
theorem run_sqrt72 (x : Nat) (h : SqOk x) (w : World) : (callFunc 72 #[.float .f64 x]).run Try.prog w = .ok (.value (.float .f64 (fsqrt x))) w := by
  rw [run_callFunc_extern Try.func72 (by kernel_rfl) body72 next72 find72, run_sqrt _ h]
  rfl
theorem sqrt_any (x : Nat) (h : SqOk x) (w : World) :
    Calls Try.prog 61 #[.float .f64 x] w fun e w' => e = .returned (.float .f64 (fsqrt x)) ∧ w = w' := by
  have hr := run_sqrt72 x h
  go_enter Try.func61, Try.ntmps61
  go_wp2
  go_ret
  exact ⟨rfl, rfl⟩
/-! float64 as plain functions -/
def Fok64 (op : BinOp) (a b : Nat) : Prop := (floatBits op .f64 a b).isSome = true
def fop64 (op : BinOp) (a b : Nat) : Nat := (floatBits op .f64 a b).getD 0
theorem Fok64.eq {op : BinOp} {a b : Nat} (h : Fok64 op a b) : floatBits op .f64 a b = some (fop64 op a b) := by
  unfold Fok64 at h
  unfold fop64
  cases hh : floatBits op .f64 a b with
  | none => rw [hh] at h; cases h
  | some r => rfl
section
variable {P : Program} (w : World)
theorem run_fop64 {op : BinOp} {a b : Nat} (t : TypeId) (h : Fok64 op a b) : (binOp op t (.float .f64 a) (.float .f64 b)).run P w = .ok (.float .f64 (fop64 op a b)) w :=
  run_float_arith w op t .f64 a b _ h.eq
@[go_sem] theorem run_fadd64 {a b : Nat} (t : TypeId) (h : Fok64 .add a b) : (binOp .add t (.float .f64 a) (.float .f64 b)).run P w = .ok (.float .f64 (fop64 .add a b)) w := run_fop64 w t h
@[go_sem] theorem run_fsub64 {a b : Nat} (t : TypeId) (h : Fok64 .sub a b) : (binOp .sub t (.float .f64 a) (.float .f64 b)).run P w = .ok (.float .f64 (fop64 .sub a b)) w := run_fop64 w t h
@[go_sem] theorem run_fmul64 {a b : Nat} (t : TypeId) (h : Fok64 .mul a b) : (binOp .mul t (.float .f64 a) (.float .f64 b)).run P w = .ok (.float .f64 (fop64 .mul a b)) w := run_fop64 w t h
@[go_sem] theorem run_fquo64 {a b : Nat} (t : TypeId) (h : Fok64 .quo a b) : (binOp .quo t (.float .f64 a) (.float .f64 b)).run P w = .ok (.float .f64 (fop64 .quo a b)) w := run_fop64 w t h
end
/-- A float of either kind as an int. -/
def Iok6464 (a : Nat) : Prop := (floatToIntVal .f64 a .i64).isSome = true
def int64of (a : Nat) : Int := (floatToIntVal .f64 a .i64).getD 0
theorem run_int64of {P : Program} {a : Nat} (src dst : TypeId) (hs : (P.underlying src).isSome = true) (hd : P.underlying dst = some (.int .i64)) (h : Iok6464 a) (w : World) :
    (convert src dst (.float .f64 a)).run P w = .ok (.int .i64 (int64of a)) w := by
  refine run_convert_float_int w src dst .f64 .i64 a _ hs hd ?_
  unfold Iok6464 at h
  unfold int64of
  cases hh : floatToIntVal .f64 a .i64 with
  | none => rw [hh] at h; cases h
  | some r => rfl

/-- Lines through points, one behind the other. -/
def linesB (W : Nat) (H : Int) : List (Nat × Nat) → Nat → Nat → Buf → Buf
  | [], _, _, B => B
  | (qx, qy) :: t, px, py, B => linesB W H t qx qy (lineB W H px py qx qy B)
def LinesOk (W : Nat) (H : Int) : List (Nat × Nat) → Nat → Nat → Buf → Prop
  | [], _, _, _ => True
  | (qx, qy) :: t, px, py, B => LineOk W H px py qx qy B ∧ LinesOk W H t qx qy (lineB W H px py qx qy B)
/-- Points at t + s, t + 2 s and so on, m of them. -/
def steps (pt : Nat → Nat × Nat) (s : Nat) : Nat → Nat → List (Nat × Nat)
  | 0, _ => []
  | m + 1, t => pt (fop .add t s) :: steps pt s m (fop .add t s)
def StepsOk (ok : Nat → Prop) (s : Nat) : Nat → Nat → Prop
  | 0, _ => True
  | m + 1, t => Fok .add t s ∧ ok (fop .add t s) ∧ StepsOk ok s m (fop .add t s)
/-- How many parts a curve is cut into. -/
def thrice (d : Nat) : Nat := fop64 .mul 4613937818241073152 (wide d)
theorem run_thrice {P : Program} {d : Nat} (t : TypeId) (h : Fok64 .mul 4613937818241073152 (wide d)) (w : World) :
    (binOp .mul t (.float .f64 4613937818241073152) (.float .f64 (wide d))).run P w = .ok (.float .f64 (thrice d)) w := run_fop64 w t h
def parts (d : Nat) : Int := 1 + int64of (fsqrt (fsqrt (thrice d)))
def PartsOk (d : Nat) : Prop := Num32 d ∧ Fok64 .mul 4613937818241073152 (wide d) ∧ SqOk (thrice d) ∧ SqOk (fsqrt (thrice d)) ∧
  Iok6464 (fsqrt (fsqrt (thrice d))) ∧ 0 ≤ int64of (fsqrt (fsqrt (thrice d))) ∧
  int64of (fsqrt (fsqrt (thrice d))) ≤ 1000000 ∧ Fok .quo 1065353216 (floatOfInt .f32 (parts d))
def fge (a b : Nat) : Bool := FloatKind.f32.format.order a b == some .gt || FloatKind.f32.format.order a b == some .eq
theorem fge_false {a b : Nat} (h : fge a b = false) : (FloatKind.f32.format.order a b == some Ordering.gt) = false ∧ (FloatKind.f32.format.order a b == some Ordering.eq) = false := by
  unfold fge at h
  simpa using h
/-- A point of a curve of three points, of four. -/
def quadAt (ax bx cx t : Nat) : Nat := flerp t (flerp t ax bx) (flerp t bx cx)
def QuadAtOk (ax bx cx t : Nat) : Prop := FlerpOk t ax bx ∧ FlerpOk t bx cx ∧ FlerpOk t (flerp t ax bx) (flerp t bx cx)
def cubeAt (ax bx cx dx t : Nat) : Nat := flerp t (flerp t (flerp t ax bx) (flerp t bx cx)) (flerp t (flerp t bx cx) (flerp t cx dx))
def CubeAtOk (ax bx cx dx t : Nat) : Prop := FlerpOk t ax bx ∧ FlerpOk t bx cx ∧ FlerpOk t cx dx ∧ FlerpOk t (flerp t ax bx) (flerp t bx cx) ∧ FlerpOk t (flerp t bx cx) (flerp t cx dx) ∧
  FlerpOk t (flerp t (flerp t ax bx) (flerp t bx cx)) (flerp t (flerp t bx cx) (flerp t cx dx))
def quadPts (ax ay bx qy cx cy : Nat) : List (Nat × Nat) :=
  if fge (fdevSq ax ay bx qy cx cy) 1051361018 = true then
    steps (fun t => (quadAt ax bx cx t, quadAt ay qy cy t)) (fop .quo 1065353216 (floatOfInt .f32 (parts (fdevSq ax ay bx qy cx cy)))) (parts (fdevSq ax ay bx qy cx cy) - 1).toNat 0 ++ [(cx, cy)]
  else [(cx, cy)]
def QuadOk (ax ay bx qy cx cy : Nat) : Prop := FdevSqOk ax ay bx qy cx cy ∧ (fge (fdevSq ax ay bx qy cx cy) 1051361018 = true → PartsOk (fdevSq ax ay bx qy cx cy) ∧
  StepsOk (fun t => QuadAtOk ax bx cx t ∧ QuadAtOk ay qy cy t) (fop .quo 1065353216 (floatOfInt .f32 (parts (fdevSq ax ay bx qy cx cy)))) (parts (fdevSq ax ay bx qy cx cy) - 1).toNat 0)

set_option maxHeartbeats 2000000 in
set_option maxRecDepth 100000 in
theorem quad_any (b g W H : Nat) (o : Value) (rest : List Value) (fx fy ax ay bx qy cx cy : Nat) (B : Buf) (w : World) (hd : Dims W H rest)
    (h : Ras w b g W H o rest fx fy ax ay B) (hok : QuadOk ax ay bx qy cx cy) (hlines : LinesOk W H (quadPts ax ay bx qy cx cy) ax ay B) :
    Calls Try.prog 51 #[.pointer (some ⟨b, 0, none⟩), .float .f32 bx, .float .f32 qy, .float .f32 cx, .float .f32 cy] w fun e w' => e = .returned (.tuple #[]) ∧
      Ras w' b g W H o rest fx fy cx cy (linesB W H (quadPts ax ay bx qy cx cy) ax ay B) ∧ Kept (KS b g) w w' := by
  obtain ⟨f, u, hb⟩ := h.cells
  obtain ⟨c0, c1, c2, c3, c4, c5, c6, c7, c8, c9⟩ := rz_cells hb
  have HR := hid h
  clear h hb c0 c1 c2 c3 c4 c5 c6 c9
  obtain ⟨k1, hok⟩ := hok
  by_cases hf : fge (fdevSq ax ay bx qy cx cy) 1051361018 = true
  · obtain ⟨⟨p1, p2, p3, p4, p5, p6, p7, p8⟩, hsteps⟩ := hok hf
    have hf' : (FloatKind.f32.format.order (fdevSq ax ay bx qy cx cy) 1051361018 == some Ordering.gt || FloatKind.f32.format.order (fdevSq ax ay bx qy cx cy) 1051361018 == some Ordering.eq) = true := hf
    have e3 := fun w => run_thrice (P := Try.prog) 51 p2 w
    clear p2
    have e1 := fun w => run_wide (P := Try.prog) 72 51 (by kernel_rfl) Try.underlying51 p1 w
    have e2 := fun w => run_int64of (P := Try.prog) 51 3 (by kernel_rfl) Try.underlying3 p5 w
    unfold quadPts at hlines ⊢
    rw [if_pos hf] at hlines ⊢
    clear hf hok
    unfold parts at p8
    have hN : ∃ N : Nat, int64of (fsqrt (fsqrt (thrice (fdevSq ax ay bx qy cx cy)))) = N := ⟨_, (Int.toNat_of_nonneg p6).symm⟩
    obtain ⟨N, hN⟩ := hN
    have hpt : (parts (fdevSq ax ay bx qy cx cy) - 1).toNat = N := by unfold parts; omega
    have hp1 : parts (fdevSq ax ay bx qy cx cy) = 1 + (N : Int) := by unfold parts; omega
    rw [hpt, hp1] at hlines hsteps
    rw [hpt, hp1]
    rw [hN] at p6 p7 p8
    clear hpt hp1
    have HL := hid hlines
    have HS := hid hsteps
    clear hlines hsteps
    go_enter Try.func51, Try.ntmps51
    go_wp2_with fail
    go_quiet (fail)
    go_wp2_with fail
    refine (dev_any _ _ _ _ _ _ k1 _).mono ?_
    rintro e w' ⟨rfl, rfl⟩
    go_wp2_with fail
    refine (sqrt_any _ p3 _).mono ?_
    rintro e w' ⟨rfl, rfl⟩
    go_wp2_with fail
    refine (sqrt_any _ p4 _).mono ?_
    rintro e w' ⟨rfl, rfl⟩
    go_wp2_with fail
    go_loopg [14, 16] N (fun k tv iv wr => ∃ (j t px py : Nat) (B' : Buf), tv = .float .f32 t ∧ iv = .int .i64 (j : Int) ∧ j + k = N ∧
      StepsOk (fun t => QuadAtOk ax bx cx t ∧ QuadAtOk ay qy cy t) (fop .quo 1065353216 (floatOfInt .f32 (1 + (N : Int)))) k t ∧ Ras wr b g W H o rest fx fy px py B' ∧
      LinesOk W H (steps (fun t => (quadAt ax bx cx t, quadAt ay qy cy t)) (fop .quo 1065353216 (floatOfInt .f32 (1 + (N : Int)))) k t ++ [(cx, cy)]) px py B' ∧
      linesB W H (steps (fun t => (quadAt ax bx cx t, quadAt ay qy cy t)) (fop .quo 1065353216 (floatOfInt .f32 (1 + (N : Int)))) k t ++ [(cx, cy)]) px py B' =
        linesB W H (steps (fun t => (quadAt ax bx cx t, quadAt ay qy cy t)) (fop .quo 1065353216 (floatOfInt .f32 (1 + (N : Int)))) N 0 ++ [(cx, cy)]) ax ay B ∧ Kept (KS b g) w wr)
    case atStart => exact ⟨0, 0, ax, ay, B, rfl, rfl, by omega, HS.out, HR.out.drewN _, HL.out, rfl, (Kept.refl _ _).drewN _⟩
    case round =>
      obtain ⟨j, t, px, py, B', rfl, rfl, hjk, s1, s2, s3, s4, s5⟩ := hrel
      by_cases hj : j < N
      · obtain ⟨k', rfl⟩ : ∃ k', gk = k' + 1 := ⟨gk - 1, by omega⟩
        obtain ⟨a1, ⟨⟨a2, a3, a4⟩, a5, a6, a7⟩, a8⟩ := s1
        obtain ⟨l1, l2⟩ := s3
        have S2 := hid s2
        have S4 := hid s4
        have S5 := hid s5
        have S8 := hid a8
        have L1 := hid l1
        have L2 := hid l2
        have HJ := hid hjk
        clear s2 s4 s5 a8 l1 l2 hjk HR HL HS
        go_wp2_with fail
        refine (lerp_any _ _ _ _ _ a2 a5 _).mono ?_
        rintro e w' ⟨rfl, rfl⟩
        go_wp2_with fail
        refine (lerp_any _ _ _ _ _ a3 a6 _).mono ?_
        rintro e w' ⟨rfl, rfl⟩
        go_wp2_with fail
        refine (lerp_any _ _ _ _ _ a4 a7 _).mono ?_
        rintro e w' ⟨rfl, rfl⟩
        go_wp2_with fail
        refine (line_any b g W H o rest fx fy px py _ _ B' _ hd S2.out L1.out).mono ?_
        rintro e w' ⟨rfl, r1, r2⟩
        have R1 := hid r1
        have R2 := hid r2
        clear r1 r2
        go_wp2_with fail
        go_roundg k'
        case measure => omega
        case rel => exact ⟨j + 1, _, _, _, _, rfl, by go_num, by have := HJ.out; omega, S8.out, R1.out, L2.out, S4.out, S5.out.trans R2.out⟩
      · have hjN : gk = 0 := by omega
        subst hjN
        have S2 := hid s2
        have S4 := hid s4
        have S5 := hid s5
        have L1 := hid s3.1
        clear s2 s4 s5 s3 s1 HR HL HS
        go_wp2_with fail
        refine (line_any b g W H o rest fx fy px py _ _ B' _ hd S2.out L1.out).mono ?_
        rintro e w' ⟨rfl, r1, r2⟩
        have R1 := hid r1
        have R2 := hid r2
        clear r1 r2
        go_wp2_with fail
        go_end0
        exact ⟨rfl, by rw [← S4.out]; exact R1.out, S5.out.trans R2.out⟩
  · obtain ⟨hf1, hf2⟩ := fge_false (Bool.eq_false_iff.2 hf)
    unfold quadPts at hlines ⊢
    rw [if_neg hf] at hlines ⊢
    have HL := hid hlines.1
    clear hlines hf hok
    go_enter Try.func51, Try.ntmps51
    go_wp2_with fail
    go_quiet (fail)
    go_wp2_with fail
    refine (dev_any _ _ _ _ _ _ k1 _).mono ?_
    rintro e w' ⟨rfl, rfl⟩
    go_wp2_with fail
    refine (line_any b g W H o rest fx fy ax ay _ _ B _ hd (HR.out.drewN _) HL.out).mono ?_
    rintro e w' ⟨rfl, r1, r2⟩
    have R1 := hid r1
    have R2 := hid r2
    clear r1 r2
    go_wp2_with fail
    go_end0
    exact ⟨rfl, R1.out, R2.out.of_drewN⟩
end Go.Proofs.Ytmgcbodlolnheaa
