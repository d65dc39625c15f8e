import Derived.Test.YtmgcbodlolnheaaZCurves
import Derived.Deep.DeepCutAuto
namespace Go.Proofs.Ytmgcbodlolnheaa
open Go.ChangeShapes Go.WideShapes Go.ChangeAt Go.RowKit
set_option linter.unusedVariables false
/-- How far a cubic curve is from a line. -/
def cubeD (ax ay bx qy cx cy dx dy : Nat) : Nat := if flt (fdevSq ax ay bx qy dx dy) (fdevSq ax ay cx cy dx dy) = true then fdevSq ax ay cx cy dx dy else fdevSq ax ay bx qy dx dy
def cubePts (ax ay bx qy cx cy dx dy : Nat) : List (Nat × Nat) :=
  if fge (cubeD ax ay bx qy cx cy dx dy) 1051361018 = true then
    steps (fun t => (cubeAt ax bx cx dx t, cubeAt ay qy cy dy t)) (fop .quo 1065353216 (floatOfInt .f32 (parts (cubeD ax ay bx qy cx cy dx dy)))) (parts (cubeD ax ay bx qy cx cy dx dy) - 1).toNat 0 ++ [(dx, dy)]
  else [(dx, dy)]
def CubeOk (ax ay bx qy cx cy dx dy : Nat) : Prop := FdevSqOk ax ay bx qy dx dy ∧ FdevSqOk ax ay cx cy dx dy ∧ (fge (cubeD ax ay bx qy cx cy dx dy) 1051361018 = true → PartsOk (cubeD ax ay bx qy cx cy dx dy) ∧
  StepsOk (fun t => CubeAtOk ax bx cx dx t ∧ CubeAtOk ay qy cy dy t) (fop .quo 1065353216 (floatOfInt .f32 (parts (cubeD ax ay bx qy cx cy dx dy)))) (parts (cubeD ax ay bx qy cx cy dx dy) - 1).toNat 0)

set_option maxHeartbeats 2000000 in
set_option maxRecDepth 100000 in
theorem cube_any (b g W H : Nat) (o : Value) (rest : List Value) (fx fy ax ay bx qy cx cy dx dy : Nat) (B : Buf) (w : World) (hd : Dims W H rest)
    (h : Ras w b g W H o rest fx fy ax ay B) (hok : CubeOk ax ay bx qy cx cy dx dy) (hlines : LinesOk W H (cubePts ax ay bx qy cx cy dx dy) ax ay B) :
    Calls Try.prog 52 #[.pointer (some ⟨b, 0, none⟩), .float .f32 bx, .float .f32 qy, .float .f32 cx, .float .f32 cy, .float .f32 dx, .float .f32 dy] w fun e w' => e = .returned (.tuple #[]) ∧
      Ras w' b g W H o rest fx fy dx dy (linesB W H (cubePts ax ay bx qy cx cy dx dy) ax ay B) ∧ Kept (KS b g) w w' := by
  obtain ⟨f, u, hb⟩ := h.cells
  obtain ⟨c0, c1, c2, c3, c4, c5, c6, c7, c8, c9⟩ := rz_cells hb
  have HR := hid h
  clear h hb c0 c1 c2 c3 c4 c5 c6 c9
  obtain ⟨k1, k2, hok⟩ := hok
  obtain ⟨D, hD⟩ : ∃ D, D = cubeD ax ay bx qy cx cy dx dy := ⟨_, rfl⟩
  have HD := hid hD
  unfold cubePts at hlines ⊢
  rw [← hD] at hok hlines ⊢
  clear hD
  by_cases hf : fge D 1051361018 = true
  · obtain ⟨⟨p1, p2, p3, p4, p5, p6, p7, p8⟩, hsteps⟩ := hok hf
    have hf' : (FloatKind.f32.format.order D 1051361018 == some Ordering.gt || FloatKind.f32.format.order D 1051361018 == some Ordering.eq) = true := hf
    have e3 := fun w => run_thrice (P := Try.prog) 51 p2 w
    clear p2
    have e1 := fun w => run_wide (P := Try.prog) 72 51 (by kernel_rfl) Try.underlying51 p1 w
    have e2 := fun w => run_int64of (P := Try.prog) 51 3 (by kernel_rfl) Try.underlying3 p5 w
    rw [if_pos hf] at hlines ⊢
    clear hf hok
    unfold parts at p8
    have hN : ∃ N : Nat, int64of (fsqrt (fsqrt (thrice D))) = N := ⟨_, (Int.toNat_of_nonneg p6).symm⟩
    obtain ⟨N, hN⟩ := hN
    have hpt : (parts D - 1).toNat = N := by unfold parts; omega
    have hp1 : parts D = 1 + (N : Int) := by unfold parts; omega
    rw [hpt, hp1] at hlines hsteps
    rw [hpt, hp1]
    rw [hN] at p6 p7 p8
    clear hpt hp1
    have HL := hid hlines
    have HS := hid hsteps
    clear hlines hsteps
    go_enter Try.func52, Try.ntmps52
    go_wp2_with fail
    go_quiet (fail)
    go_wp2_with fail
    refine (dev_any _ _ _ _ _ _ k1 _).mono ?_
    rintro e w' ⟨rfl, rfl⟩
    go_wp2_with fail
    refine (dev_any _ _ _ _ _ _ k2 _).mono ?_
    rintro e w' ⟨rfl, rfl⟩
    go_upto_if 56 with fail
    go_cut [16] from 57 to 57 (fun s wx => s = .float .f32 D ∧ wx = w.drewN nq)
    case first =>
      go_wp2_with fail
      all_goals go_meet
      · have hq : flt (fdevSq ax ay bx qy dx dy) (fdevSq ax ay cx cy dx dy) = true := ‹(FloatKind.f32.format.order _ _ == some Ordering.lt) = true›
        exact ⟨by rw [HD.out, cubeD, if_pos hq], rfl⟩
      · have hq : ¬ flt (fdevSq ax ay bx qy dx dy) (fdevSq ax ay cx cy dx dy) = true := Bool.eq_false_iff.1 ‹(FloatKind.f32.format.order _ _ == some Ordering.lt) = false›
        exact ⟨by rw [HD.out, cubeD, if_neg hq], rfl⟩
    case rest =>
    obtain ⟨rfl, rfl⟩ := hcut
    go_wp2_with fail
    refine (sqrt_any _ p3 _).mono ?_
    rintro e w' ⟨rfl, rfl⟩
    go_wp2_with fail
    refine (sqrt_any _ p4 _).mono ?_
    rintro e w' ⟨rfl, rfl⟩
    go_wp2_with fail
    go_loopg [19, 21] N (fun k tv iv wr => ∃ (j t px py : Nat) (B' : Buf), tv = .float .f32 t ∧ iv = .int .i64 (j : Int) ∧ j + k = N ∧
      StepsOk (fun t => CubeAtOk ax bx cx dx t ∧ CubeAtOk ay qy cy dy t) (fop .quo 1065353216 (floatOfInt .f32 (1 + (N : Int)))) k t ∧ Ras wr b g W H o rest fx fy px py B' ∧
      LinesOk W H (steps (fun t => (cubeAt ax bx cx dx t, cubeAt ay qy cy dy t)) (fop .quo 1065353216 (floatOfInt .f32 (1 + (N : Int)))) k t ++ [(dx, dy)]) px py B' ∧
      linesB W H (steps (fun t => (cubeAt ax bx cx dx t, cubeAt ay qy cy dy t)) (fop .quo 1065353216 (floatOfInt .f32 (1 + (N : Int)))) k t ++ [(dx, dy)]) px py B' =
        linesB W H (steps (fun t => (cubeAt ax bx cx dx t, cubeAt ay qy cy dy t)) (fop .quo 1065353216 (floatOfInt .f32 (1 + (N : Int)))) N 0 ++ [(dx, dy)]) ax ay B ∧ Kept (KS b g) w wr)
    case atStart => exact ⟨0, 0, ax, ay, B, rfl, rfl, by omega, HS.out, HR.out.drewN _, HL.out, rfl, (Kept.refl _ _).drewN _⟩
    case round =>
      obtain ⟨j, t, px, py, B', rfl, rfl, hjk, s1, s2, s3, s4, s5⟩ := hrel
      by_cases hj : j < N
      · obtain ⟨k', rfl⟩ : ∃ k', gk = k' + 1 := ⟨gk - 1, by omega⟩
        obtain ⟨a1, ⟨⟨a2, a3, a4, a9, a10, a11⟩, a5, a6, a7, a12, a13, a14⟩, a8⟩ := s1
        obtain ⟨l1, l2⟩ := s3
        have S2 := hid s2
        have S4 := hid s4
        have S5 := hid s5
        have S8 := hid a8
        have L1 := hid l1
        have L2 := hid l2
        have HJ := hid hjk
        clear s2 s4 s5 a8 l1 l2 hjk HR HL HS
        go_wp2_with fail
        refine (lerp_any _ _ _ _ _ a2 a5 _).mono ?_
        rintro e w' ⟨rfl, rfl⟩
        go_wp2_with fail
        refine (lerp_any _ _ _ _ _ a3 a6 _).mono ?_
        rintro e w' ⟨rfl, rfl⟩
        go_wp2_with fail
        refine (lerp_any _ _ _ _ _ a4 a7 _).mono ?_
        rintro e w' ⟨rfl, rfl⟩
        go_wp2_with fail
        refine (lerp_any _ _ _ _ _ a9 a12 _).mono ?_
        rintro e w' ⟨rfl, rfl⟩
        go_wp2_with fail
        refine (lerp_any _ _ _ _ _ a10 a13 _).mono ?_
        rintro e w' ⟨rfl, rfl⟩
        go_wp2_with fail
        refine (lerp_any _ _ _ _ _ a11 a14 _).mono ?_
        rintro e w' ⟨rfl, rfl⟩
        go_wp2_with fail
        refine (line_any b g W H o rest fx fy px py _ _ B' _ hd S2.out L1.out).mono ?_
        rintro e w' ⟨rfl, r1, r2⟩
        have R1 := hid r1
        have R2 := hid r2
        clear r1 r2
        go_wp2_with fail
        go_roundg k'
        case measure => omega
        case rel => exact ⟨j + 1, _, _, _, _, rfl, by go_num, by have := HJ.out; omega, S8.out, R1.out, L2.out, S4.out, S5.out.trans R2.out⟩
      · have hjN : gk = 0 := by omega
        subst hjN
        have S2 := hid s2
        have S4 := hid s4
        have S5 := hid s5
        have L1 := hid s3.1
        clear s2 s4 s5 s3 s1 HR HL HS
        go_wp2_with fail
        refine (line_any b g W H o rest fx fy px py _ _ B' _ hd S2.out L1.out).mono ?_
        rintro e w' ⟨rfl, r1, r2⟩
        have R1 := hid r1
        have R2 := hid r2
        clear r1 r2
        go_wp2_with fail
        go_end0
        exact ⟨rfl, by rw [← S4.out]; exact R1.out, S5.out.trans R2.out⟩
  · obtain ⟨hf1, hf2⟩ := fge_false (Bool.eq_false_iff.2 hf)
    rw [if_neg hf] at hlines ⊢
    have HL := hid hlines.1
    clear hlines hf hok
    go_enter Try.func52, Try.ntmps52
    go_wp2_with fail
    go_quiet (fail)
    go_wp2_with fail
    refine (dev_any _ _ _ _ _ _ k1 _).mono ?_
    rintro e w' ⟨rfl, rfl⟩
    go_wp2_with fail
    refine (dev_any _ _ _ _ _ _ k2 _).mono ?_
    rintro e w' ⟨rfl, rfl⟩
    go_upto_if 56 with fail
    go_cut [16] from 57 to 57 (fun s wx => s = .float .f32 D ∧ wx = w.drewN nq)
    case first =>
      go_wp2_with fail
      all_goals go_meet
      · have hq : flt (fdevSq ax ay bx qy dx dy) (fdevSq ax ay cx cy dx dy) = true := ‹(FloatKind.f32.format.order _ _ == some Ordering.lt) = true›
        exact ⟨by rw [HD.out, cubeD, if_pos hq], rfl⟩
      · have hq : ¬ flt (fdevSq ax ay bx qy dx dy) (fdevSq ax ay cx cy dx dy) = true := Bool.eq_false_iff.1 ‹(FloatKind.f32.format.order _ _ == some Ordering.lt) = false›
        exact ⟨by rw [HD.out, cubeD, if_neg hq], rfl⟩
    case rest =>
    obtain ⟨rfl, rfl⟩ := hcut
    go_wp2_with fail
    refine (line_any b g W H o rest fx fy ax ay _ _ B _ hd (HR.out.drewN _) HL.out).mono ?_
    rintro e w' ⟨rfl, r1, r2⟩
    have R1 := hid r1
    have R2 := hid r2
    clear r1 r2
    go_wp2_with fail
    go_end0
    exact ⟨rfl, R1.out, R2.out.of_drewN⟩
end Go.Proofs.Ytmgcbodlolnheaa
