/-
  'ZZMask': the mask of a Rasterizer.
-/
import Derived.Test.YtmgcbodlolnheaaAccFlo
namespace Go.Proofs.Ytmgcbodlolnheaa
open Go.ChangeShapes Go.WideShapes Go.ChangeAt Go.RowKit
set_option linter.unusedVariables false

theorem info5 : (Try.prog.info? 5).map (fun i => (i.zero, i.size, i.bytes)) = some (some (.int .u8 0), 1, 1) := by kernel_rfl
theorem make_u8 (W H : Nat) (hn : W * H ≤ 1000000) (u : World) : (Instr.makeSlice 34 (.int .i64 ((W : Int) * (H : Int))) (.int .i64 ((W : Int) * (H : Int)))).run Try.prog u =
    .ok (.slice (some ⟨u.heap.size, 0, none⟩) (W * H) (W * H)) (u.alloc (.cells (byteCells (List.replicate (W * H) 0)) 5)) := by
  obtain ⟨i0, hi, hz0, hz1, hz2⟩ := info_parts info5
  have h := run_make (P := Try.prog) u 34 5 i0 (.int .u8 0) Try.underlying34 hi hz0 .i64 .i64 ((W * H : Nat) : Int) ((W * H : Nat) : Int) (by omega) (Int.le_refl _) (by rw [hz2]; omega) (by omega)
  rw [← byteCells_made]
  have e : ((W * H : Nat) : Int) = (W : Int) * (H : Int) := by push_cast; rfl
  rw [← e]
  rw [hz1, Nat.mul_one, Int.toNat_natCast] at h
  exact h

/-- The bytes of a mask. -/
def maskOf : Buf → List Int
  | .fix l => fixBytes 0 l
  | .flo l => floBytes 0 l
def MaskOk : Buf → Prop
  | .fix _ => True
  | .flo l => FloBytesOk 0 l
theorem length_maskOf (B : Buf) : (maskOf B).length = B.len := by
  cases B with
  | fix l => exact length_fixBytes _ _
  | flo l => exact length_floBytes _ _

set_option maxHeartbeats 1000000 in
set_option maxRecDepth 100000 in
theorem zzmask_any (b g W H : Nat) (o : Value) (rest : List Value) (fx fy px py : Nat) (B : Buf) (w : World) (hd : Dims W H rest)
    (h : Ras w b g W H o rest fx fy px py B) (hok : MaskOk B) :
    Calls Try.prog 42 #[.pointer (some ⟨b, 0, none⟩)] w fun e w' => ∃ d, e = .returned (.slice (some ⟨d, 0, none⟩) (W * H) (W * H)) ∧ w.heap.size ≤ d ∧ Blk w' d 5 (byteCells (maskOf B)) ∧ Same w w' := by
  have hmk := make_u8 W H (by have := hd.n; omega)
  have m0 : 0 ≤ (W : Int) * (H : Int) := Int.mul_nonneg (by omega) (by omega)
  have m1 : (W : Int) * (H : Int) ≤ 100000 := by rw [← Int.natCast_mul]; have := hd.n; omega
  have hDb := (Blk.new w 5 (byteCells (List.replicate (W * H) 0))).drew
  have hnb := hd.n
  have hcb := hd.c
  have hDl : (List.replicate (W * H) (0 : Int)).length = W * H := List.length_replicate
  cases B with
  | fix l =>
    obtain ⟨h1, h2, h3⟩ := h
    obtain ⟨c0, c1, c2, c3, c4, c5, c6, c7, c8, c9⟩ := rz_cells h1
    have hlt := h1.lt
    have H2 := hid ((h2.alloc (.cells (byteCells (List.replicate (W * H) 0)) 5)).drew)
    have H3 := hid h3
    have HL := hid hDl
    have HDB := hid hDb
    clear h1 h2 h3 hDl hDb c5 c6 c7 c8 c9
    go_enter Try.func42, Try.ntmps42
    go_wp2
    go_region
    go_wp2_with fail
    refine (accFix_any w.heap.size g (W * H) (List.replicate (W * H) 0) l rest _ HDB.out HL.out H2.out H3.out hnb hcb).mono ?_
    rintro e w' ⟨rfl, r1, r2⟩
    go_wp2
    go_ret
    exact ⟨_, rfl, Nat.le_refl _, r1, (((Kept.refl (fun k => k = w.heap.size) w).alloc _).drew.trans r2).mono fun k hk he => absurd he (Nat.ne_of_lt hk)⟩
  | flo l =>
    obtain ⟨h1, h2, h3⟩ := h
    obtain ⟨c0, c1, c2, c3, c4, c5, c6, c7, c8, c9⟩ := rz_cells h1
    have hlt := h1.lt
    have H2 := hid ((h2.alloc (.cells (byteCells (List.replicate (W * H) 0)) 5)).drew)
    have H3 := hid h3
    have HL := hid hDl
    have HDB := hid hDb
    have HOK := hid hok
    clear h1 h2 h3 hDl hDb c5 c6 c7 c8 c9 hok
    go_enter Try.func42, Try.ntmps42
    go_wp2
    go_region
    go_wp2_with fail
    refine (accFlo_any w.heap.size g (W * H) (List.replicate (W * H) 0) l rest _ HDB.out HL.out H2.out H3.out hnb hcb HOK.out).mono ?_
    rintro e w' ⟨rfl, r1, r2⟩
    go_wp2
    go_ret
    exact ⟨_, rfl, Nat.le_refl _, r1, (((Kept.refl (fun k => k = w.heap.size) w).alloc _).drew.trans r2).mono fun k hk he => absurd he (Nat.ne_of_lt hk)⟩
end Go.Proofs.Ytmgcbodlolnheaa
