/-
  What NewRasterizer, Reset, setUseFloatingPointMath do.
-/
import Derived.Test.YtmgcbodlolnheaaZBase

namespace Go.Proofs.Ytmgcbodlolnheaa
open Go.ChangeShapes Go.WideShapes Go.ChangeAt Go.RowKit

theorem info72 : (Try.prog.info? 72).map (fun i => (i.zero, i.size, i.bytes)) = some (some (.float .f32 0), 1, 4) := by kernel_rfl
theorem info100 : (Try.prog.info? 100).map (fun i => (i.zero, i.size, i.bytes)) = some (some (.int .u32 0), 1, 4) := by kernel_rfl

theorem make_f32 (n : Nat) (hn : n ≤ 1000000) (u : World) : (Instr.makeSlice 83 (.int .i64 (n : Int)) (.int .i64 (n : Int))).run Try.prog u =
    .ok (.slice (some ⟨u.heap.size, 0, none⟩) n n) (u.alloc (.cells (madeCells #[.float .f32 0] n) 72)) := by
  obtain ⟨i0, hi, hz0, hz1, hz2⟩ := info_parts info72
  have h := run_make (P := Try.prog) u 83 72 i0 (.float .f32 0) Try.underlying83 hi hz0 .i64 .i64 (n : Int) (n : Int) (by omega) (Int.le_refl _) (by rw [hz2]; omega) (by omega)
  simpa [hz1, Value.cells] using h
theorem make_u32 (n : Nat) (hn : n ≤ 1000000) (u : World) : (Instr.makeSlice 84 (.int .i64 (n : Int)) (.int .i64 (n : Int))).run Try.prog u =
    .ok (.slice (some ⟨u.heap.size, 0, none⟩) n n) (u.alloc (.cells (madeCells #[.int .u32 0] n) 100)) := by
  obtain ⟨i0, hi, hz0, hz1, hz2⟩ := info_parts info100
  have h := run_make (P := Try.prog) u 84 100 i0 (.int .u32 0) Try.underlying84 hi hz0 .i64 .i64 (n : Int) (n : Int) (by omega) (Int.le_refl _) (by rw [hz2]; omega) (by omega)
  simpa [hz1, Value.cells] using h

/-- The cells of a Rasterizer. -/
def rz (f u : Value) (fl : Bool) (W H : Int) (fx fy px py : Nat) : Array Value :=
  #[f, u, .bool fl, .int .i64 W, .int .i64 H, .float .f32 fx, .float .f32 fy, .float .f32 px, .float .f32 py, .int .i64 0]
theorem rz_cells {w : World} {b : Nat} {f u : Value} {fl : Bool} {W H : Int} {fx fy px py : Nat} (h : Blk w b 87 (rz f u fl W H fx fy px py)) :
    w.cell? ⟨b, 0, none⟩ = some f ∧ w.cell? ⟨b, 1, none⟩ = some u ∧ w.cell? ⟨b, 2, none⟩ = some (.bool fl) ∧ w.cell? ⟨b, 3, none⟩ = some (.int .i64 W) ∧
    w.cell? ⟨b, 4, none⟩ = some (.int .i64 H) ∧ w.cell? ⟨b, 5, none⟩ = some (.float .f32 fx) ∧ w.cell? ⟨b, 6, none⟩ = some (.float .f32 fy) ∧
    w.cell? ⟨b, 7, none⟩ = some (.float .f32 px) ∧ w.cell? ⟨b, 8, none⟩ = some (.float .f32 py) ∧ w.cell? ⟨b, 9, none⟩ = some (.int .i64 0) := by
  refine ⟨?_, ?_, ?_, ?_, ?_, ?_, ?_, ?_, ?_, ?_⟩ <;> rw [h.cell] <;> rfl

set_option maxRecDepth 100000 in
/-- 'setUseFloatingPointMath(true)' where that buffer is nil: it is made, of zeros. -/
theorem use_make_f (b n : Nat) (W H : Int) (o : Value) (fl : Bool) (fx fy px py : Nat) (hn : W * H = n) (h1 : 1 ≤ n) (h2 : n ≤ 65536) (w : World)
   (hb : Blk w b 87 (rz (.slice none 0 0) o fl W H fx fy px py)) :
    Calls Try.prog 56 #[.pointer (some ⟨b, 0, none⟩), .bool true] w fun e w' => e = .returned (.tuple #[]) ∧ 
      ∃ g, w.heap.size ≤ g ∧ Blk w' b 87 (rz (.slice (some ⟨g, 0, none⟩) n n) o true W H fx fy px py) ∧ Blk w' g 72 (madeCells #[.float .f32 0] n) ∧ Kept (· = b) w w' := by
  obtain ⟨c0, c1, c2, c3, c4, c5, c6, c7, c8, c9⟩ := rz_cells hb
  have f0 := hb.frozen 0
  have f2 := hb.frozen 2
  have hmk := make_f32 n (by omega)
  have hlt := hb.lt
  have hN : (0:Int) < (n:Int) := by omega
  clear c1 c5 c6 c7 c8 c9
  have HB := hid hb
  clear hb
  go_enter Try.func56, Try.ntmps56
  go_wp2
  go_region
  go_wp2
  go_end0
  have hb := HB.out
  refine ⟨rfl, w.heap.size, Nat.le_refl _, ?_, ?_, ?_⟩
  · exact ((((hb.set_ 2 _).set_ 0 _).alloc _).drew)
  · have := Blk.new ((w.setCell ⟨b, 2, none⟩ (.bool true)).setCell ⟨b, 0, none⟩ (.slice (some ⟨w.heap.size, 0, none⟩) n n)) 72 (madeCells #[.float .f32 0] n)
    simpa using this.drew
  · exact ((((Kept.refl (· = b) w).setCell (.inr rfl) _).setCell (.inr rfl) _).alloc _).drew
set_option maxRecDepth 100000 in
/-- 'setUseFloatingPointMath(false)' where that buffer is nil: it is made, of zeros. -/
theorem use_make_u (b n : Nat) (W H : Int) (o : Value) (fl : Bool) (fx fy px py : Nat) (hn : W * H = n) (h1 : 1 ≤ n) (h2 : n ≤ 65536) (w : World)
   (hb : Blk w b 87 (rz o (.slice none 0 0) fl W H fx fy px py)) :
    Calls Try.prog 56 #[.pointer (some ⟨b, 0, none⟩), .bool false] w fun e w' => e = .returned (.tuple #[]) ∧ 
      ∃ g, w.heap.size ≤ g ∧ Blk w' b 87 (rz o (.slice (some ⟨g, 0, none⟩) n n) false W H fx fy px py) ∧ Blk w' g 100 (madeCells #[.int .u32 0] n) ∧ Kept (· = b) w w' := by
  obtain ⟨c0, c1, c2, c3, c4, c5, c6, c7, c8, c9⟩ := rz_cells hb
  have f1 := hb.frozen 1
  have f2 := hb.frozen 2
  have hmk := make_u32 n (by omega)
  have hlt := hb.lt
  have hN : (0:Int) < (n:Int) := by omega
  clear c0 c5 c6 c7 c8 c9
  have HB := hid hb
  clear hb
  go_enter Try.func56, Try.ntmps56
  go_wp2
  go_region
  go_wp2
  go_end0
  have hb := HB.out
  refine ⟨rfl, w.heap.size, Nat.le_refl _, ?_, ?_, ?_⟩
  · exact ((((hb.set_ 2 _).set_ 1 _).alloc _).drew)
  · have := Blk.new ((w.setCell ⟨b, 2, none⟩ (.bool false)).setCell ⟨b, 1, none⟩ (.slice (some ⟨w.heap.size, 0, none⟩) n n)) 100 (madeCells #[.int .u32 0] n)
    simpa using this.drew
  · exact ((((Kept.refl (· = b) w).setCell (.inr rfl) _).setCell (.inr rfl) _).alloc _).drew

theorem rz_reset {w : World} {b : Nat} {f u : Value} {fl : Bool} {W H W0 H0 : Int} {fx fy px py : Nat} (h : Blk w b 87 (rz f u fl W0 H0 fx fy px py)) :
    Blk (((((((w.setCell ⟨b, 3, none⟩ (.int .i64 W)).setCell ⟨b, 4, none⟩ (.int .i64 H)).setCell ⟨b, 5, none⟩ (.float .f32 0)).setCell ⟨b, 6, none⟩ (.float .f32 0)).setCell ⟨b, 7, none⟩ (.float .f32 0)).setCell ⟨b, 8, none⟩ (.float .f32 0)).setCell ⟨b, 9, none⟩ (.int .i64 0)) b 87
      (rz f u fl W H 0 0 0 0) := by
  have := ((((((h.set_ 3 (.int .i64 W)).set_ 4 (.int .i64 H)).set_ 5 (.float .f32 0)).set_ 6 (.float .f32 0)).set_ 7 (.float .f32 0)).set_ 8 (.float .f32 0)).set_ 9 (.int .i64 0)
  simpa [rz] using this

/-- What NewRasterizer leaves: a Rasterizer of that size, its buffer of zeros. -/
def Fresh (w : World) (b g n : Nat) (fl : Bool) (W H : Int) : Prop :=
  match fl with
  | true => Blk w b 87 (rz (.slice (some ⟨g, 0, none⟩) n n) (.slice none 0 0) true W H 0 0 0 0) ∧ Blk w g 72 (madeCells #[.float .f32 0] n)
  | false => Blk w b 87 (rz (.slice none 0 0) (.slice (some ⟨g, 0, none⟩) n n) false W H 0 0 0 0) ∧ Blk w g 100 (madeCells #[.int .u32 0] n)

set_option maxRecDepth 100000 in
theorem reset_w (b n : Nat) (W H : Int) (fl : Bool) (W0 H0 : Int) (fx fy px py : Nat) (hn : W * H = n) (h1 : 1 ≤ n) (h2 : n ≤ 65536) (hw : 512 < W) (w : World)
   (hb : Blk w b 87 (rz (.slice none 0 0) (.slice none 0 0) fl W0 H0 fx fy px py)) :
    Calls Try.prog 47 #[.pointer (some ⟨b, 0, none⟩), .int .i64 W, .int .i64 H] w fun e w' => e = .returned (.tuple #[]) ∧ 
      ∃ g, w.heap.size ≤ g ∧ Fresh w' b g n true W H ∧ Kept (· = b) w w' := by
  obtain ⟨c0, c1, c2, c3, c4, c5, c6, c7, c8, c9⟩ := rz_cells hb
  have f3 := hb.frozen 3
  have f4 := hb.frozen 4
  have f5 := hb.frozen 5
  have f6 := hb.frozen 6
  have f7 := hb.frozen 7
  have f8 := hb.frozen 8
  have f9 := hb.frozen 9
  have hlt := hb.lt
  have HB := hid hb
  have HN := hid hn
  clear hb hn
  go_enter Try.func47, Try.ntmps47
  go_wp2_with fail
  have hB := rz_reset (W := W) (H := H) HB.out
  refine (use_make_f b n W H (.slice none 0 0) fl 0 0 0 0 HN.out h1 h2 _ hB).mono ?_
  rintro e w' ⟨rfl, g, hg, hb1, hb2, hk⟩
  go_wp2
  go_end0
  refine ⟨rfl, g, by simpa using hg, ⟨hb1, hb2⟩, ?_⟩
  refine Kept.trans ?_ hk
  iterate 7 (refine Kept.set_in ?_ (by rfl))
  exact Kept.refl _ _

set_option maxRecDepth 100000 in
theorem reset_h (b n : Nat) (W H : Int) (fl : Bool) (W0 H0 : Int) (fx fy px py : Nat) (hn : W * H = n) (h1 : 1 ≤ n) (h2 : n ≤ 65536) (hw : ¬ 512 < W) (hh : 512 < H) (w : World)
   (hb : Blk w b 87 (rz (.slice none 0 0) (.slice none 0 0) fl W0 H0 fx fy px py)) :
    Calls Try.prog 47 #[.pointer (some ⟨b, 0, none⟩), .int .i64 W, .int .i64 H] w fun e w' => e = .returned (.tuple #[]) ∧ 
      ∃ g, w.heap.size ≤ g ∧ Fresh w' b g n true W H ∧ Kept (· = b) w w' := by
  obtain ⟨c0, c1, c2, c3, c4, c5, c6, c7, c8, c9⟩ := rz_cells hb
  have f3 := hb.frozen 3
  have f4 := hb.frozen 4
  have f5 := hb.frozen 5
  have f6 := hb.frozen 6
  have f7 := hb.frozen 7
  have f8 := hb.frozen 8
  have f9 := hb.frozen 9
  have hlt := hb.lt
  have HB := hid hb
  have HN := hid hn
  clear hb hn
  go_enter Try.func47, Try.ntmps47
  go_wp2_with fail
  have hB := rz_reset (W := W) (H := H) HB.out
  refine (use_make_f b n W H (.slice none 0 0) fl 0 0 0 0 HN.out h1 h2 _ hB).mono ?_
  rintro e w' ⟨rfl, g, hg, hb1, hb2, hk⟩
  go_wp2
  go_end0
  refine ⟨rfl, g, by simpa using hg, ⟨hb1, hb2⟩, ?_⟩
  refine Kept.trans ?_ hk
  iterate 7 (refine Kept.set_in ?_ (by rfl))
  exact Kept.refl _ _

set_option maxRecDepth 100000 in
theorem reset_n (b n : Nat) (W H : Int) (fl : Bool) (W0 H0 : Int) (fx fy px py : Nat) (hn : W * H = n) (h1 : 1 ≤ n) (h2 : n ≤ 65536) (hw : ¬ 512 < W) (hh : ¬ 512 < H) (w : World)
   (hb : Blk w b 87 (rz (.slice none 0 0) (.slice none 0 0) fl W0 H0 fx fy px py)) :
    Calls Try.prog 47 #[.pointer (some ⟨b, 0, none⟩), .int .i64 W, .int .i64 H] w fun e w' => e = .returned (.tuple #[]) ∧ 
      ∃ g, w.heap.size ≤ g ∧ Fresh w' b g n false W H ∧ Kept (· = b) w w' := by
  obtain ⟨c0, c1, c2, c3, c4, c5, c6, c7, c8, c9⟩ := rz_cells hb
  have f3 := hb.frozen 3
  have f4 := hb.frozen 4
  have f5 := hb.frozen 5
  have f6 := hb.frozen 6
  have f7 := hb.frozen 7
  have f8 := hb.frozen 8
  have f9 := hb.frozen 9
  have hlt := hb.lt
  have HB := hid hb
  have HN := hid hn
  clear hb hn
  go_enter Try.func47, Try.ntmps47
  go_wp2_with fail
  have hB := rz_reset (W := W) (H := H) HB.out
  refine (use_make_u b n W H (.slice none 0 0) fl 0 0 0 0 HN.out h1 h2 _ hB).mono ?_
  rintro e w' ⟨rfl, g, hg, hb1, hb2, hk⟩
  go_wp2
  go_end0
  refine ⟨rfl, g, by simpa using hg, ⟨hb1, hb2⟩, ?_⟩
  refine Kept.trans ?_ hk
  iterate 7 (refine Kept.set_in ?_ (by rfl))
  exact Kept.refl _ _

theorem reset_new (b n : Nat) (W H : Int) (fl : Bool) (W0 H0 : Int) (fx fy px py : Nat) (hn : W * H = n) (h1 : 1 ≤ n) (h2 : n ≤ 65536) (w : World)
   (hb : Blk w b 87 (rz (.slice none 0 0) (.slice none 0 0) fl W0 H0 fx fy px py)) :
    Calls Try.prog 47 #[.pointer (some ⟨b, 0, none⟩), .int .i64 W, .int .i64 H] w fun e w' => e = .returned (.tuple #[]) ∧ 
      ∃ g, w.heap.size ≤ g ∧ Fresh w' b g n (decide (512 < W ∨ 512 < H)) W H ∧ Kept (· = b) w w' := by
  by_cases hw : 512 < W
  · have e : decide (512 < W ∨ 512 < H) = true := by simp [hw]
    rw [e]
    exact reset_w b n W H fl W0 H0 fx fy px py hn h1 h2 hw w hb
  · by_cases hh : 512 < H
    · have e : decide (512 < W ∨ 512 < H) = true := by simp [hh]
      rw [e]
      exact reset_h b n W H fl W0 H0 fx fy px py hn h1 h2 hw hh w hb
    · have e : decide (512 < W ∨ 512 < H) = false := by simp [hw, hh]
      rw [e]
      exact reset_n b n W H fl W0 H0 fx fy px py hn h1 h2 hw hh w hb

set_option maxRecDepth 100000 in
theorem new_any (n : Nat) (W H : Int) (hn : W * H = n) (h1 : 1 ≤ n) (h2 : n ≤ 65536) (w : World) :
    Calls Try.prog 36 #[.int .i64 W, .int .i64 H] w fun e w' => ∃ b g, e = .returned (.pointer (some ⟨b, 0, none⟩)) ∧ w.heap.size ≤ b ∧ w.heap.size ≤ g ∧ Fresh w' b g n (decide (512 < W ∨ 512 < H)) W H ∧ Same w w' := by
  have HN := hid hn
  clear hn
  go_enter Try.func36, Try.ntmps36
  go_wp2_with fail
  refine (reset_new w.heap.size n W H false 0 0 0 0 0 0 HN.out h1 h2 _ (Blk.new w 87 (rz (.slice none 0 0) (.slice none 0 0) false 0 0 0 0 0 0))).mono ?_
  rintro e w' ⟨rfl, g, hg, hf, hk⟩
  have HF := hid hf
  clear hf
  go_wp2
  go_ret
  have hg' : w.heap.size + 1 ≤ g := by simpa using hg
  refine ⟨_, g, rfl, Nat.le_refl _, by omega, HF.out, ?_⟩
  have := ((Kept.refl (· = w.heap.size) w).alloc _).trans hk
  exact this.mono fun k hlt he => absurd he (Nat.ne_of_lt hlt)

end Go.Proofs.Ytmgcbodlolnheaa
