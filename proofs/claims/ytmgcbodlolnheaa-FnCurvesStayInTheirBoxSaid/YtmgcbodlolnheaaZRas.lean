/-
  A Rasterizer's state, either arithmetic; LineTo, MoveTo, ClosePath, Pen.
-/
import Derived.Test.YtmgcbodlolnheaaZFloLine
import Derived.Test.YtmgcbodlolnheaaZFixLine
import Derived.Deep.RegionHeld3
namespace Go.Proofs.Ytmgcbodlolnheaa
open Go.ChangeShapes Go.WideShapes Go.ChangeAt Go.RowKit
set_option linter.unusedVariables false

theorem Kept.of_drew {S : Nat → Prop} {w w' : World} (h : Kept S w.drew w') : Kept S w w' := ⟨h.os, h.tape, h.output, h.size, h.block⟩
theorem Kept.of_drewN {S : Nat → Prop} {w w' : World} {n : Nat} (h : Kept S (w.drewN n) w') : Kept S w w' := ⟨h.os, h.tape, h.output, h.size, h.block⟩
/-- The accumulation buffer in use. -/
inductive Buf where
  | fix (l : List Int)
  | flo (l : List Nat)
def Buf.len : Buf → Nat
  | .fix l => l.length
  | .flo l => l.length
def Buf.mode : Buf → Bool
  | .fix _ => false
  | .flo _ => true

/-- A Rasterizer at block b of W by H pixels, its buffer at block g (the other buffer is o), its path begun at (fx, fy), the pen at (px, py). -/
def Ras (w : World) (b g W H : Nat) (o : Value) (rest : List Value) (fx fy px py : Nat) : Buf → Prop
  | .fix l => Blk w b 87 (rz o (.slice (some ⟨g, 0, none⟩) (W * H) (W * H + rest.length)) false W H fx fy px py) ∧ Blk w g 100 (bufCells l rest) ∧ l.length = W * H
  | .flo l => Blk w b 87 (rz (.slice (some ⟨g, 0, none⟩) (W * H) (W * H + rest.length)) o true W H fx fy px py) ∧ Blk w g 72 (fbufCells l rest) ∧ l.length = W * H
/-- The sizes. -/
structure Dims (W H : Nat) (rest : List Value) : Prop where
  w1 : 1 ≤ W
  w2 : W ≤ 2000
  h1 : 1 ≤ H
  h2 : H ≤ 2000
  n : W * H ≤ 100000
  c : W * H + rest.length ≤ 100000
/-- What may turn: the Rasterizer and its buffer. -/
abbrev KS (b g : Nat) : Nat → Prop := fun k => k = b ∨ k = g

section
variable {w w' : World} {b g W H : Nat} {o : Value} {rest : List Value} {fx fy px py : Nat} {B : Buf}
theorem Ras.cells (h : Ras w b g W H o rest fx fy px py B) : ∃ f u, Blk w b 87 (rz f u B.mode W H fx fy px py) := by
  cases B with
  | fix l => exact ⟨_, _, h.1⟩
  | flo l => exact ⟨_, _, h.1⟩
theorem Ras.same (h : Ras w b g W H o rest fx fy px py B) (hs : Same w w') : Ras w' b g W H o rest fx fy px py B := by
  cases B with
  | fix l => exact ⟨hs.blk h.1 id, hs.blk h.2.1 id, h.2.2⟩
  | flo l => exact ⟨hs.blk h.1 id, hs.blk h.2.1 id, h.2.2⟩
theorem Ras.drew (h : Ras w b g W H o rest fx fy px py B) : Ras w.drew b g W H o rest fx fy px py B := by
  cases B with
  | fix l => exact h
  | flo l => exact h
theorem Ras.drewN (h : Ras w b g W H o rest fx fy px py B) (n : Nat) : Ras (w.drewN n) b g W H o rest fx fy px py B := by
  cases B with
  | fix l => exact h
  | flo l => exact h
theorem Ras.lt (h : Ras w b g W H o rest fx fy px py B) : b < w.heap.size ∧ g < w.heap.size := by
  cases B with
  | fix l => exact ⟨h.1.lt, h.2.1.lt⟩
  | flo l => exact ⟨h.1.lt, h.2.1.lt⟩
theorem Ras.ne (h : Ras w b g W H o rest fx fy px py B) : b ≠ g := by
  cases B with
  | fix l => exact h.1.ne_ h.2.1 (by decide)
  | flo l => exact h.1.ne_ h.2.1 (by decide)
theorem Ras.moved (h : Ras w b g W H o rest fx fy px py B) {ax ay : Nat} :
    Ras ((((w.setCell ⟨b, 5, none⟩ (.float .f32 ax)).setCell ⟨b, 6, none⟩ (.float .f32 ay)).setCell ⟨b, 7, none⟩ (.float .f32 ax)).setCell ⟨b, 8, none⟩ (.float .f32 ay)) b g W H o rest ax ay ax ay B := by
  have hne := h.ne
  cases B with
  | fix l =>
    refine ⟨?_, (((h.2.1.far (p := ⟨b, 5, none⟩) hne.symm _).far (p := ⟨b, 6, none⟩) hne.symm _).far (p := ⟨b, 7, none⟩) hne.symm _).far (p := ⟨b, 8, none⟩) hne.symm _, h.2.2⟩
    have := (((h.1.set_ 5 (.float .f32 ax)).set_ 6 (.float .f32 ay)).set_ 7 (.float .f32 ax)).set_ 8 (.float .f32 ay)
    simpa [rz] using this
  | flo l =>
    refine ⟨?_, (((h.2.1.far (p := ⟨b, 5, none⟩) hne.symm _).far (p := ⟨b, 6, none⟩) hne.symm _).far (p := ⟨b, 7, none⟩) hne.symm _).far (p := ⟨b, 8, none⟩) hne.symm _, h.2.2⟩
    have := (((h.1.set_ 5 (.float .f32 ax)).set_ 6 (.float .f32 ay)).set_ 7 (.float .f32 ax)).set_ 8 (.float .f32 ay)
    simpa [rz] using this
end

/-- A line to (qx, qy). -/
def lineB (W : Nat) (H : Int) (px py qx qy : Nat) : Buf → Buf
  | .fix l => .fix (fixLine W H px py qx qy l)
  | .flo l => .flo (fadds (floLine W H px py qx qy) l)
def LineOk (W : Nat) (H : Int) (px py qx qy : Nat) : Buf → Prop
  | .fix _ => FixOk H px py qx qy
  | .flo l => FloOk H px py qx qy ∧ FaddsOk (floLine W H px py qx qy) l
theorem line_any (b g W H : Nat) (o : Value) (rest : List Value) (fx fy px py qx qy : Nat) (B : Buf) (w : World) (hd : Dims W H rest)
    (h : Ras w b g W H o rest fx fy px py B) (hok : LineOk W H px py qx qy B) :
    Calls Try.prog 50 #[.pointer (some ⟨b, 0, none⟩), .float .f32 qx, .float .f32 qy] w fun e w' => e = .returned (.tuple #[]) ∧
      Ras w' b g W H o rest fx fy qx qy (lineB W H px py qx qy B) ∧ Kept (KS b g) w w' := by
  cases B with
  | fix l =>
    obtain ⟨h1, h2, h3⟩ := h
    have c2 := (rz_cells h1).2.2.1
    have h1 := hid h1
    have h2 := hid h2
    have h3 := hid h3
    have hok := hid hok
    go_enter Try.func50, Try.ntmps50
    go_wp2_with fail
    refine (fixed_any b g (W * H) W H o fx fy px py qx qy l rest w h1.out h2.out h3.out hd.w2 hd.w1 hd.h2 rfl hd.n hd.c hok.out).mono ?_
    rintro e w' ⟨rfl, r1, r2, r3⟩
    go_wp2
    go_end0
    exact ⟨rfl, ⟨r1, r2, by rw [length_fixLine]; exact h3.out⟩, r3⟩
  | flo l =>
    obtain ⟨h1, h2, h3⟩ := h
    have c2 := (rz_cells h1).2.2.1
    have h1 := hid h1
    have h2 := hid h2
    have h3 := hid h3
    have hok := hid hok
    go_enter Try.func50, Try.ntmps50
    go_wp2_with fail
    refine (floating_any b g (W * H) W H o fx fy px py qx qy l rest w h1.out h2.out h3.out hd.w2 hd.w1 hd.h2 rfl hd.n hd.c hok.out.1 hok.out.2).mono ?_
    rintro e w' ⟨rfl, r1, r2, r3⟩
    go_wp2
    go_end0
    exact ⟨rfl, ⟨r1, r2, by rw [length_fadds]; exact h3.out⟩, r3⟩

theorem move_any (b g W H : Nat) (o : Value) (rest : List Value) (fx fy px py ax ay : Nat) (B : Buf) (w : World)
    (h : Ras w b g W H o rest fx fy px py B) :
    Calls Try.prog 48 #[.pointer (some ⟨b, 0, none⟩), .float .f32 ax, .float .f32 ay] w fun e w' => e = .returned (.tuple #[]) ∧
      Ras w' b g W H o rest ax ay ax ay B ∧ Kept (KS b g) w w' := by
  obtain ⟨f, u, hb⟩ := h.cells
  obtain ⟨c0, c1, c2, c3, c4, c5, c6, c7, c8, c9⟩ := rz_cells hb
  have f5 := hb.frozen 5
  have f6 := hb.frozen 6
  have f7 := hb.frozen 7
  have f8 := hb.frozen 8
  have HR := hid h
  clear h hb c0 c1 c2 c3 c4 c9
  go_enter Try.func48, Try.ntmps48
  go_wp2
  go_end0
  refine ⟨rfl, HR.out.moved, ?_⟩
  iterate 4 (refine Kept.set_in ?_ (.inl rfl))
  exact Kept.refl _ _

set_option maxRecDepth 100000 in
theorem close_any (b g W H : Nat) (o : Value) (rest : List Value) (fx fy px py : Nat) (B : Buf) (w : World) (hd : Dims W H rest)
    (h : Ras w b g W H o rest fx fy px py B) (hok : LineOk W H px py fx fy B) :
    Calls Try.prog 53 #[.pointer (some ⟨b, 0, none⟩)] w fun e w' => e = .returned (.tuple #[]) ∧
      Ras w' b g W H o rest fx fy fx fy (lineB W H px py fx fy B) ∧ Kept (KS b g) w w' := by
  obtain ⟨f, u, hb⟩ := h.cells
  obtain ⟨c0, c1, c2, c3, c4, c5, c6, c7, c8, c9⟩ := rz_cells hb
  have HR := hid h
  have HOK := hid hok
  clear h hb c0 c1 c2 c3 c4 c7 c8 c9 hok
  go_enter Try.func53, Try.ntmps53
  go_wp2
  go_region_with (go_at_call 50; refine (line_any b g W H o rest fx fy px py fx fy B _ hd HR.out.drew HOK.out).mono ?_; rintro e w' ⟨rfl, r1, r2⟩)
  all_goals (go_end0; exact ⟨rfl, r1, r2.of_drew⟩)
end Go.Proofs.Ytmgcbodlolnheaa
