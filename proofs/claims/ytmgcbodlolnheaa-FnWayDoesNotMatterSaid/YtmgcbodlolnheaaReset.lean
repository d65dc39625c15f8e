/-
  'ZZUse'; 'Reset' of a Rasterizer that has been used.
-/
import Derived.Test.YtmgcbodlolnheaaUse
namespace Go.Proofs.Ytmgcbodlolnheaa
open Go.ChangeShapes Go.WideShapes Go.ChangeAt Go.RowKit
set_option linter.unusedVariables false

/-- A Rasterizer of W by H pixels, its buffer of zeros, the path not begun. -/
def Ready (mode : Bool) (b D W H : Nat) (o : Value) (fx fy px py : Nat) (w w' : World) : Prop :=
  ∃ g rest, D ≤ g ∧ W * H + rest.length ≤ 65536 ∧ Ras w' b g W H o rest fx fy px py (zeroB mode (W * H)) ∧ Kept (fun k => D ≤ k) w w'
def other (mode : Bool) (f u : Value) : Value := if mode then u else f
/-- The buffer's field that is to be used. -/
def SlotM (mode : Bool) (w : World) (D : Nat) (f u : Value) (cs : List Value) : Prop := SlotAt w D (if mode then f else u) (if mode then 72 else 100) cs
theorem use_all (mode : Bool) (b D W H : Nat) (f u : Value) (fl : Bool) (fx fy px py : Nat) (cs : List Value) (h1 : 1 ≤ W * H) (h2 : W * H ≤ 65536) (hcs : cs.length ≤ 65536) (w : World) (hD : D ≤ b) (hDw : D ≤ w.heap.size)
    (hb : Blk w b 87 (rz f u fl W H fx fy px py)) (hs : SlotM mode w D f u cs) :
    Calls Try.prog 56 #[.pointer (some ⟨b, 0, none⟩), .bool mode] w fun e w' => e = .returned (.tuple #[]) ∧ Ready mode b D W H (other mode f u) fx fy px py w w' :=
  use_any mode b D W H f u fl fx fy px py cs h1 h2 hcs w hD hDw hb hs
theorem zzuse_any (mode : Bool) (b D W H : Nat) (f u : Value) (fl : Bool) (fx fy px py : Nat) (cs : List Value) (h1 : 1 ≤ W * H) (h2 : W * H ≤ 65536) (hcs : cs.length ≤ 65536) (w : World) (hD : D ≤ b) (hDw : D ≤ w.heap.size)
    (hb : Blk w b 87 (rz f u fl W H fx fy px py)) (hs : SlotM mode w D f u cs) :
    Calls Try.prog 44 #[.pointer (some ⟨b, 0, none⟩), .bool mode] w fun e w' => e = .returned (.tuple #[]) ∧ Ready mode b D W H (other mode f u) fx fy px py w w' := by
  have HU := hid (use_all mode b D W H f u fl fx fy px py cs h1 h2 hcs w hD hDw hb hs)
  clear hb hs h1 h2 hcs
  go_enter Try.func44, Try.ntmps44
  go_wp2_with fail
  refine HU.out.mono ?_
  rintro e w' ⟨rfl, hx⟩
  have HX := hid hx
  clear hx
  go_wp2_with fail
  go_end0
  exact ⟨rfl, HX.out⟩

def bigB (W H : Nat) : Bool := decide (512 < (W : Int) ∨ 512 < (H : Int))

theorem slot_reset {mode : Bool} {f u : Value} {cs : List Value} {w w' : World} {D b : Nat} (hk : Kept (· = b) w w') (hb : ∀ g t cs, Blk w g t cs → t ≠ 87 → g ≠ b) (hs : SlotM mode w D f u cs) :
    SlotM mode w' D f u cs := by
  rcases hs with h | ⟨g, len, h1, h2, h3⟩
  · exact .inl h
  · exact .inr ⟨g, len, h1, h2, hk.blk h3 (hb _ _ _ h3 (by cases mode <;> decide))⟩

section
variable (b D W H : Nat) (f u : Value) (fl : Bool) (W0 H0 : Int) (fx fy px py : Nat) (cs : List Value) (w : World)
set_option maxHeartbeats 1000000 in
set_option maxRecDepth 100000 in
theorem reset_used_w (h1 : 1 ≤ W * H) (h2 : W * H ≤ 65536) (hcs : cs.length ≤ 65536) (hD : D ≤ b) (hDw : D ≤ w.heap.size) (hw : 512 < (W : Int))
    (hb : Blk w b 87 (rz f u fl W0 H0 fx fy px py)) (hs : SlotM true w D f u cs) :
    Calls Try.prog 47 #[.pointer (some ⟨b, 0, none⟩), .int .i64 W, .int .i64 H] w fun e w' => e = .returned (.tuple #[]) ∧ Ready true b D W H (other true f u) 0 0 0 0 w w' := by
  obtain ⟨c0, c1, c2, c3, c4, c5, c6, c7, c8, c9⟩ := rz_cells hb
  have f3 := hb.frozen 3
  have f4 := hb.frozen 4
  have f5 := hb.frozen 5
  have f6 := hb.frozen 6
  have f7 := hb.frozen 7
  have f8 := hb.frozen 8
  have f9 := hb.frozen 9
  have HB := hid hb
  have HS := hid hs
  have HD := hid hD
  clear hb hs hD
  go_enter Try.func47, Try.ntmps47
  go_wp2_with fail
  have hB := rz_reset (W := W) (H := H) HB.out
  have hk : Kept (· = b) w (((((((w.setCell ⟨b, 3, none⟩ (.int .i64 W)).setCell ⟨b, 4, none⟩ (.int .i64 H)).setCell ⟨b, 5, none⟩ (.float .f32 0)).setCell ⟨b, 6, none⟩ (.float .f32 0)).setCell ⟨b, 7, none⟩ (.float .f32 0)).setCell ⟨b, 8, none⟩ (.float .f32 0)).setCell ⟨b, 9, none⟩ (.int .i64 0)) := by
    iterate 7 (refine Kept.set_in ?_ (by rfl))
    exact Kept.refl _ _
  have hs2 := slot_reset hk (fun g t cs h ht => h.ne_ HB.out ht) HS.out
  refine (use_all true b D W H f u fl 0 0 0 0 cs h1 h2 hcs _ HD.out (Nat.le_trans hDw hk.size) hB hs2).mono ?_
  rintro e w' ⟨rfl, g, rest, r1, r2, r3, r4⟩
  have R3 := hid r3
  have R4 := hid r4
  clear r3 r4
  go_wp2_with fail
  go_end0
  exact ⟨rfl, g, rest, r1, r2, R3.out, (hk.mono fun k _ he => by have := HD.out; omega).trans R4.out⟩
set_option maxHeartbeats 1000000 in
set_option maxRecDepth 100000 in
theorem reset_used_h (h1 : 1 ≤ W * H) (h2 : W * H ≤ 65536) (hcs : cs.length ≤ 65536) (hD : D ≤ b) (hDw : D ≤ w.heap.size) (hw : ¬ 512 < (W : Int)) (hh : 512 < (H : Int))
    (hb : Blk w b 87 (rz f u fl W0 H0 fx fy px py)) (hs : SlotM true w D f u cs) :
    Calls Try.prog 47 #[.pointer (some ⟨b, 0, none⟩), .int .i64 W, .int .i64 H] w fun e w' => e = .returned (.tuple #[]) ∧ Ready true b D W H (other true f u) 0 0 0 0 w w' := by
  obtain ⟨c0, c1, c2, c3, c4, c5, c6, c7, c8, c9⟩ := rz_cells hb
  have f3 := hb.frozen 3
  have f4 := hb.frozen 4
  have f5 := hb.frozen 5
  have f6 := hb.frozen 6
  have f7 := hb.frozen 7
  have f8 := hb.frozen 8
  have f9 := hb.frozen 9
  have HB := hid hb
  have HS := hid hs
  have HD := hid hD
  clear hb hs hD
  go_enter Try.func47, Try.ntmps47
  go_wp2_with fail
  have hB := rz_reset (W := W) (H := H) HB.out
  have hk : Kept (· = b) w (((((((w.setCell ⟨b, 3, none⟩ (.int .i64 W)).setCell ⟨b, 4, none⟩ (.int .i64 H)).setCell ⟨b, 5, none⟩ (.float .f32 0)).setCell ⟨b, 6, none⟩ (.float .f32 0)).setCell ⟨b, 7, none⟩ (.float .f32 0)).setCell ⟨b, 8, none⟩ (.float .f32 0)).setCell ⟨b, 9, none⟩ (.int .i64 0)) := by
    iterate 7 (refine Kept.set_in ?_ (by rfl))
    exact Kept.refl _ _
  have hs2 := slot_reset hk (fun g t cs h ht => h.ne_ HB.out ht) HS.out
  refine (use_all true b D W H f u fl 0 0 0 0 cs h1 h2 hcs _ HD.out (Nat.le_trans hDw hk.size) hB hs2).mono ?_
  rintro e w' ⟨rfl, g, rest, r1, r2, r3, r4⟩
  have R3 := hid r3
  have R4 := hid r4
  clear r3 r4
  go_wp2_with fail
  go_end0
  exact ⟨rfl, g, rest, r1, r2, R3.out, (hk.mono fun k _ he => by have := HD.out; omega).trans R4.out⟩
set_option maxHeartbeats 1000000 in
set_option maxRecDepth 100000 in
theorem reset_used_n (h1 : 1 ≤ W * H) (h2 : W * H ≤ 65536) (hcs : cs.length ≤ 65536) (hD : D ≤ b) (hDw : D ≤ w.heap.size) (hw : ¬ 512 < (W : Int)) (hh : ¬ 512 < (H : Int))
    (hb : Blk w b 87 (rz f u fl W0 H0 fx fy px py)) (hs : SlotM false w D f u cs) :
    Calls Try.prog 47 #[.pointer (some ⟨b, 0, none⟩), .int .i64 W, .int .i64 H] w fun e w' => e = .returned (.tuple #[]) ∧ Ready false b D W H (other false f u) 0 0 0 0 w w' := by
  obtain ⟨c0, c1, c2, c3, c4, c5, c6, c7, c8, c9⟩ := rz_cells hb
  have f3 := hb.frozen 3
  have f4 := hb.frozen 4
  have f5 := hb.frozen 5
  have f6 := hb.frozen 6
  have f7 := hb.frozen 7
  have f8 := hb.frozen 8
  have f9 := hb.frozen 9
  have HB := hid hb
  have HS := hid hs
  have HD := hid hD
  clear hb hs hD
  go_enter Try.func47, Try.ntmps47
  go_wp2_with fail
  have hB := rz_reset (W := W) (H := H) HB.out
  have hk : Kept (· = b) w (((((((w.setCell ⟨b, 3, none⟩ (.int .i64 W)).setCell ⟨b, 4, none⟩ (.int .i64 H)).setCell ⟨b, 5, none⟩ (.float .f32 0)).setCell ⟨b, 6, none⟩ (.float .f32 0)).setCell ⟨b, 7, none⟩ (.float .f32 0)).setCell ⟨b, 8, none⟩ (.float .f32 0)).setCell ⟨b, 9, none⟩ (.int .i64 0)) := by
    iterate 7 (refine Kept.set_in ?_ (by rfl))
    exact Kept.refl _ _
  have hs2 := slot_reset hk (fun g t cs h ht => h.ne_ HB.out ht) HS.out
  refine (use_all false b D W H f u fl 0 0 0 0 cs h1 h2 hcs _ HD.out (Nat.le_trans hDw hk.size) hB hs2).mono ?_
  rintro e w' ⟨rfl, g, rest, r1, r2, r3, r4⟩
  have R3 := hid r3
  have R4 := hid r4
  clear r3 r4
  go_wp2_with fail
  go_end0
  exact ⟨rfl, g, rest, r1, r2, R3.out, (hk.mono fun k _ he => by have := HD.out; omega).trans R4.out⟩
/-- 'Reset' of any Rasterizer. -/
theorem reset_any (h1 : 1 ≤ W * H) (h2 : W * H ≤ 65536) (hcs : cs.length ≤ 65536) (hD : D ≤ b) (hDw : D ≤ w.heap.size)
    (hb : Blk w b 87 (rz f u fl W0 H0 fx fy px py)) (hs : SlotM (bigB W H) w D f u cs) :
    Calls Try.prog 47 #[.pointer (some ⟨b, 0, none⟩), .int .i64 W, .int .i64 H] w fun e w' => e = .returned (.tuple #[]) ∧ Ready (bigB W H) b D W H (other (bigB W H) f u) 0 0 0 0 w w' := by
  by_cases hw : 512 < (W : Int)
  · have e : bigB W H = true := by simp [bigB, hw]
    rw [e] at hs ⊢
    exact reset_used_w b D W H f u fl W0 H0 fx fy px py cs w h1 h2 hcs hD hDw hw hb hs
  · by_cases hh : 512 < (H : Int)
    · have e : bigB W H = true := by simp [bigB, hh]
      rw [e] at hs ⊢
      exact reset_used_h b D W H f u fl W0 H0 fx fy px py cs w h1 h2 hcs hD hDw hw hh hb hs
    · have e : bigB W H = false := by simp [bigB, hw, hh]
      rw [e] at hs ⊢
      exact reset_used_n b D W H f u fl W0 H0 fx fy px py cs w h1 h2 hcs hD hDw hw hh hb hs
end
end Go.Proofs.Ytmgcbodlolnheaa
