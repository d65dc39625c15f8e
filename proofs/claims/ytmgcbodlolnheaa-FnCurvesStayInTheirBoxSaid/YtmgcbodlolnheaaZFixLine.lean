/-
  'fixedLineTo': what it leaves in the buffer, as a plain function; its contract.
-/
import Derived.Test.YtmgcbodlolnheaaZFixLoop
import Derived.Test.YtmgcbodlolnheaaZNew
namespace Go.Proofs.Ytmgcbodlolnheaa
open Go.ChangeShapes Go.WideShapes Go.ChangeAt Go.RowKit
set_option linter.unusedVariables false

theorem rz_pen {w : World} {b : Nat} {f u : Value} {fl : Bool} {W H : Int} {fx fy px py : Nat} (qx qy : Nat) (h : Blk w b 87 (rz f u fl W H fx fy px py)) :
    Blk ((w.setCell ⟨b, 7, none⟩ (.float .f32 qx)).setCell ⟨b, 8, none⟩ (.float .f32 qy)) b 87 (rz f u fl W H fx fy qx qy) := by
  have := (h.set_ 7 (.float .f32 qx)).set_ 8 (.float .f32 qy)
  simpa [rz] using this

/-- An upward or downward line in the numbers of fixed point. -/
def fxl (s : Bool) (ax ay bx qy : Nat) : FL :=
  ⟨fint (fop .mul ay 1140850688), fint (fop .mul qy 1140850688), if s then -1 else 1, fop .quo (fop .sub bx ax) (fop .sub qy ay)⟩
/-- The row at which the line ends, within H. -/
def fxEnd (qy : Nat) (H : Int) : Int := if H < (fint (fop .mul qy 1140850688) + 511) / 512 then H else (fint (fop .mul qy 1140850688) + 511) / 512
def fxBeg (ay : Nat) : Int := fint (fop .mul ay 1140850688) / 512

/-- The line from (ax, ay) to (bx, qy), ay not below qy ('s': it was gone the other way). -/
def fixUp (s : Bool) (W : Nat) (H : Int) (ax ay bx qy : Nat) (l : List Int) : List Int :=
  if fle (fop .sub qy ay) 897988541 = true then l
  else (fxl s ax ay bx qy).run W (fxEnd qy H - fxBeg ay).toNat (fxBeg ay) (fint (fop .mul ax 1140850688)) l
/-- What makes it go well. -/
def FixUpOk (s : Bool) (H : Int) (ax ay bx qy : Nat) : Prop :=
  Fok .sub qy ay ∧ (fle (fop .sub qy ay) 897988541 = false →
    Fok .sub bx ax ∧ Fok .quo (fop .sub bx ax) (fop .sub qy ay) ∧ Fok .mul ay 1140850688 ∧ Iok (fop .mul ay 1140850688) ∧ Fok .mul qy 1140850688 ∧ Iok (fop .mul qy 1140850688) ∧
    Fok .mul ax 1140850688 ∧ Iok (fop .mul ax 1140850688) ∧ -500000000 ≤ fint (fop .mul ay 1140850688) ∧ fint (fop .mul qy 1140850688) ≤ 2000000000 ∧ -2000000000 ≤ fint (fop .mul qy 1140850688) ∧
    (fxl s ax ay bx qy).ok (fxEnd qy H - fxBeg ay).toNat (fxBeg ay) (fint (fop .mul ax 1140850688)))

theorem fxEnd_over {qy : Nat} {H : Int} (h : H < (fint (fop .mul qy 1140850688) + 511) / 512) : fxEnd qy H = H := if_pos h
theorem fxEnd_in {qy : Nat} {H : Int} (h : ¬ H < (fint (fop .mul qy 1140850688) + 511) / 512) : fxEnd qy H = (fint (fop .mul qy 1140850688) + 511) / 512 := if_neg h
theorem fxEnd_le (qy : Nat) (H : Int) : fxEnd qy H ≤ H := by unfold fxEnd; split <;> omega
theorem fle_false {a b : Nat} (h : fle a b = false) : (FloatKind.f32.format.order a b == some Ordering.lt) = false ∧ (FloatKind.f32.format.order a b == some Ordering.eq) = false := by
  unfold fle at h
  simpa using h
theorem fle_true {a b : Nat} (h : fle a b = true) : (FloatKind.f32.format.order a b == some Ordering.lt || FloatKind.f32.format.order a b == some Ordering.eq) = true := h

set_option maxHeartbeats 2000000 in
set_option maxRecDepth 100000 in
theorem fixed_down (b g n W H : Nat) (fv : Value) (fx fy px py qx qy : Nat) (l : List Int) (rest : List Value) (w : World)
    (hs : (FloatKind.f32.format.order py qy == some Ordering.gt) = true)
    (hb : Blk w b 87 (rz fv (.slice (some ⟨g, 0, none⟩) n (n + rest.length)) false W H fx fy px py)) (hg : Blk w g 100 (bufCells l rest)) (hl : l.length = n)
    (hW : W ≤ 2000) (hW1 : 1 ≤ W) (hH : H ≤ 2000) (hn : W * H = n) (hn1 : n ≤ 100000) (hcap : n + rest.length ≤ 100000)
    (hok : FixUpOk true H qx qy px py) :
    Calls Try.prog 59 #[.pointer (some ⟨b, 0, none⟩), .float .f32 qx, .float .f32 qy] w fun e w' => e = .returned (.tuple #[]) ∧
      Blk w' b 87 (rz fv (.slice (some ⟨g, 0, none⟩) n (n + rest.length)) false W H fx fy qx qy) ∧ Blk w' g 100 (bufCells (fixUp true W H qx qy px py l) rest) ∧ Kept (fun k => k = b ∨ k = g) w w' := by
  by_cases hfl : fle (fop .sub py qy) 897988541 = true
  · obtain ⟨c0, c1, c2, c3, c4, c5, c6, c7, c8, c9⟩ := rz_cells hb
    have f7 := hb.frozen 7
    have f8 := hb.frozen 8
    have HB := hid hb
    have HG := hid hg
    have HL := hid hl
    have HN := hid hn
    clear c0 c1 c2 c5 c6 c9 hb hg hl hn
    have hfl' := fle_true hfl
    obtain ⟨q1, _⟩ := hok
    have HFL := hid hfl
    clear hfl
    go_enter Try.func59, Try.ntmps59
    go_wp2_with fail
    go_region
    go_wp2_with fail
    refine bodyPost_ret (results_none rfl _ _ _) rfl ⟨rfl, (rz_pen qx qy HB.out).drew, ?_, ?_⟩
    · have hgb := HB.out.ne_ HG.out (by decide)
      have : fixUp true W H qx qy px py l = l := by unfold fixUp; rw [if_pos HFL.out]
      rw [this]
      exact (((HG.out.far (p := ⟨b, 7, none⟩) hgb.symm _).far (p := ⟨b, 8, none⟩) hgb.symm _).drew)
    · exact (((Kept.refl (fun k => k = b ∨ k = g) w).set_in (.inl rfl)).set_in (.inl rfl)).drew
  have hfl := Bool.eq_false_iff.2 hfl
  by_cases hov : (H : Int) < (fint (fop .mul py 1140850688) + 511) / 512
  · obtain ⟨c0, c1, c2, c3, c4, c5, c6, c7, c8, c9⟩ := rz_cells hb
    have f7 := hb.frozen 7
    have f8 := hb.frozen 8
    have HB := hid hb
    have HG := hid hg
    have HL := hid hl
    have HN := hid hn
    clear c0 c1 c2 c5 c6 c9 hb hg hl hn
    obtain ⟨q1, hok⟩ := hok
    obtain ⟨q2, q3, q4, q5, q6, q7, q8, q9, r1, r2, r3, hrun⟩ := hok hfl
    obtain ⟨hf1, hf2⟩ := fle_false hfl
    have HR := hid hrun
    have HF := hid hfl
    have HOV := hid hov
    clear hrun hfl
    go_enter Try.func59, Try.ntmps59
    go_wp2_with fail
    go_region
    go_wp2_with (first | (go_at_call 68; refine (fixedFloor_any _ _).mono ?_; rintro e w' ⟨rfl, rfl⟩) | (go_at_call 69; refine (fixedCeil_any _ _ (by omega) (by omega)).mono ?_; rintro e w' ⟨rfl, rfl⟩))
    have HE := fxEnd_over (qy := py) (H := (H : Int)) (by have := HOV.out; omega)
    have hle := fxEnd_le py (H : Int)
    rw [HE] at hle
    have hgb := HB.out.ne_ HG.out (by decide)
    have hz := (rz_pen qx qy HB.out).drew
    have hg2 := (((HG.out.far (p := ⟨b, 7, none⟩) hgb.symm (.float .f32 qx)).far (p := ⟨b, 8, none⟩) hgb.symm (.float .f32 qy)).drew)
    refine loop59 _ (fxl true qx qy px py) b g n W H ↑H _ _ _ _ _ _ _ _ _ _ _ _ _ _ _ _ _ _ _ _ _ _ _ _ _ _ _ _ _ _ _ _ _ _ _ _ _ _ _ _ _ _ _ _ _ _ _ _ _ _ _ _ _ _ _ _ _ _ _ _ _ _ _ _ _ _ _ _ _ _ _ _ _ _ (fun _ => undef) _ rest _ (fxEnd py H - fxBeg qy).toNat (fint (fop .mul qx 1140850688)) (fxBeg qy) l
      hW hW1 hH HN.out hn1 hcap hle (by simp [fxl]) (by rw [HE]) (by unfold fxBeg; omega) HR.out HL.out hz rfl hg2 ?_
    intro a' w' hd hb' hk'
    simp only [Exit.inBlock, ↓reduceIte]
    go_big_unhide
    refine bodyPost_end (results_none rfl _ _ _) hd ⟨rfl, hk'.blk hz hgb, ?_, ?_⟩
    · have : fixUp true W H qx qy px py l = (fxl true qx qy px py).run W (fxEnd py H - fxBeg qy).toNat (fxBeg qy) (fint (fop .mul qx 1140850688)) l := by
        unfold fixUp; rw [if_neg (by rw [HF.out]; decide)]
      rw [this]
      exact hb'
    · exact ((((Kept.refl (fun k => k = b ∨ k = g) w).set_in (.inl rfl)).set_in (.inl rfl)).drew).trans (hk'.mono fun _ _ h => .inr h)
  · obtain ⟨c0, c1, c2, c3, c4, c5, c6, c7, c8, c9⟩ := rz_cells hb
    have f7 := hb.frozen 7
    have f8 := hb.frozen 8
    have HB := hid hb
    have HG := hid hg
    have HL := hid hl
    have HN := hid hn
    clear c0 c1 c2 c5 c6 c9 hb hg hl hn
    obtain ⟨q1, hok⟩ := hok
    obtain ⟨q2, q3, q4, q5, q6, q7, q8, q9, r1, r2, r3, hrun⟩ := hok hfl
    obtain ⟨hf1, hf2⟩ := fle_false hfl
    have HR := hid hrun
    have HF := hid hfl
    have HOV := hid hov
    clear hrun hfl
    go_enter Try.func59, Try.ntmps59
    go_wp2_with fail
    go_region
    go_wp2_with (first | (go_at_call 68; refine (fixedFloor_any _ _).mono ?_; rintro e w' ⟨rfl, rfl⟩) | (go_at_call 69; refine (fixedCeil_any _ _ (by omega) (by omega)).mono ?_; rintro e w' ⟨rfl, rfl⟩))
    have HE := fxEnd_in (qy := py) (H := (H : Int)) (by have := HOV.out; omega)
    have hle := fxEnd_le py (H : Int)
    rw [HE] at hle
    have hgb := HB.out.ne_ HG.out (by decide)
    have hz := (rz_pen qx qy HB.out).drew
    have hg2 := (((HG.out.far (p := ⟨b, 7, none⟩) hgb.symm (.float .f32 qx)).far (p := ⟨b, 8, none⟩) hgb.symm (.float .f32 qy)).drew)
    refine loop59 _ (fxl true qx qy px py) b g n W H ((fint (fop .mul py 1140850688) + 511) / 512) _ _ _ _ _ _ _ _ _ _ _ _ _ _ _ _ _ _ _ _ _ _ _ _ _ _ _ _ _ _ _ _ _ _ _ _ _ _ _ _ _ _ _ _ _ _ _ _ _ _ _ _ _ _ _ _ _ _ _ _ _ _ _ _ _ _ _ _ _ _ _ _ _ _ (fun _ => undef) _ rest _ (fxEnd py H - fxBeg qy).toNat (fint (fop .mul qx 1140850688)) (fxBeg qy) l
      hW hW1 hH HN.out hn1 hcap hle (by simp [fxl]) (by rw [HE]) (by unfold fxBeg; omega) HR.out HL.out hz rfl hg2 ?_
    intro a' w' hd hb' hk'
    simp only [Exit.inBlock, ↓reduceIte]
    go_big_unhide
    refine bodyPost_end (results_none rfl _ _ _) hd ⟨rfl, hk'.blk hz hgb, ?_, ?_⟩
    · have : fixUp true W H qx qy px py l = (fxl true qx qy px py).run W (fxEnd py H - fxBeg qy).toNat (fxBeg qy) (fint (fop .mul qx 1140850688)) l := by
        unfold fixUp; rw [if_neg (by rw [HF.out]; decide)]
      rw [this]
      exact hb'
    · exact ((((Kept.refl (fun k => k = b ∨ k = g) w).set_in (.inl rfl)).set_in (.inl rfl)).drew).trans (hk'.mono fun _ _ h => .inr h)
set_option maxHeartbeats 2000000 in
set_option maxRecDepth 100000 in
theorem fixed_up (b g n W H : Nat) (fv : Value) (fx fy px py qx qy : Nat) (l : List Int) (rest : List Value) (w : World)
    (hs : (FloatKind.f32.format.order py qy == some Ordering.gt) = false)
    (hb : Blk w b 87 (rz fv (.slice (some ⟨g, 0, none⟩) n (n + rest.length)) false W H fx fy px py)) (hg : Blk w g 100 (bufCells l rest)) (hl : l.length = n)
    (hW : W ≤ 2000) (hW1 : 1 ≤ W) (hH : H ≤ 2000) (hn : W * H = n) (hn1 : n ≤ 100000) (hcap : n + rest.length ≤ 100000)
    (hok : FixUpOk false H px py qx qy) :
    Calls Try.prog 59 #[.pointer (some ⟨b, 0, none⟩), .float .f32 qx, .float .f32 qy] w fun e w' => e = .returned (.tuple #[]) ∧
      Blk w' b 87 (rz fv (.slice (some ⟨g, 0, none⟩) n (n + rest.length)) false W H fx fy qx qy) ∧ Blk w' g 100 (bufCells (fixUp false W H px py qx qy l) rest) ∧ Kept (fun k => k = b ∨ k = g) w w' := by
  by_cases hfl : fle (fop .sub qy py) 897988541 = true
  · obtain ⟨c0, c1, c2, c3, c4, c5, c6, c7, c8, c9⟩ := rz_cells hb
    have f7 := hb.frozen 7
    have f8 := hb.frozen 8
    have HB := hid hb
    have HG := hid hg
    have HL := hid hl
    have HN := hid hn
    clear c0 c1 c2 c5 c6 c9 hb hg hl hn
    have hfl' := fle_true hfl
    obtain ⟨q1, _⟩ := hok
    have HFL := hid hfl
    clear hfl
    go_enter Try.func59, Try.ntmps59
    go_wp2_with fail
    go_region
    go_wp2_with fail
    refine bodyPost_ret (results_none rfl _ _ _) rfl ⟨rfl, (rz_pen qx qy HB.out).drew, ?_, ?_⟩
    · have hgb := HB.out.ne_ HG.out (by decide)
      have : fixUp false W H px py qx qy l = l := by unfold fixUp; rw [if_pos HFL.out]
      rw [this]
      exact (((HG.out.far (p := ⟨b, 7, none⟩) hgb.symm _).far (p := ⟨b, 8, none⟩) hgb.symm _).drew)
    · exact (((Kept.refl (fun k => k = b ∨ k = g) w).set_in (.inl rfl)).set_in (.inl rfl)).drew
  have hfl := Bool.eq_false_iff.2 hfl
  by_cases hov : (H : Int) < (fint (fop .mul qy 1140850688) + 511) / 512
  · obtain ⟨c0, c1, c2, c3, c4, c5, c6, c7, c8, c9⟩ := rz_cells hb
    have f7 := hb.frozen 7
    have f8 := hb.frozen 8
    have HB := hid hb
    have HG := hid hg
    have HL := hid hl
    have HN := hid hn
    clear c0 c1 c2 c5 c6 c9 hb hg hl hn
    obtain ⟨q1, hok⟩ := hok
    obtain ⟨q2, q3, q4, q5, q6, q7, q8, q9, r1, r2, r3, hrun⟩ := hok hfl
    obtain ⟨hf1, hf2⟩ := fle_false hfl
    have HR := hid hrun
    have HF := hid hfl
    have HOV := hid hov
    clear hrun hfl
    go_enter Try.func59, Try.ntmps59
    go_wp2_with fail
    go_region
    go_wp2_with (first | (go_at_call 68; refine (fixedFloor_any _ _).mono ?_; rintro e w' ⟨rfl, rfl⟩) | (go_at_call 69; refine (fixedCeil_any _ _ (by omega) (by omega)).mono ?_; rintro e w' ⟨rfl, rfl⟩))
    have HE := fxEnd_over (qy := qy) (H := (H : Int)) (by have := HOV.out; omega)
    have hle := fxEnd_le qy (H : Int)
    rw [HE] at hle
    have hgb := HB.out.ne_ HG.out (by decide)
    have hz := (rz_pen qx qy HB.out).drew
    have hg2 := (((HG.out.far (p := ⟨b, 7, none⟩) hgb.symm (.float .f32 qx)).far (p := ⟨b, 8, none⟩) hgb.symm (.float .f32 qy)).drew)
    refine loop59 _ (fxl false px py qx qy) b g n W H ↑H _ _ _ _ _ _ _ _ _ _ _ _ _ _ _ _ _ _ _ _ _ _ _ _ _ _ _ _ _ _ _ _ _ _ _ _ _ _ _ _ _ _ _ _ _ _ _ _ _ _ _ _ _ _ _ _ _ _ _ _ _ _ _ _ _ _ _ _ _ _ _ _ _ _ (fun _ => undef) _ rest _ (fxEnd qy H - fxBeg py).toNat (fint (fop .mul px 1140850688)) (fxBeg py) l
      hW hW1 hH HN.out hn1 hcap hle (by simp [fxl]) (by rw [HE]) (by unfold fxBeg; omega) HR.out HL.out hz rfl hg2 ?_
    intro a' w' hd hb' hk'
    simp only [Exit.inBlock, ↓reduceIte]
    go_big_unhide
    refine bodyPost_end (results_none rfl _ _ _) hd ⟨rfl, hk'.blk hz hgb, ?_, ?_⟩
    · have : fixUp false W H px py qx qy l = (fxl false px py qx qy).run W (fxEnd qy H - fxBeg py).toNat (fxBeg py) (fint (fop .mul px 1140850688)) l := by
        unfold fixUp; rw [if_neg (by rw [HF.out]; decide)]
      rw [this]
      exact hb'
    · exact ((((Kept.refl (fun k => k = b ∨ k = g) w).set_in (.inl rfl)).set_in (.inl rfl)).drew).trans (hk'.mono fun _ _ h => .inr h)
  · obtain ⟨c0, c1, c2, c3, c4, c5, c6, c7, c8, c9⟩ := rz_cells hb
    have f7 := hb.frozen 7
    have f8 := hb.frozen 8
    have HB := hid hb
    have HG := hid hg
    have HL := hid hl
    have HN := hid hn
    clear c0 c1 c2 c5 c6 c9 hb hg hl hn
    obtain ⟨q1, hok⟩ := hok
    obtain ⟨q2, q3, q4, q5, q6, q7, q8, q9, r1, r2, r3, hrun⟩ := hok hfl
    obtain ⟨hf1, hf2⟩ := fle_false hfl
    have HR := hid hrun
    have HF := hid hfl
    have HOV := hid hov
    clear hrun hfl
    go_enter Try.func59, Try.ntmps59
    go_wp2_with fail
    go_region
    go_wp2_with (first | (go_at_call 68; refine (fixedFloor_any _ _).mono ?_; rintro e w' ⟨rfl, rfl⟩) | (go_at_call 69; refine (fixedCeil_any _ _ (by omega) (by omega)).mono ?_; rintro e w' ⟨rfl, rfl⟩))
    have HE := fxEnd_in (qy := qy) (H := (H : Int)) (by have := HOV.out; omega)
    have hle := fxEnd_le qy (H : Int)
    rw [HE] at hle
    have hgb := HB.out.ne_ HG.out (by decide)
    have hz := (rz_pen qx qy HB.out).drew
    have hg2 := (((HG.out.far (p := ⟨b, 7, none⟩) hgb.symm (.float .f32 qx)).far (p := ⟨b, 8, none⟩) hgb.symm (.float .f32 qy)).drew)
    refine loop59 _ (fxl false px py qx qy) b g n W H ((fint (fop .mul qy 1140850688) + 511) / 512) _ _ _ _ _ _ _ _ _ _ _ _ _ _ _ _ _ _ _ _ _ _ _ _ _ _ _ _ _ _ _ _ _ _ _ _ _ _ _ _ _ _ _ _ _ _ _ _ _ _ _ _ _ _ _ _ _ _ _ _ _ _ _ _ _ _ _ _ _ _ _ _ _ _ (fun _ => undef) _ rest _ (fxEnd qy H - fxBeg py).toNat (fint (fop .mul px 1140850688)) (fxBeg py) l
      hW hW1 hH HN.out hn1 hcap hle (by simp [fxl]) (by rw [HE]) (by unfold fxBeg; omega) HR.out HL.out hz rfl hg2 ?_
    intro a' w' hd hb' hk'
    simp only [Exit.inBlock, ↓reduceIte]
    go_big_unhide
    refine bodyPost_end (results_none rfl _ _ _) hd ⟨rfl, hk'.blk hz hgb, ?_, ?_⟩
    · have : fixUp false W H px py qx qy l = (fxl false px py qx qy).run W (fxEnd qy H - fxBeg py).toNat (fxBeg py) (fint (fop .mul px 1140850688)) l := by
        unfold fixUp; rw [if_neg (by rw [HF.out]; decide)]
      rw [this]
      exact hb'
    · exact ((((Kept.refl (fun k => k = b ∨ k = g) w).set_in (.inl rfl)).set_in (.inl rfl)).drew).trans (hk'.mono fun _ _ h => .inr h)
/-- 'fixedLineTo (qx, qy)' from the pen (px, py). -/
def fixLine (W : Nat) (H : Int) (px py qx qy : Nat) (l : List Int) : List Int :=
  if fgt py qy = true then fixUp true W H qx qy px py l else fixUp false W H px py qx qy l
def FixOk (H : Int) (px py qx qy : Nat) : Prop := if fgt py qy = true then FixUpOk true H qx qy px py else FixUpOk false H px py qx qy

theorem fixed_any (b g n W H : Nat) (fv : Value) (fx fy px py qx qy : Nat) (l : List Int) (rest : List Value) (w : World)
    (hb : Blk w b 87 (rz fv (.slice (some ⟨g, 0, none⟩) n (n + rest.length)) false W H fx fy px py)) (hg : Blk w g 100 (bufCells l rest)) (hl : l.length = n)
    (hW : W ≤ 2000) (hW1 : 1 ≤ W) (hH : H ≤ 2000) (hn : W * H = n) (hn1 : n ≤ 100000) (hcap : n + rest.length ≤ 100000) (hok : FixOk H px py qx qy) :
    Calls Try.prog 59 #[.pointer (some ⟨b, 0, none⟩), .float .f32 qx, .float .f32 qy] w fun e w' => e = .returned (.tuple #[]) ∧
      Blk w' b 87 (rz fv (.slice (some ⟨g, 0, none⟩) n (n + rest.length)) false W H fx fy qx qy) ∧ Blk w' g 100 (bufCells (fixLine W H px py qx qy l) rest) ∧ Kept (fun k => k = b ∨ k = g) w w' := by
  unfold fixLine
  unfold FixOk at hok
  by_cases h : fgt py qy = true
  · rw [if_pos h] at hok ⊢
    exact fixed_down b g n W H fv fx fy px py qx qy l rest w h hb hg hl hW hW1 hH hn hn1 hcap hok
  · rw [if_neg h] at hok ⊢
    exact fixed_up b g n W H fv fx fy px py qx qy l rest w (Bool.eq_false_iff.2 h) hb hg hl hW hW1 hH hn hn1 hcap hok
theorem length_fixLine (W : Nat) (H : Int) (px py qx qy : Nat) (l : List Int) : (fixLine W H px py qx qy l).length = l.length := by
  unfold fixLine fixUp
  split <;> split <;> first | rfl | rw [FL.length_run]

end Go.Proofs.Ytmgcbodlolnheaa
