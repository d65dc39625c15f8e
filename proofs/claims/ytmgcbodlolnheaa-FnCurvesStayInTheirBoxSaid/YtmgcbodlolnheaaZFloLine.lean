/-
  'floatingLineTo': what it adds to the buffer, as a plain function; its contract.
-/
import Derived.Test.YtmgcbodlolnheaaZFloLoop
import Derived.Test.YtmgcbodlolnheaaZFixLine
namespace Go.Proofs.Ytmgcbodlolnheaa
open Go.ChangeShapes Go.WideShapes Go.ChangeAt Go.RowKit
set_option linter.unusedVariables false

/-- The line from (ax, ay) to (bx, qy), ay not below qy ('s': it was gone the other way). -/
def gll (s : Bool) (ax ay bx qy : Nat) : GL := ⟨ay, qy, if s then 3212836864 else 1065353216, fop .quo (fop .sub bx ax) (fop .sub qy ay)⟩
/-- The row at which the line ends, within H. -/
def flEnd (qy : Nat) (H : Int) : Int := if H < fce qy then H else fce qy
theorem flEnd_over {qy : Nat} {H : Int} (h : H < fce qy) : flEnd qy H = H := if_pos h
theorem flEnd_in {qy : Nat} {H : Int} (h : ¬ H < fce qy) : flEnd qy H = fce qy := if_neg h
theorem flEnd_le (qy : Nat) (H : Int) : flEnd qy H ≤ H := by unfold flEnd; split <;> omega

def floUp (s : Bool) (W : Nat) (H : Int) (ax ay bx qy : Nat) : List (Nat × Nat) :=
  if fle (fop .sub qy ay) 897988541 = true then []
  else (gll s ax ay bx qy).adds W (flEnd qy H - ffl ay).toNat (ffl ay) ax
def FloUpOk (s : Bool) (H : Int) (ax ay bx qy : Nat) : Prop :=
  Fok .sub qy ay ∧ (fle (fop .sub qy ay) 897988541 = false →
    Fok .sub bx ax ∧ Fok .quo (fop .sub bx ax) (fop .sub qy ay) ∧ FlOk ay ∧ CeOk qy ∧ -1000000000 ≤ ffl ay ∧
    (gll s ax ay bx qy).ok (flEnd qy H - ffl ay).toNat (ffl ay) ax)

set_option maxHeartbeats 2000000 in
set_option maxRecDepth 100000 in
theorem floating_down (b g n W H : Nat) (uv : Value) (fx fy px py qx qy : Nat) (l : List Nat) (rest : List Value) (w : World)
    (hs : (FloatKind.f32.format.order py qy == some Ordering.gt) = true)
    (hb : Blk w b 87 (rz (.slice (some ⟨g, 0, none⟩) n (n + rest.length)) uv true W H fx fy px py)) (hg : Blk w g 72 (fbufCells l rest)) (hl : l.length = n)
    (hW : W ≤ 2000) (hW1 : 1 ≤ W) (hH : H ≤ 2000) (hn : W * H = n) (hn1 : n ≤ 100000) (hcap : n + rest.length ≤ 100000)
    (hok : FloUpOk true H qx qy px py) (hadds : FaddsOk (floUp true W H qx qy px py) l) :
    Calls Try.prog 58 #[.pointer (some ⟨b, 0, none⟩), .float .f32 qx, .float .f32 qy] w fun e w' => e = .returned (.tuple #[]) ∧
      Blk w' b 87 (rz (.slice (some ⟨g, 0, none⟩) n (n + rest.length)) uv true W H fx fy qx qy) ∧ Blk w' g 72 (fbufCells (fadds (floUp true W H qx qy px py) l) rest) ∧ Kept (fun k => k = b ∨ k = g) w w' := by
  by_cases hfl : fle (fop .sub py qy) 897988541 = true
  · have hfl' := fle_true hfl
    obtain ⟨q1, _⟩ := hok
    have HFL := hid hfl
    clear hfl
    obtain ⟨c0, c1, c2, c3, c4, c5, c6, c7, c8, c9⟩ := rz_cells hb
    have f7 := hb.frozen 7
    have f8 := hb.frozen 8
    have HB := hid hb
    have HG := hid hg
    have HL := hid hl
    have HN := hid hn
    have HA := hid hadds
    clear c0 c1 c2 c5 c6 c9 hb hg hl hn hadds
    go_enter Try.func58, Try.ntmps58
    go_wp2_with fail
    go_region
    go_wp2_with fail
    have hup : floUp true W H qx qy px py = [] := by unfold floUp; rw [if_pos HFL.out]
    refine bodyPost_ret (results_none rfl _ _ _) rfl ⟨rfl, (rz_pen qx qy HB.out).drew, ?_, ?_⟩
    · have hgb := HB.out.ne_ HG.out (by decide)
      rw [hup]
      exact (((HG.out.far (p := ⟨b, 7, none⟩) hgb.symm _).far (p := ⟨b, 8, none⟩) hgb.symm _).drew)
    · exact (((Kept.refl (fun k => k = b ∨ k = g) w).set_in (.inl rfl)).set_in (.inl rfl)).drew
  have hfl := Bool.eq_false_iff.2 hfl
  by_cases hov : (H : Int) < fce py
  · obtain ⟨q1, hok⟩ := hok
    obtain ⟨q2, q3, q4, q5, r1, hrun⟩ := hok hfl
    obtain ⟨hf1, hf2⟩ := fle_false hfl
    have HR := hid hrun
    have HF := hid hfl
    have HOV := hid hov
    clear hrun hfl
    obtain ⟨c0, c1, c2, c3, c4, c5, c6, c7, c8, c9⟩ := rz_cells hb
    have f7 := hb.frozen 7
    have f8 := hb.frozen 8
    have HB := hid hb
    have HG := hid hg
    have HL := hid hl
    have HN := hid hn
    have HA := hid hadds
    clear c0 c1 c2 c5 c6 c9 hb hg hl hn hadds
    go_enter Try.func58, Try.ntmps58
    go_wp2_with fail
    go_region
    go_wp2_with (first | (go_at_call 63; refine (ffl_any _ (by assumption) _).mono ?_; rintro e w' ⟨rfl, rfl⟩) | (go_at_call 64; refine (fce_any _ (by assumption) _).mono ?_; rintro e w' ⟨rfl, rfl⟩))
    have HE := flEnd_over (qy := py) (H := (H : Int)) (by have := HOV.out; omega)
    have hle := flEnd_le py (H : Int)
    rw [HE] at hle
    have hgb := HB.out.ne_ HG.out (by decide)
    have hz := (rz_pen qx qy HB.out).drew
    have hg2 := (((HG.out.far (p := ⟨b, 7, none⟩) hgb.symm (.float .f32 qx)).far (p := ⟨b, 8, none⟩) hgb.symm (.float .f32 qy)).drew)
    have hup : floUp true W H qx qy px py = (gll true qx qy px py).adds W (flEnd py H - ffl qy).toNat (ffl qy) qx := by
      unfold floUp; rw [if_neg (by rw [HF.out]; decide)]
    have hadds := HA.out
    rw [hup] at hadds
    refine loop58 _ (gll true qx qy px py) b g n W H ↑H _ _ _ _ _ _ _ _ _ _ _ _ _ _ _ _ _ _ _ _ _ _ _ _ _ _ _ _ _ _ _ _ _ _ _ _ _ _ _ _ _ _ _ _ _ _ _ _ _ _ _ _ _ _ _ _ _ _ _ _ _ _ _ _ (fun _ => undef) _ rest _ (flEnd py H - ffl qy).toNat qx (ffl qy) l
      hW hW1 hH HN.out hn1 hcap hle (by rw [HE]) r1 HR.out HL.out hadds hz rfl hg2 ?_
    intro a' w' hd hb' hk'
    simp only [Exit.inBlock, ↓reduceIte]
    go_big_unhide
    refine bodyPost_end (results_none rfl _ _ _) hd ⟨rfl, hk'.blk hz hgb, ?_, ?_⟩
    · rw [hup]
      exact hb'
    · exact ((((Kept.refl (fun k => k = b ∨ k = g) w).set_in (.inl rfl)).set_in (.inl rfl)).drew).trans (hk'.mono fun _ _ h => .inr h)
  · obtain ⟨q1, hok⟩ := hok
    obtain ⟨q2, q3, q4, q5, r1, hrun⟩ := hok hfl
    obtain ⟨hf1, hf2⟩ := fle_false hfl
    have HR := hid hrun
    have HF := hid hfl
    have HOV := hid hov
    clear hrun hfl
    obtain ⟨c0, c1, c2, c3, c4, c5, c6, c7, c8, c9⟩ := rz_cells hb
    have f7 := hb.frozen 7
    have f8 := hb.frozen 8
    have HB := hid hb
    have HG := hid hg
    have HL := hid hl
    have HN := hid hn
    have HA := hid hadds
    clear c0 c1 c2 c5 c6 c9 hb hg hl hn hadds
    go_enter Try.func58, Try.ntmps58
    go_wp2_with fail
    go_region
    go_wp2_with (first | (go_at_call 63; refine (ffl_any _ (by assumption) _).mono ?_; rintro e w' ⟨rfl, rfl⟩) | (go_at_call 64; refine (fce_any _ (by assumption) _).mono ?_; rintro e w' ⟨rfl, rfl⟩))
    have HE := flEnd_in (qy := py) (H := (H : Int)) (by have := HOV.out; omega)
    have hle := flEnd_le py (H : Int)
    rw [HE] at hle
    have hgb := HB.out.ne_ HG.out (by decide)
    have hz := (rz_pen qx qy HB.out).drew
    have hg2 := (((HG.out.far (p := ⟨b, 7, none⟩) hgb.symm (.float .f32 qx)).far (p := ⟨b, 8, none⟩) hgb.symm (.float .f32 qy)).drew)
    have hup : floUp true W H qx qy px py = (gll true qx qy px py).adds W (flEnd py H - ffl qy).toNat (ffl qy) qx := by
      unfold floUp; rw [if_neg (by rw [HF.out]; decide)]
    have hadds := HA.out
    rw [hup] at hadds
    refine loop58 _ (gll true qx qy px py) b g n W H (fce py) _ _ _ _ _ _ _ _ _ _ _ _ _ _ _ _ _ _ _ _ _ _ _ _ _ _ _ _ _ _ _ _ _ _ _ _ _ _ _ _ _ _ _ _ _ _ _ _ _ _ _ _ _ _ _ _ _ _ _ _ _ _ _ _ (fun _ => undef) _ rest _ (flEnd py H - ffl qy).toNat qx (ffl qy) l
      hW hW1 hH HN.out hn1 hcap hle (by rw [HE]) r1 HR.out HL.out hadds hz rfl hg2 ?_
    intro a' w' hd hb' hk'
    simp only [Exit.inBlock, ↓reduceIte]
    go_big_unhide
    refine bodyPost_end (results_none rfl _ _ _) hd ⟨rfl, hk'.blk hz hgb, ?_, ?_⟩
    · rw [hup]
      exact hb'
    · exact ((((Kept.refl (fun k => k = b ∨ k = g) w).set_in (.inl rfl)).set_in (.inl rfl)).drew).trans (hk'.mono fun _ _ h => .inr h)
set_option maxHeartbeats 2000000 in
set_option maxRecDepth 100000 in
theorem floating_up (b g n W H : Nat) (uv : Value) (fx fy px py qx qy : Nat) (l : List Nat) (rest : List Value) (w : World)
    (hs : (FloatKind.f32.format.order py qy == some Ordering.gt) = false)
    (hb : Blk w b 87 (rz (.slice (some ⟨g, 0, none⟩) n (n + rest.length)) uv true W H fx fy px py)) (hg : Blk w g 72 (fbufCells l rest)) (hl : l.length = n)
    (hW : W ≤ 2000) (hW1 : 1 ≤ W) (hH : H ≤ 2000) (hn : W * H = n) (hn1 : n ≤ 100000) (hcap : n + rest.length ≤ 100000)
    (hok : FloUpOk false H px py qx qy) (hadds : FaddsOk (floUp false W H px py qx qy) l) :
    Calls Try.prog 58 #[.pointer (some ⟨b, 0, none⟩), .float .f32 qx, .float .f32 qy] w fun e w' => e = .returned (.tuple #[]) ∧
      Blk w' b 87 (rz (.slice (some ⟨g, 0, none⟩) n (n + rest.length)) uv true W H fx fy qx qy) ∧ Blk w' g 72 (fbufCells (fadds (floUp false W H px py qx qy) l) rest) ∧ Kept (fun k => k = b ∨ k = g) w w' := by
  by_cases hfl : fle (fop .sub qy py) 897988541 = true
  · have hfl' := fle_true hfl
    obtain ⟨q1, _⟩ := hok
    have HFL := hid hfl
    clear hfl
    obtain ⟨c0, c1, c2, c3, c4, c5, c6, c7, c8, c9⟩ := rz_cells hb
    have f7 := hb.frozen 7
    have f8 := hb.frozen 8
    have HB := hid hb
    have HG := hid hg
    have HL := hid hl
    have HN := hid hn
    have HA := hid hadds
    clear c0 c1 c2 c5 c6 c9 hb hg hl hn hadds
    go_enter Try.func58, Try.ntmps58
    go_wp2_with fail
    go_region
    go_wp2_with fail
    have hup : floUp false W H px py qx qy = [] := by unfold floUp; rw [if_pos HFL.out]
    refine bodyPost_ret (results_none rfl _ _ _) rfl ⟨rfl, (rz_pen qx qy HB.out).drew, ?_, ?_⟩
    · have hgb := HB.out.ne_ HG.out (by decide)
      rw [hup]
      exact (((HG.out.far (p := ⟨b, 7, none⟩) hgb.symm _).far (p := ⟨b, 8, none⟩) hgb.symm _).drew)
    · exact (((Kept.refl (fun k => k = b ∨ k = g) w).set_in (.inl rfl)).set_in (.inl rfl)).drew
  have hfl := Bool.eq_false_iff.2 hfl
  by_cases hov : (H : Int) < fce qy
  · obtain ⟨q1, hok⟩ := hok
    obtain ⟨q2, q3, q4, q5, r1, hrun⟩ := hok hfl
    obtain ⟨hf1, hf2⟩ := fle_false hfl
    have HR := hid hrun
    have HF := hid hfl
    have HOV := hid hov
    clear hrun hfl
    obtain ⟨c0, c1, c2, c3, c4, c5, c6, c7, c8, c9⟩ := rz_cells hb
    have f7 := hb.frozen 7
    have f8 := hb.frozen 8
    have HB := hid hb
    have HG := hid hg
    have HL := hid hl
    have HN := hid hn
    have HA := hid hadds
    clear c0 c1 c2 c5 c6 c9 hb hg hl hn hadds
    go_enter Try.func58, Try.ntmps58
    go_wp2_with fail
    go_region
    go_wp2_with (first | (go_at_call 63; refine (ffl_any _ (by assumption) _).mono ?_; rintro e w' ⟨rfl, rfl⟩) | (go_at_call 64; refine (fce_any _ (by assumption) _).mono ?_; rintro e w' ⟨rfl, rfl⟩))
    have HE := flEnd_over (qy := qy) (H := (H : Int)) (by have := HOV.out; omega)
    have hle := flEnd_le qy (H : Int)
    rw [HE] at hle
    have hgb := HB.out.ne_ HG.out (by decide)
    have hz := (rz_pen qx qy HB.out).drew
    have hg2 := (((HG.out.far (p := ⟨b, 7, none⟩) hgb.symm (.float .f32 qx)).far (p := ⟨b, 8, none⟩) hgb.symm (.float .f32 qy)).drew)
    have hup : floUp false W H px py qx qy = (gll false px py qx qy).adds W (flEnd qy H - ffl py).toNat (ffl py) px := by
      unfold floUp; rw [if_neg (by rw [HF.out]; decide)]
    have hadds := HA.out
    rw [hup] at hadds
    refine loop58 _ (gll false px py qx qy) b g n W H ↑H _ _ _ _ _ _ _ _ _ _ _ _ _ _ _ _ _ _ _ _ _ _ _ _ _ _ _ _ _ _ _ _ _ _ _ _ _ _ _ _ _ _ _ _ _ _ _ _ _ _ _ _ _ _ _ _ _ _ _ _ _ _ _ _ (fun _ => undef) _ rest _ (flEnd qy H - ffl py).toNat px (ffl py) l
      hW hW1 hH HN.out hn1 hcap hle (by rw [HE]) r1 HR.out HL.out hadds hz rfl hg2 ?_
    intro a' w' hd hb' hk'
    simp only [Exit.inBlock, ↓reduceIte]
    go_big_unhide
    refine bodyPost_end (results_none rfl _ _ _) hd ⟨rfl, hk'.blk hz hgb, ?_, ?_⟩
    · rw [hup]
      exact hb'
    · exact ((((Kept.refl (fun k => k = b ∨ k = g) w).set_in (.inl rfl)).set_in (.inl rfl)).drew).trans (hk'.mono fun _ _ h => .inr h)
  · obtain ⟨q1, hok⟩ := hok
    obtain ⟨q2, q3, q4, q5, r1, hrun⟩ := hok hfl
    obtain ⟨hf1, hf2⟩ := fle_false hfl
    have HR := hid hrun
    have HF := hid hfl
    have HOV := hid hov
    clear hrun hfl
    obtain ⟨c0, c1, c2, c3, c4, c5, c6, c7, c8, c9⟩ := rz_cells hb
    have f7 := hb.frozen 7
    have f8 := hb.frozen 8
    have HB := hid hb
    have HG := hid hg
    have HL := hid hl
    have HN := hid hn
    have HA := hid hadds
    clear c0 c1 c2 c5 c6 c9 hb hg hl hn hadds
    go_enter Try.func58, Try.ntmps58
    go_wp2_with fail
    go_region
    go_wp2_with (first | (go_at_call 63; refine (ffl_any _ (by assumption) _).mono ?_; rintro e w' ⟨rfl, rfl⟩) | (go_at_call 64; refine (fce_any _ (by assumption) _).mono ?_; rintro e w' ⟨rfl, rfl⟩))
    have HE := flEnd_in (qy := qy) (H := (H : Int)) (by have := HOV.out; omega)
    have hle := flEnd_le qy (H : Int)
    rw [HE] at hle
    have hgb := HB.out.ne_ HG.out (by decide)
    have hz := (rz_pen qx qy HB.out).drew
    have hg2 := (((HG.out.far (p := ⟨b, 7, none⟩) hgb.symm (.float .f32 qx)).far (p := ⟨b, 8, none⟩) hgb.symm (.float .f32 qy)).drew)
    have hup : floUp false W H px py qx qy = (gll false px py qx qy).adds W (flEnd qy H - ffl py).toNat (ffl py) px := by
      unfold floUp; rw [if_neg (by rw [HF.out]; decide)]
    have hadds := HA.out
    rw [hup] at hadds
    refine loop58 _ (gll false px py qx qy) b g n W H (fce qy) _ _ _ _ _ _ _ _ _ _ _ _ _ _ _ _ _ _ _ _ _ _ _ _ _ _ _ _ _ _ _ _ _ _ _ _ _ _ _ _ _ _ _ _ _ _ _ _ _ _ _ _ _ _ _ _ _ _ _ _ _ _ _ _ (fun _ => undef) _ rest _ (flEnd qy H - ffl py).toNat px (ffl py) l
      hW hW1 hH HN.out hn1 hcap hle (by rw [HE]) r1 HR.out HL.out hadds hz rfl hg2 ?_
    intro a' w' hd hb' hk'
    simp only [Exit.inBlock, ↓reduceIte]
    go_big_unhide
    refine bodyPost_end (results_none rfl _ _ _) hd ⟨rfl, hk'.blk hz hgb, ?_, ?_⟩
    · rw [hup]
      exact hb'
    · exact ((((Kept.refl (fun k => k = b ∨ k = g) w).set_in (.inl rfl)).set_in (.inl rfl)).drew).trans (hk'.mono fun _ _ h => .inr h)
/-- 'floatingLineTo (qx, qy)' from the pen (px, py). -/
def floLine (W : Nat) (H : Int) (px py qx qy : Nat) : List (Nat × Nat) :=
  if fgt py qy = true then floUp true W H qx qy px py else floUp false W H px py qx qy
def FloOk (H : Int) (px py qx qy : Nat) : Prop := if fgt py qy = true then FloUpOk true H qx qy px py else FloUpOk false H px py qx qy

theorem floating_any (b g n W H : Nat) (uv : Value) (fx fy px py qx qy : Nat) (l : List Nat) (rest : List Value) (w : World)
    (hb : Blk w b 87 (rz (.slice (some ⟨g, 0, none⟩) n (n + rest.length)) uv true W H fx fy px py)) (hg : Blk w g 72 (fbufCells l rest)) (hl : l.length = n)
    (hW : W ≤ 2000) (hW1 : 1 ≤ W) (hH : H ≤ 2000) (hn : W * H = n) (hn1 : n ≤ 100000) (hcap : n + rest.length ≤ 100000)
    (hok : FloOk H px py qx qy) (hadds : FaddsOk (floLine W H px py qx qy) l) :
    Calls Try.prog 58 #[.pointer (some ⟨b, 0, none⟩), .float .f32 qx, .float .f32 qy] w fun e w' => e = .returned (.tuple #[]) ∧
      Blk w' b 87 (rz (.slice (some ⟨g, 0, none⟩) n (n + rest.length)) uv true W H fx fy qx qy) ∧ Blk w' g 72 (fbufCells (fadds (floLine W H px py qx qy) l) rest) ∧ Kept (fun k => k = b ∨ k = g) w w' := by
  unfold floLine at hadds ⊢
  unfold FloOk at hok
  by_cases h : fgt py qy = true
  · rw [if_pos h] at hok hadds ⊢
    exact floating_down b g n W H uv fx fy px py qx qy l rest w h hb hg hl hW hW1 hH hn hn1 hcap hok hadds
  · rw [if_neg h] at hok hadds ⊢
    exact floating_up b g n W H uv fx fy px py qx qy l rest w (Bool.eq_false_iff.2 h) hb hg hl hW hW1 hH hn hn1 hcap hok hadds
end Go.Proofs.Ytmgcbodlolnheaa
