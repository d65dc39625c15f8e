/-
  Of a rectangle in 64ths of a pixel each pixel is covered by as much as it has of it, but for 2 of 255, with either arithmetic. No condition beyond the statement's own.
-/
import Derived.Test.YtmgcbodlolnheaaFnFixed
import Derived.Test.YtmgcbodlolnheaaEqual
namespace Go.Proofs.Ytmgcbodlolnheaa.fnRect
open Go.ChangeShapes Go.WideShapes Go.ChangeAt Go.RowKit Go.Deep
set_option linter.unusedVariables false

def rectCells (x0 y0 x1 y1 : Int) : Array Value := #[.int .i64 x0, .int .i64 y0, .int .i64 x1, .int .i64 y0, .int .i64 x1, .int .i64 y1, .int .i64 x0, .int .i64 y1]
theorem rect_at {w : World} {g : Nat} {x0 y0 x1 y1 : Int} (h : Blk w g 28 (rectCells x0 y0 x1 y1)) : PtsCells w w.heap.size g 0 (rectPts x0 y0 x1 y1) := by
  refine ⟨h.lt, fun j hj => ?_⟩
  have hj4 : j < 4 := hj
  rw [h.cell, h.cell]
  match j, hj4 with
  | 0, _ => exact ⟨rfl, rfl⟩
  | 1, _ => exact ⟨rfl, rfl⟩
  | 2, _ => exact ⟨rfl, rfl⟩
  | 3, _ => exact ⟨rfl, rfl⟩
theorem rect_pts {w : World} {g : Nat} {x0 y0 x1 y1 : Int} (h : Blk w g 28 (rectCells x0 y0 x1 y1)) : PtsAt w w.heap.size (.slice (some ⟨g, 0, none⟩) 4 4) (rectPts x0 y0 x1 y1) :=
  ⟨_, 4, rfl, by show (4 : Nat) ≤ _; omega, fun _ => ⟨g, 0, rfl, rect_at h⟩⟩
set_option maxHeartbeats 4000000 in
set_option maxRecDepth 100000 in
theorem walk_long (mode : Bool) (W H : Nat) (x0 y0 x1 y1 : Int) (w : World) (hs : sizedB (W : Int) (H : Int) = true) (hW : (W : Int) ≤ 500) (hH : (H : Int) ≤ 500) (hin : withinB (rectPts x0 y0 x1 y1) 64000 = true) :
    Calls Try.prog 10 #[.bool mode, .int .i64 W, .int .i64 H, .int .i64 x0, .int .i64 y0, .int .i64 x1, .int .i64 y1] w fun e w' => e = .returned (.bool true) ∧ Same w w' := by
  obtain ⟨s1, s2, s3, s4, s5⟩ := sizedB_iff.1 hs
  have HS := hid hs
  have HIN := hid hin
  have hn : W * H ≤ 65536 := by
    have : ((W * H : Nat) : Int) ≤ 65536 := by push_cast; exact s5
    omega
  have hfar : Far (rectPts x0 y0 x1 y1) 64000 := fun q hq => (withinB_iff.1 hin).1 q hq
  have hne : rectPts x0 y0 x1 y1 ≠ [] := by simp [rectPts]
  have hok : MaskROk mode W H (pathOps (rectPts x0 y0 x1 y1)) := by
    have h9 := maskROk_several mode W H (ps := [rectPts x0 y0 x1 y1]) (by simp [rectPts]) (by
      intro p hp q hq
      rw [List.mem_singleton] at hp
      subst hp
      have := hfar q hq
      omega)
    simpa using h9
  have hml : (maskR mode W H (pathOps (rectPts x0 y0 x1 y1))).length = W * H := by
    have h9 := len_several W H mode (ps := [rectPts x0 y0 x1 y1]) (by simp [rectPts])
    simpa using h9
  have hall := rect_all mode (W := W) (H := H) (by omega) (by omega) hfar
  have hen : ∀ e ∈ edges (rectPts x0 y0 x1 y1), ENear e := by
    intro e he
    obtain ⟨h1, h2⟩ := mem_edges he
    have a := hfar _ h1
    have b := hfar _ h2
    unfold ENear
    omega
  have hpl : polyTo (rectPts x0 y0 x1 y1) 4 = edges (rectPts x0 y0 x1 y1) := polyTo_edges (rectPts x0 y0 x1 y1)
  have HOK := hid hok
  have HML := hid hml
  have HALL := hid hall
  have HEN := hid hen
  have HPL := hid hpl
  clear hs hin hfar hne hok hml hall hen hpl s5
  go_enter Try.func10, Try.ntmps10
  go_wp2_with fail
  refine (sized_any (W : Int) (H : Int) _).mono ?_
  rintro e w' ⟨rfl, rfl⟩
  rw [HS.out]
  have B0 := hid (Blk.new w 28 (rectCells x0 y0 x1 y1))
  obtain ⟨w0, hw0⟩ : ∃ w0, w0 = w.alloc (.cells (rectCells x0 y0 x1 y1) 28) := ⟨_, rfl⟩
  have T0 := hid (show Same w w0 by rw [hw0]; exact (Kept.refl _ _).alloc _)
  have B1 := hid (show Blk w0 w.heap.size 28 (rectCells x0 y0 x1 y1) by rw [hw0]; exact B0.out)
  unfold rectCells at hw0
  rw [← hw0]
  generalize w.heap.size = g at B1 ⊢
  clear hw0 B0
  go_wp2_with fail
  refine (within_any (rectPts x0 y0 x1 y1) 64000 _ w0 (by omega) (by omega) (rect_pts B1.out)).mono ?_
  rintro e w1 ⟨rfl, t1⟩
  rw [HIN.out]
  have T1 := hid (T0.out.trans t1)
  have B2 := hid (t1.blk B1.out id)
  clear t1
  go_wp2_with fail
  refine (path_any (rectPts x0 y0 x1 y1) _ w1 (by show 0 < 4; omega) (by show 4 ≤ _; omega) (rect_pts B2.out)).mono ?_
  rintro e w2 ⟨v2, rfl, o2, t2⟩
  have T2 := hid (T1.out.trans t2)
  have B3 := hid (t2.blk B2.out id)
  have HOP := hid o2
  clear t2 o2
  go_wp2_with fail
  refine (maskBy_any W H (pathOps (rectPts x0 y0 x1 y1)) v2 w2 (by omega) (by omega) (by omega) (by omega) hn mode HOP.out HOK.out).mono ?_
  rintro e w3 ⟨d, rfl, hd, t3, t4⟩
  have BA := hid t3
  have T3 := hid (T2.out.trans t4)
  have B4 := hid (t4.blk B3.out id)
  clear t3 t4 hd
  generalize maskR mode W H (pathOps (rectPts x0 y0 x1 y1)) = m at BA HALL HML
  go_wp2_with fail
  refine (poly_cons (rectPts x0 y0 x1 y1) g 0 4 w3 (by show 0 < 4; omega) (by show 4 ≤ _; omega) (rect_at B4.out)).mono ?_
  rintro e w4 ⟨v4, rfl, p1, t5⟩
  have p1' : w4.ownsRow w3.heap.size 78 4 v4 (edges (rectPts x0 y0 x1 y1)).length (edgeCells (edges (rectPts x0 y0 x1 y1))) := by
    rw [← HPL.out]
    exact p1
  have hel : (edges (rectPts x0 y0 x1 y1)).length ≤ 4 := by rw [length_edges]; exact Nat.le_refl 4
  have P1 := hid p1'
  have T4 := hid (T3.out.trans t5)
  have B5 := hid (t5.blk BA.out id)
  clear t5 p1 p1' HPL
  generalize edges (rectPts x0 y0 x1 y1) = es at P1 HALL HEN hel
  go_wp2_with fail
  refine (nearMask m d (W * H) W H es v4 4611686018427387904 w4 (by omega) (by omega) HML.out B5.out HALL.out (fun X Y wr hX hY hsm hok => area_own es v4 X Y wr (by omega) (by omega) (by omega) (own_sameW P1.out hsm) HEN.out hok)).mono ?_
  rintro e w5 ⟨rfl, t6⟩
  have T5 := hid (T4.out.trans t6)
  clear t6
  go_wp2_with fail
  go_ret
  exact ⟨rfl, T5.out⟩
set_option maxHeartbeats 2000000 in
set_option maxRecDepth 100000 in
theorem walk (mode : Bool) (W H x0 y0 x1 y1 : Int) (w : World) :
    Calls Try.prog 10 #[.bool mode, .int .i64 W, .int .i64 H, .int .i64 x0, .int .i64 y0, .int .i64 x1, .int .i64 y1] w fun e w' => e = .returned (.bool true) ∧ Same w w' := by
  by_cases hs : sizedB W H = true
  rotate_left
  · have HS := hid (Bool.eq_false_iff.2 hs)
    clear hs
    go_enter Try.func10, Try.ntmps10
    go_wp2_with fail
    refine (sized_any W H _).mono ?_
    rintro e w' ⟨rfl, rfl⟩
    rw [HS.out]
    go_wp2_with fail
    go_ret
    exact ⟨rfl, (Kept.refl _ _).alloc _⟩
  by_cases hW : 500 < W
  · have HS := hid hs
    clear hs
    go_enter Try.func10, Try.ntmps10
    go_wp2_with fail
    refine (sized_any W H _).mono ?_
    rintro e w' ⟨rfl, rfl⟩
    rw [HS.out]
    go_wp2_with fail
    go_ret
    exact ⟨rfl, (Kept.refl _ _).alloc _⟩
  have hW' : W ≤ 500 := Int.not_lt.1 hW
  clear hW
  by_cases hH : 500 < H
  · have HS := hid hs
    clear hs
    go_enter Try.func10, Try.ntmps10
    go_wp2_with fail
    refine (sized_any W H _).mono ?_
    rintro e w' ⟨rfl, rfl⟩
    rw [HS.out]
    go_wp2_with fail
    go_ret
    exact ⟨rfl, (Kept.refl _ _).alloc _⟩
  have hH' : H ≤ 500 := Int.not_lt.1 hH
  clear hH
  by_cases hw : withinB (rectPts x0 y0 x1 y1) 64000 = true
  rotate_left
  · have HS := hid hs
    have HW := hid (Bool.eq_false_iff.2 hw)
    clear hs hw
    go_enter Try.func10, Try.ntmps10
    go_wp2_with fail
    refine (sized_any W H _).mono ?_
    rintro e w' ⟨rfl, rfl⟩
    rw [HS.out]
    have B0 := hid (Blk.new w 28 (rectCells x0 y0 x1 y1))
    obtain ⟨w0, hw0⟩ : ∃ w0, w0 = w.alloc (.cells (rectCells x0 y0 x1 y1) 28) := ⟨_, rfl⟩
    have T0 := hid (show Same w w0 by rw [hw0]; exact (Kept.refl _ _).alloc _)
    have B1 := hid (show Blk w0 w.heap.size 28 (rectCells x0 y0 x1 y1) by rw [hw0]; exact B0.out)
    unfold rectCells at hw0
    rw [← hw0]
    generalize w.heap.size = g at B1 ⊢
    clear hw0 B0
    go_wp2_with fail
    refine (within_any (rectPts x0 y0 x1 y1) 64000 _ w0 (by omega) (by omega) (rect_pts B1.out)).mono ?_
    rintro e w1 ⟨rfl, t1⟩
    rw [HW.out]
    have T1 := hid (T0.out.trans t1)
    clear t1
    go_wp2_with fail
    go_ret
    exact ⟨rfl, T1.out⟩
  obtain ⟨s1, s2, s3, s4, s5⟩ := sizedB_iff.1 hs
  obtain ⟨Wn, rfl⟩ : ∃ n : Nat, W = n := ⟨W.toNat, by omega⟩
  obtain ⟨Hn, rfl⟩ : ∃ n : Nat, H = n := ⟨H.toNat, by omega⟩
  exact walk_long mode Wn Hn x0 y0 x1 y1 w hs hW' hH' hw

theorem own : ownKnob Try.prog.godebug = none := by kernel_rfl
theorem readable : ∀ t ∈ Try.f10.params.toList, Try.prog.readableRec t = true ∧ t < Try.prog.types.size := by
  rw [Try.params10]
  intro t ht
  simp only [List.mem_cons, List.not_mem_nil, or_false] at ht
  rcases ht with rfl | rfl | rfl | rfl | rfl | rfl | rfl
  all_goals exact ⟨by kernel_rfl, of_decide_eq_true (by kernel_rfl)⟩

set_option maxRecDepth 100000 in
theorem lifted (os : Os) (started : os.Started) (H : Type) (enc : TypeId × Value → H) :
    ReturnsInHanded {} Try.checked os 10 .any (Rows.fnRectanglesAreAreasSpec.pre6 enc Try.prog Try.f10 Rows.fnRectanglesAreAreasRow.domain false) (Rows.fnRectanglesAreAreasSpec.post enc Try.prog Try.f10 false true false false) := by
  refine returnsInHanded_of_change (C := Try.checked) own started (by kernel_rfl) Try.func10
    (ChangeSpec.witness6 (enc := enc) (C := Try.checked) false ⟨#[], #[.bool false, .int .i64 0, .int .i64 0, .int .i64 0, .int .i64 0, .int .i64 0, .int .i64 0], []⟩ 8 (by kernel_rfl) (by kernel_rfl) (by kernel_rfl) (by kernel_rfl)) ?_
  intro W base args ds gs before hval0 hW hcnd _
  have hval : ∀ (j : Nat) t v, Try.f10.params[j]? = some t → args[j]? = some v → Value.okWide Try.prog W .any base t v := hval0
  have hW' := hW
  obtain ⟨p, q, hA0, hV, rfl, hfz, hnd⟩ := hW
  have hA : DataW.TrodAll enc Try.prog W 0 (fun _ => true) true Try.f10.params.toList args.toList ds p := hA0
  rw [Try.params10] at hA hval
  obtain ⟨v0, vs0, d0, ds0, p0, q0, hargs, rfl, rfl, h0, r0⟩ := trodAll_cons hA
  obtain ⟨v1, vs1, d1, ds1, p1, q1, rfl, rfl, rfl, h1, r1⟩ := trodAll_cons r0
  obtain ⟨v2, vs2, d2, ds2, p2, q2, rfl, rfl, rfl, h2, r2⟩ := trodAll_cons r1
  obtain ⟨v3, vs3, d3, ds3, p3, q3, rfl, rfl, rfl, h3, r3⟩ := trodAll_cons r2
  obtain ⟨v4, vs4, d4, ds4, p4, q4, rfl, rfl, rfl, h4, r4⟩ := trodAll_cons r3
  obtain ⟨v5, vs5, d5, ds5, p5, q5, rfl, rfl, rfl, h5, r5⟩ := trodAll_cons r4
  obtain ⟨v6, vs6, d6, ds6, p6, q6, rfl, rfl, rfl, h6, r6⟩ := trodAll_cons r5
  obtain ⟨rfl, rfl, rfl⟩ := trodAll_nil r6
  obtain rfl : args = #[v0, v1, v2, v3, v4, v5, v6] := by cases args; simp_all
  obtain ⟨rfl, rfl⟩ := trodVars_none hV
  obtain ⟨a0, rfl, rfl, rfl, w0⟩ := open_bool Try.underlying4 (hval 0 4 v0 rfl rfl) h0
  obtain ⟨a1, rfl, rfl, rfl, w1⟩ := open_int Try.underlying3 (hval 1 3 v1 rfl rfl) h1
  obtain ⟨a2, rfl, rfl, rfl, w2⟩ := open_int Try.underlying3 (hval 2 3 v2 rfl rfl) h2
  obtain ⟨a3, rfl, rfl, rfl, w3⟩ := open_int Try.underlying3 (hval 3 3 v3 rfl rfl) h3
  obtain ⟨a4, rfl, rfl, rfl, w4⟩ := open_int Try.underlying3 (hval 4 3 v4 rfl rfl) h4
  obtain ⟨a5, rfl, rfl, rfl, w5⟩ := open_int Try.underlying3 (hval 5 3 v5 rfl rfl) h5
  obtain ⟨a6, rfl, rfl, rfl, w6⟩ := open_int Try.underlying3 (hval 6 3 v6 rfl rfl) h6
  clear hA0 hval0
  simp only [List.append_nil] at hW'
  refine (walk a0 a1 a2 a3 a4 a5 a6 W).mono fun e W' ⟨he, hg⟩ => ?_
  subst he
  exact ⟨_, rfl, law_post readable rfl rfl rfl hW' hg.toBelow⟩

theorem over : Rows.fnRectanglesAreAreasRow.holds Try.pinned (OpenSpec.ofChange Rows.fnRectanglesAreAreasSpec) :=
  OpenClaim.holds_of_wide 10 Try.f10 rfl rfl rfl rfl rfl rfl rfl ⟨rfl, rfl, rfl, rfl, rfl⟩ rfl rfl rfl rfl rfl (by kernel_rfl) Try.func10 (by kernel_rfl)
    (of_decide_eq_true (by kernel_rfl)) (by unfold Func.isWrapper; first | (rw [if_pos (by decide +kernel)]; kernel_rfl) | (rw [if_neg (by decide +kernel)]; exact ⟨rfl, rfl⟩))
    (fun os started H enc _ => lifted os started H enc)

/-- The statement. -/
theorem proved : Rows.FnRectanglesAreAreasSaid :=
  over
#print axioms proved
end Go.Proofs.Ytmgcbodlolnheaa.fnRect
