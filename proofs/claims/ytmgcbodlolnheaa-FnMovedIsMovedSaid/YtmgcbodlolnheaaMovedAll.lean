/-
  'laws.FnMovedIsMoved' returns true, and leaves its arguments as they were, for every input. Conditions: none.
-/
import Derived.Test.YtmgcbodlolnheaaFnMoved
namespace Go.Proofs.Ytmgcbodlolnheaa.fnMoved
open Go.ChangeShapes Go.WideShapes Go.ChangeAt Go.RowKit
set_option linter.unusedVariables false

set_option maxHeartbeats 2000000 in
set_option maxRecDepth 100000 in
theorem walk (W H dx dy : Int) (pts : List (Int × Int)) (v : Value) (w : World) (hp : PtsAt w w.heap.size v pts) :
    Calls Try.prog 5 #[.int .i64 W, .int .i64 H, v, .int .i64 dx, .int .i64 dy] w fun e w' => e = .returned (.bool true) ∧ Same w w' := by
  have hin := fun far h h' => within_any pts far v w h h' hp
  obtain ⟨A, cap, rfl, hl, ha⟩ := hp
  by_cases h0 : (2147483647 : Int) < pts.length
  · clear ha hin
    go_enter Try.func5, Try.ntmps5
    go_wp2_with fail
    go_ret
    exact ⟨rfl, Kept.refl _ _⟩
  have h0' : (pts.length : Int) ≤ 2147483647 := Int.not_lt.1 h0
  clear h0
  by_cases hs : sizedB W H = true
  rotate_left
  · have HS := hid (Bool.eq_false_iff.2 hs)
    clear ha hin hs
    go_enter Try.func5, Try.ntmps5
    go_wp2_with fail
    refine (sized_any W H w).mono ?_
    rintro e w' ⟨rfl, rfl⟩
    rw [HS.out]
    go_wp2_with fail
    go_ret
    exact ⟨rfl, Kept.refl _ _⟩
  by_cases hW : 500 < W
  · have HS := hid hs
    clear ha hin hs
    go_enter Try.func5, Try.ntmps5
    go_wp2_with fail
    refine (sized_any W H w).mono ?_
    rintro e w' ⟨rfl, rfl⟩
    rw [HS.out]
    go_wp2_with fail
    go_ret
    exact ⟨rfl, Kept.refl _ _⟩
  have hW' : W ≤ 500 := Int.not_lt.1 hW
  clear hW
  by_cases hH : 500 < H
  · have HS := hid hs
    clear ha hin hs
    go_enter Try.func5, Try.ntmps5
    go_wp2_with fail
    refine (sized_any W H w).mono ?_
    rintro e w' ⟨rfl, rfl⟩
    rw [HS.out]
    go_wp2_with fail
    go_ret
    exact ⟨rfl, Kept.refl _ _⟩
  have hH' : H ≤ 500 := Int.not_lt.1 hH
  clear hH
  have HIN := hid hin
  clear hin
  by_cases hw : withinB pts 128000 = true
  rotate_left
  · have HS := hid hs
    have HW := hid (Bool.eq_false_iff.2 hw)
    clear ha hs hw
    go_enter Try.func5, Try.ntmps5
    go_wp2_with fail
    refine (sized_any W H w).mono ?_
    rintro e w' ⟨rfl, rfl⟩
    rw [HS.out]
    go_wp2_with fail
    refine (HIN.out 128000 (by omega) (by omega)).mono ?_
    rintro e w' ⟨rfl, t⟩
    rw [HW.out]
    have T := hid t
    clear t
    go_wp2_with fail
    go_ret
    exact ⟨rfl, T.out⟩
  by_cases hd : -2000 ≤ dx ∧ dx ≤ 2000 ∧ -2000 ≤ dy ∧ dy ≤ 2000
  rotate_left
  · have hd' : dx < -2000 ∨ (-2000 ≤ dx ∧ 2000 < dx) ∨ (-2000 ≤ dx ∧ dx ≤ 2000 ∧ dy < -2000) ∨ (-2000 ≤ dx ∧ dx ≤ 2000 ∧ -2000 ≤ dy ∧ 2000 < dy) := by omega
    have HS := hid hs
    have HW := hid hw
    clear ha hs hw hd
    rcases hd' with hd | ⟨hd1, hd2⟩ | ⟨hd1, hd2, hd3⟩ | ⟨hd1, hd2, hd3, hd4⟩
    all_goals
      go_enter Try.func5, Try.ntmps5
      go_wp2_with fail
      refine (sized_any W H w).mono ?_
      rintro e w' ⟨rfl, rfl⟩
      rw [HS.out]
      go_wp2_with fail
      refine (HIN.out 128000 (by omega) (by omega)).mono ?_
      rintro e w' ⟨rfl, t⟩
      rw [HW.out]
      have T := hid t
      clear t
      go_wp2_with fail
      go_ret
      exact ⟨rfl, T.out⟩
  obtain ⟨d1, d2, d3, d4⟩ := hd
  obtain ⟨_, hl3, hl1⟩ := withinB_iff.1 hw
  obtain ⟨g, off, rfl, hc⟩ := ha (by omega)
  obtain ⟨s1, s2, s3, s4, s5⟩ := sizedB_iff.1 hs
  obtain ⟨Wn, rfl⟩ : ∃ n : Nat, W = n := ⟨W.toNat, by omega⟩
  obtain ⟨Hn, rfl⟩ : ∃ n : Nat, H = n := ⟨H.toNat, by omega⟩
  exact walk_long Wn Hn dx dy pts g off cap w hs hW' hH' hw d1 d2 d3 d4 hc hl1 hl3

theorem own : ownKnob Try.prog.godebug = none := by kernel_rfl
theorem readable : ∀ t ∈ Try.f5.params.toList, Try.prog.readableRec t = true ∧ t < Try.prog.types.size := by
  rw [Try.params5]
  intro t ht
  simp only [List.mem_cons, List.not_mem_nil, or_false] at ht
  rcases ht with rfl | rfl | rfl | rfl | rfl
  all_goals exact ⟨by kernel_rfl, of_decide_eq_true (by kernel_rfl)⟩

set_option maxRecDepth 100000 in
theorem lifted (os : Os) (started : os.Started) (H : Type) (enc : TypeId × Value → H) :
    ReturnsInHanded {} Try.checked os 5 .any (Rows.fnMovedIsMovedSpec.pre6 enc Try.prog Try.f5 Rows.fnMovedIsMovedRow.domain false) (Rows.fnMovedIsMovedSpec.post enc Try.prog Try.f5 false true false false) := by
  refine returnsInHanded_of_change (C := Try.checked) own started (by kernel_rfl) Try.func5
    (ChangeSpec.witness6 (enc := enc) (C := Try.checked) false ⟨#[], #[.int .i64 0, .int .i64 0, .slice none 0 0, .int .i64 0, .int .i64 0], []⟩ 8 (by kernel_rfl) (by kernel_rfl) (by kernel_rfl) (by kernel_rfl)) ?_
  intro W base args ds gs before hval0 hW hcnd _
  have hval : ∀ (j : Nat) t v, Try.f5.params[j]? = some t → args[j]? = some v → Value.okWide Try.prog W .any base t v := hval0
  have hW' := hW
  obtain ⟨p, q, hA0, hV, rfl, hfz, hnd⟩ := hW
  have hA : DataW.TrodAll enc Try.prog W 0 (fun _ => true) true Try.f5.params.toList args.toList ds p := hA0
  rw [Try.params5] at hA hval
  obtain ⟨v0, vs0, d0, ds0, p0, q0, hargs, rfl, rfl, h0, r0⟩ := trodAll_cons hA
  obtain ⟨v1, vs1, d1, ds1, p1, q1, rfl, rfl, rfl, h1, r1⟩ := trodAll_cons r0
  obtain ⟨v2, vs2, d2, ds2, p2, q2, rfl, rfl, rfl, h2, r2⟩ := trodAll_cons r1
  obtain ⟨v3, vs3, d3, ds3, p3, q3, rfl, rfl, rfl, h3, r3⟩ := trodAll_cons r2
  obtain ⟨v4, vs4, d4, ds4, p4, q4, rfl, rfl, rfl, h4, r4⟩ := trodAll_cons r3
  obtain ⟨rfl, rfl, rfl⟩ := trodAll_nil r4
  obtain rfl : args = #[v0, v1, v2, v3, v4] := by cases args; simp_all
  obtain ⟨rfl, rfl⟩ := trodVars_none hV
  obtain ⟨a0, rfl, rfl, rfl, w0⟩ := open_int Try.underlying3 (hval 0 3 v0 rfl rfl) h0
  obtain ⟨a1, rfl, rfl, rfl, w1⟩ := open_int Try.underlying3 (hval 1 3 v1 rfl rfl) h1
  obtain ⟨pts, hpts⟩ := open_ptsT (hval 2 27 v2 rfl rfl) h2
  obtain ⟨a3, rfl, rfl, rfl, w3⟩ := open_int Try.underlying3 (hval 3 3 v3 rfl rfl) h3
  obtain ⟨a4, rfl, rfl, rfl, w4⟩ := open_int Try.underlying3 (hval 4 3 v4 rfl rfl) h4
  clear hA0 hval0
  simp only [List.append_nil] at hW'
  refine (walk a0 a1 a3 a4 pts v2 W hpts).mono fun e W' ⟨he, hg⟩ => ?_
  subst he
  exact ⟨_, rfl, law_post readable rfl rfl rfl hW' hg.toBelow⟩

theorem over : Rows.fnMovedIsMovedRow.holds Try.pinned (OpenSpec.ofChange Rows.fnMovedIsMovedSpec) :=
  OpenClaim.holds_of_wide 5 Try.f5 rfl rfl rfl rfl rfl rfl rfl ⟨rfl, rfl, rfl, rfl, rfl⟩ rfl rfl rfl rfl rfl (by kernel_rfl) Try.func5 (by kernel_rfl)
    (of_decide_eq_true (by kernel_rfl)) (by unfold Func.isWrapper; first | (rw [if_pos (by decide +kernel)]; kernel_rfl) | (rw [if_neg (by decide +kernel)]; exact ⟨rfl, rfl⟩))
    (fun os started H enc _ => lifted os started H enc)

/-- The statement. -/
theorem proved : Rows.FnMovedIsMovedSaid :=
  over
#print axioms proved
end Go.Proofs.Ytmgcbodlolnheaa.fnMoved
