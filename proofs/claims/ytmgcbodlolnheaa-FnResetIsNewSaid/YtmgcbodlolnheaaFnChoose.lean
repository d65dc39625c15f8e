/-
  'laws.FnSizeChooses' returns true, and leaves its arguments as they were, for every input. Conditions: none.
-/
import Derived.Test.YtmgcbodlolnheaaEqual
import Derived.Test.YtmgcbodlolnheaaFloEdges
namespace Go.Proofs.Ytmgcbodlolnheaa
open Go.ChangeShapes Go.WideShapes Go.ChangeAt Go.RowKit
set_option linter.unusedVariables false
theorem path_len (W H : Nat) {mode : Bool} {pts : List (Int × Int)} (hne : pts ≠ []) : (stepOps W H (pathOps pts) (startS mode (W * H))).B.len = W * H := by
  cases pts with
  | nil => exact absurd rfl hne
  | cons a t => rw [path_run]; show (edgesB _ _ _ _).len = _; rw [len_edgesB]; exact len_zeroB _ _
theorem length_maskR_path (W H : Nat) {mode : Bool} {pts : List (Int × Int)} (hne : pts ≠ []) : (maskR mode W H (pathOps pts)).length = W * H := by rw [maskR, length_maskOf, path_len W H hne]
theorem bigB_or (W H : Nat) : bigB W H = (decide (512 < (W : Int)) || decide (512 < (H : Int))) := by simp [bigB]
namespace fnChoose

set_option maxHeartbeats 2000000 in
set_option maxRecDepth 100000 in
theorem walk_long (W H : Nat) (pts : List (Int × Int)) (g off cap : Nat) (w : World) (hs : sizedB (W : Int) (H : Int) = true) (hin : withinB pts 128000 = true)
    (hp : PtsCells w w.heap.size g off pts) (hl : pts.length ≤ 1000) (hl3 : 3 ≤ pts.length) :
    Calls Try.prog 13 #[.int .i64 W, .int .i64 H, .slice (some ⟨g, off, none⟩) pts.length cap] w fun e w' => e = .returned (.bool true) ∧ Same w w' := by
  obtain ⟨s1, s2, s3, s4, s5⟩ := sizedB_iff.1 hs
  have hne : pts ≠ [] := by rintro rfl; simp at hl3
  have hmA : Far pts 262144 := fun q hq => by
    have := (withinB_iff.1 hin).1 q hq
    omega
  have hWn : W ≤ 2000 := by omega
  have hHn : H ≤ 2000 := by omega
  have hn : W * H ≤ 65536 := by
    have : ((W * H : Nat) : Int) ≤ 65536 := by push_cast; exact s5
    omega
  have hpa : PtsAt w w.heap.size (.slice (some ⟨g, off, none⟩) pts.length cap) pts := ⟨_, _, rfl, by omega, fun _ => ⟨g, off, rfl, hp⟩⟩
  have hcases : (512 < (W : Int) ∧ bigB W H = true) ∨ ((W : Int) ≤ 512 ∧ 512 < (H : Int) ∧ bigB W H = true) ∨ ((W : Int) ≤ 512 ∧ (H : Int) ≤ 512 ∧ bigB W H = false) := by
    unfold bigB
    by_cases h1 : 512 < (W : Int)
    · left; exact ⟨h1, by simp [h1]⟩
    · by_cases h2 : 512 < (H : Int)
      · right; left; exact ⟨by omega, h2, by simp [h1, h2]⟩
      · right; right; exact ⟨by omega, by omega, by simp [h1, h2]⟩
  have hA : ∀ mode, MaskROk mode W H (pathOps pts) := fun mode => maskROk_any mode W H hne hmA
  have hlA : (maskR (bigB W H) W H (pathOps pts)).length = W * H := length_maskR_path W H hne
  have HS := hid hs
  have HP := hid hpa
  have HIN := hid hin
  have HA := hid hA
  have HL := hid hlA
  clear hs hp hin hpa hA hlA hmA hne
  rcases hcases with ⟨k1, kb⟩ | ⟨k1, k2, kb⟩ | ⟨k1, k2, kb⟩
  all_goals
    have KB := hid kb
    clear kb
    go_enter Try.func13, Try.ntmps13
    go_wp2_with fail
    refine (sized_any (W : Int) (H : Int) w).mono ?_
    rintro e w' ⟨rfl, rfl⟩
    rw [HS.out]
    go_wp2_with fail
    refine (within_any pts 128000 _ w (by omega) (by omega) HP.out).mono ?_
    rintro e w1 ⟨rfl, t1⟩
    rw [HIN.out]
    have T1 := hid t1
    clear t1
    go_wp2_with fail
    refine (path_any pts _ w1 (by omega) (by omega) ((HP.out.kept T1.out (Nat.le_refl _) (fun _ _ hf => hf)).mono T1.out.size)).mono ?_
    rintro e w2 ⟨vA, rfl, t1, t2⟩
    have T1A := hid t1
    have T2 := hid (T1.out.trans t2)
    clear t1 t2
    go_wp2_with fail
    refine (mask_any W H (pathOps pts) vA w2 (by omega) hWn (by omega) hHn hn T1A.out (HA.out _)).mono ?_
    rintro e w3 ⟨dA, rfl, hdA, t1, t2⟩
    have BA := hid t1
    have T3 := hid (T2.out.trans t2)
    clear t1 t2
    go_wp2_with fail
    refine (path_any pts _ w3 (by omega) (by omega) ((HP.out.kept T3.out (Nat.le_refl _) (fun _ _ hf => hf)).mono T3.out.size)).mono ?_
    rintro e w4 ⟨vB, rfl, t1, t2⟩
    have T1B := hid t1
    have T4 := hid (T3.out.trans t2)
    have BA4 := hid (t2.blk BA.out id)
    clear t1 t2
    go_wp2_with fail
    refine (maskBy_any W H (pathOps pts) vB w4 (by omega) hWn (by omega) hHn hn _ T1B.out (HA.out _)).mono ?_
    rintro e w5 ⟨dB, rfl, hdB, t1, t2⟩
    have t1' : Blk w5 dB 5 (byteCells (maskR (bigB W H) W H (pathOps pts))) := by first | (rw [KB.out]; exact t1) | (rw [bigB_or]; exact t1)
    have BB := hid t1'
    have BA5 := hid (t2.blk BA4.out id)
    have T5 := hid (T4.out.trans t2)
    clear t1 t1' t2
    go_wp2_with fail
    refine (equal_same dA dB (W * H) _ w5 BA5.out BB.out HL.out).mono ?_
    rintro e w6 ⟨rfl, rfl⟩
    go_wp2_with fail
    go_ret
    exact ⟨rfl, T5.out⟩
set_option maxHeartbeats 2000000 in
set_option maxRecDepth 100000 in
theorem walk (W H : Int) (pts : List (Int × Int)) (v : Value) (w : World) (hp : PtsAt w w.heap.size v pts) :
    Calls Try.prog 13 #[.int .i64 W, .int .i64 H, v] w fun e w' => e = .returned (.bool true) ∧ Same w w' := by
  have hin := fun far h h' => within_any pts far v w h h' hp
  obtain ⟨A, cap, rfl, hl, ha⟩ := hp
  by_cases h0 : (2147483647 : Int) < pts.length
  · clear ha hin
    go_enter Try.func13, Try.ntmps13
    go_wp2_with fail
    go_ret
    exact ⟨rfl, Kept.refl _ _⟩
  have h0' : (pts.length : Int) ≤ 2147483647 := Int.not_lt.1 h0
  clear h0
  by_cases hs : sizedB W H = true
  rotate_left
  · have HS := hid (Bool.eq_false_iff.2 hs)
    clear ha hin hs
    go_enter Try.func13, Try.ntmps13
    go_wp2_with fail
    refine (sized_any W H w).mono ?_
    rintro e w' ⟨rfl, rfl⟩
    rw [HS.out]
    go_wp2_with fail
    go_ret
    exact ⟨rfl, Kept.refl _ _⟩
  have HIN := hid hin
  clear hin
  by_cases hw : withinB pts 128000 = true
  rotate_left
  · have HS := hid hs
    have HW := hid (Bool.eq_false_iff.2 hw)
    clear ha hs hw
    go_enter Try.func13, Try.ntmps13
    go_wp2_with fail
    refine (sized_any W H w).mono ?_
    rintro e w' ⟨rfl, rfl⟩
    rw [HS.out]
    go_wp2_with fail
    refine (HIN.out 128000 (by omega) (by omega)).mono ?_
    rintro e w' ⟨rfl, t⟩
    rw [HW.out]
    have T := hid t
    clear t
    go_wp2_with fail
    go_ret
    exact ⟨rfl, T.out⟩
  obtain ⟨_, hl3, hl1⟩ := withinB_iff.1 hw
  obtain ⟨g, off, rfl, hc⟩ := ha (by omega)
  obtain ⟨s1, s2, s3, s4, s5⟩ := sizedB_iff.1 hs
  obtain ⟨Wn, rfl⟩ : ∃ n : Nat, W = n := ⟨W.toNat, by omega⟩
  obtain ⟨Hn, rfl⟩ : ∃ n : Nat, H = n := ⟨H.toNat, by omega⟩
  exact walk_long Wn Hn pts g off cap w hs hw hc hl1 hl3

theorem own : ownKnob Try.prog.godebug = none := by kernel_rfl
theorem readable : ∀ t ∈ Try.f13.params.toList, Try.prog.readableRec t = true ∧ t < Try.prog.types.size := by
  rw [Try.params13]
  intro t ht
  simp only [List.mem_cons, List.not_mem_nil, or_false] at ht
  rcases ht with rfl | rfl | rfl
  all_goals exact ⟨by kernel_rfl, of_decide_eq_true (by kernel_rfl)⟩

set_option maxRecDepth 100000 in
theorem lifted (os : Os) (started : os.Started) (H : Type) (enc : TypeId × Value → H) :
    ReturnsInHanded {} Try.checked os 13 .any (Rows.fnSizeChoosesSpec.pre6 enc Try.prog Try.f13 Rows.fnSizeChoosesRow.domain false) (Rows.fnSizeChoosesSpec.post enc Try.prog Try.f13 false true false false) := by
  refine returnsInHanded_of_change (C := Try.checked) own started (by kernel_rfl) Try.func13
    (ChangeSpec.witness6 (enc := enc) (C := Try.checked) false ⟨#[], #[.int .i64 0, .int .i64 0, .slice none 0 0], []⟩ 8 (by kernel_rfl) (by kernel_rfl) (by kernel_rfl) (by kernel_rfl)) ?_
  intro W base args ds gs before hval0 hW hcnd _
  have hval : ∀ (j : Nat) t v, Try.f13.params[j]? = some t → args[j]? = some v → Value.okWide Try.prog W .any base t v := hval0
  have hW' := hW
  obtain ⟨p, q, hA0, hV, rfl, hfz, hnd⟩ := hW
  have hA : DataW.TrodAll enc Try.prog W 0 (fun _ => true) true Try.f13.params.toList args.toList ds p := hA0
  rw [Try.params13] at hA hval
  obtain ⟨v0, vs0, d0, ds0, p0, q0, hargs, rfl, rfl, h0, r0⟩ := trodAll_cons hA
  obtain ⟨v1, vs1, d1, ds1, p1, q1, rfl, rfl, rfl, h1, r1⟩ := trodAll_cons r0
  obtain ⟨v2, vs2, d2, ds2, p2, q2, rfl, rfl, rfl, h2, r2⟩ := trodAll_cons r1
  obtain ⟨rfl, rfl, rfl⟩ := trodAll_nil r2
  obtain rfl : args = #[v0, v1, v2] := by cases args; simp_all
  obtain ⟨rfl, rfl⟩ := trodVars_none hV
  obtain ⟨a0, rfl, rfl, rfl, w0⟩ := open_int Try.underlying3 (hval 0 3 v0 rfl rfl) h0
  obtain ⟨a1, rfl, rfl, rfl, w1⟩ := open_int Try.underlying3 (hval 1 3 v1 rfl rfl) h1
  obtain ⟨pts, hpts⟩ := open_ptsT (hval 2 27 v2 rfl rfl) h2
  clear hA0 hval0
  simp only [List.append_nil] at hW'
  refine (walk a0 a1 pts v2 W hpts).mono fun e W' ⟨he, hg⟩ => ?_
  subst he
  exact ⟨_, rfl, law_post readable rfl rfl rfl hW' hg.toBelow⟩

theorem over : Rows.fnSizeChoosesRow.holds Try.pinned (OpenSpec.ofChange Rows.fnSizeChoosesSpec) :=
  OpenClaim.holds_of_wide 13 Try.f13 rfl rfl rfl rfl rfl rfl rfl ⟨rfl, rfl, rfl, rfl, rfl⟩ rfl rfl rfl rfl rfl (by kernel_rfl) Try.func13 (by kernel_rfl)
    (of_decide_eq_true (by kernel_rfl)) (by unfold Func.isWrapper; first | (rw [if_pos (by decide +kernel)]; kernel_rfl) | (rw [if_neg (by decide +kernel)]; exact ⟨rfl, rfl⟩))
    (fun os started H enc _ => lifted os started H enc)

/-- The statement. -/
theorem proved : Rows.FnSizeChoosesSaid :=
  over
#print axioms proved
end fnChoose
end Go.Proofs.Ytmgcbodlolnheaa
