/-
  'laws.FnResetIsNew' returns true, and leaves its arguments as they were, for every input. Conditions: none.
-/
import Derived.Test.YtmgcbodlolnheaaFnChoose
namespace Go.Proofs.Ytmgcbodlolnheaa
open Go.ChangeShapes Go.WideShapes Go.ChangeAt Go.RowKit
set_option linter.unusedVariables false
theorem OpsAt.mono {w : World} {B C : Nat} {v : Value} {ops : List (Int × List Int)} (h : OpsAt w B v ops) (hB : B ≤ C) : OpsAt w C v ops := by
  obtain ⟨A, cap, h1, h2, h3⟩ := h
  refine ⟨A, cap, h1, h2, fun hp => ?_⟩
  obtain ⟨g, off, a, b, c⟩ := h3 hp
  refine ⟨g, off, a, Nat.lt_of_lt_of_le b hB, fun j hj => ?_⟩
  obtain ⟨pv, c1, c2, A', cap', d1, d2, d3⟩ := c j hj
  refine ⟨pv, c1, c2, A', cap', d1, d2, fun hq => ?_⟩
  obtain ⟨g', off', e1, e2, e3⟩ := d3 hq
  exact ⟨g', off', e1, Nat.lt_of_lt_of_le e2 hB, e3⟩
theorem maskAgain_any (W0 H0 W H : Nat) (ops0 ops : List (Int × List Int)) (v0 v : Value) (w : World) (w01 : 1 ≤ W0) (w02 : W0 ≤ 2000) (h01 : 1 ≤ H0) (h02 : H0 ≤ 2000) (hn0 : W0 * H0 ≤ 65536)
    (w1 : 1 ≤ W) (w2 : W ≤ 2000) (h1 : 1 ≤ H) (h2 : H ≤ 2000) (hn : W * H ≤ 65536) (hpos0 : 0 < ops0.length) (hops0 : OpsAt w w.heap.size v0 ops0) (hok0 : StepsOpOk W0 H0 ops0 (startS (bigB W0 H0) (W0 * H0)))
    (hpos : 0 < ops.length) (hops : OpsAt w w.heap.size v ops) (hok : MaskROk (bigB W H) W H ops) :
    Calls Try.prog 35 #[.int .i64 W0, .int .i64 H0, v0, .int .i64 W, .int .i64 H, v] w (MaskIs w (W * H) (maskR (bigB W H) W H ops)) := by
  obtain ⟨A0, cap0, rfl, hl0, ha0⟩ := hops0
  obtain ⟨A, cap, rfl, hl, ha⟩ := hops
  obtain ⟨g0, off0, rfl, hc0⟩ := ha0 hpos0
  obtain ⟨g, off, rfl, hc⟩ := ha hpos
  exact maskAgain_cons W0 H0 W H ops0 ops g0 off0 cap0 g off cap w w01 w02 h01 h02 hn0 w1 w2 h1 h2 hn (Nat.mul_pos w01 h01) (Nat.mul_pos w1 h1) hpos0 hl0 hc0 hok0 hpos hl hc hok
namespace fnReset

set_option maxHeartbeats 2000000 in
set_option maxRecDepth 100000 in
theorem walk_long (W0 H0 W H : Nat) (pts0 pts : List (Int × Int)) (g0 off0 cap0 g off cap : Nat) (w : World) (hs0 : sizedB (W0 : Int) (H0 : Int) = true) (hs : sizedB (W : Int) (H : Int) = true) (hin0 : withinB pts0 128000 = true) (hin : withinB pts 128000 = true)
    (hp0 : PtsCells w w.heap.size g0 off0 pts0) (hp : PtsCells w w.heap.size g off pts) (hl0 : pts0.length ≤ 1000) (hl03 : 3 ≤ pts0.length) (hl : pts.length ≤ 1000) (hl3 : 3 ≤ pts.length) :
    Calls Try.prog 14 #[.int .i64 W0, .int .i64 H0, .slice (some ⟨g0, off0, none⟩) pts0.length cap0, .int .i64 W, .int .i64 H, .slice (some ⟨g, off, none⟩) pts.length cap] w fun e w' => e = .returned (.bool true) ∧ Same w w' := by
  obtain ⟨s01, s02, s03, s04, s05⟩ := sizedB_iff.1 hs0
  obtain ⟨s1, s2, s3, s4, s5⟩ := sizedB_iff.1 hs
  have hne0 : pts0 ≠ [] := by rintro rfl; simp at hl03
  have hne : pts ≠ [] := by rintro rfl; simp at hl3
  have hm0 : Far pts0 262144 := fun q hq => by
    have := (withinB_iff.1 hin0).1 q hq
    omega
  have hm : Far pts 262144 := fun q hq => by
    have := (withinB_iff.1 hin).1 q hq
    omega
  have hW0 : W0 ≤ 2000 := by omega
  have hH0 : H0 ≤ 2000 := by omega
  have hn0 : W0 * H0 ≤ 65536 := by
    have : ((W0 * H0 : Nat) : Int) ≤ 65536 := by push_cast; exact s05
    omega
  have hW : W ≤ 2000 := by omega
  have hH : H ≤ 2000 := by omega
  have hn : W * H ≤ 65536 := by
    have : ((W * H : Nat) : Int) ≤ 65536 := by push_cast; exact s5
    omega
  have hn01 : 1 ≤ W0 * H0 := Nat.mul_pos (by omega) (by omega)
  have hn1 : 1 ≤ W * H := Nat.mul_pos (by omega) (by omega)
  have hpa0 : PtsAt w w.heap.size (.slice (some ⟨g0, off0, none⟩) pts0.length cap0) pts0 := ⟨_, _, rfl, by omega, fun _ => ⟨g0, off0, rfl, hp0⟩⟩
  have hpa : PtsAt w w.heap.size (.slice (some ⟨g, off, none⟩) pts.length cap) pts := ⟨_, _, rfl, by omega, fun _ => ⟨g, off, rfl, hp⟩⟩
  have hA0 : StepsOpOk W0 H0 (pathOps pts0) (startS (bigB W0 H0) (W0 * H0)) := (maskROk_any (bigB W0 H0) W0 H0 hne0 hm0).1
  have hA : MaskROk (bigB W H) W H (pathOps pts) := maskROk_any _ W H hne hm
  have hlA : (maskR (bigB W H) W H (pathOps pts)).length = W * H := length_maskR_path W H hne
  have ho0 : (pathOps pts0).length = pts0.length + 1 := by simp [pathOps, length_lineOps]
  have ho : (pathOps pts).length = pts.length + 1 := by simp [pathOps, length_lineOps]
  have HS0 := hid hs0
  have HS := hid hs
  have HP0 := hid hpa0
  have HP := hid hpa
  have HIN0 := hid hin0
  have HIN := hid hin
  have HA0 := hid hA0
  have HA := hid hA
  have HL := hid hlA
  have HO0 := hid ho0
  have HO := hid ho
  clear hs0 hs hp0 hp hin0 hin hpa0 hpa hA0 hA hlA hm0 hm hne0 hne ho0 ho
  go_enter Try.func14, Try.ntmps14
  go_wp2_with fail
  refine (sized_any (W0 : Int) (H0 : Int) w).mono ?_
  rintro e w' ⟨rfl, rfl⟩
  rw [HS0.out]
  go_wp2_with fail
  refine (sized_any (W : Int) (H : Int) w).mono ?_
  rintro e w' ⟨rfl, rfl⟩
  rw [HS.out]
  go_wp2_with fail
  refine (within_any pts0 128000 _ w (by omega) (by omega) HP0.out).mono ?_
  rintro e w1 ⟨rfl, t1⟩
  rw [HIN0.out]
  have T1 := hid t1
  clear t1
  go_wp2_with fail
  refine (within_any pts 128000 _ w1 (by omega) (by omega) ((HP.out.kept T1.out (Nat.le_refl _) (fun _ _ hf => hf)).mono T1.out.size)).mono ?_
  rintro e w2 ⟨rfl, t1⟩
  rw [HIN.out]
  have T2 := hid (T1.out.trans t1)
  clear t1
  go_wp2_with fail
  refine (path_any pts0 _ w2 (by omega) (by omega) ((HP0.out.kept T2.out (Nat.le_refl _) (fun _ _ hf => hf)).mono T2.out.size)).mono ?_
  rintro e w3 ⟨v0, rfl, t1, t2⟩
  have O0 := hid t1
  have T3 := hid (T2.out.trans t2)
  clear t1 t2
  go_wp2_with fail
  refine (path_any pts _ w3 (by omega) (by omega) ((HP.out.kept T3.out (Nat.le_refl _) (fun _ _ hf => hf)).mono T3.out.size)).mono ?_
  rintro e w4 ⟨vA, rfl, t1, t2⟩
  have OA := hid t1
  have O04 := hid ((O0.out.kept t2 (Nat.le_refl _) (fun _ _ hf => hf)))
  have hsz := t2.size
  have T4 := hid (T3.out.trans t2)
  clear t1 t2
  go_wp2_with fail
  refine (maskAgain_any W0 H0 W H (pathOps pts0) (pathOps pts) v0 vA w4 (by omega) hW0 (by omega) hH0 hn0 (by omega) hW (by omega) hH hn (by rw [HO0.out]; omega) (O04.out.mono hsz) HA0.out (by rw [HO.out]; omega) OA.out HA.out).mono ?_
  rintro e w5 ⟨dA, rfl, hdA, t1, t2⟩
  have BA := hid t1
  have T5 := hid (T4.out.trans t2)
  clear t1 t2 hsz
  go_wp2_with fail
  refine (path_any pts _ w5 (by omega) (by omega) ((HP.out.kept T5.out (Nat.le_refl _) (fun _ _ hf => hf)).mono T5.out.size)).mono ?_
  rintro e w6 ⟨vB, rfl, t1, t2⟩
  have OB := hid t1
  have T6 := hid (T5.out.trans t2)
  have BA6 := hid (t2.blk BA.out id)
  clear t1 t2
  go_wp2_with fail
  refine (mask_any W H (pathOps pts) vB w6 (by omega) hW (by omega) hH hn OB.out HA.out).mono ?_
  rintro e w7 ⟨dB, rfl, hdB, t1, t2⟩
  have BB := hid t1
  have BA7 := hid (t2.blk BA6.out id)
  have T7 := hid (T6.out.trans t2)
  clear t1 t2
  go_wp2_with fail
  refine (equal_same dA dB (W * H) _ w7 BA7.out BB.out HL.out).mono ?_
  rintro e w8 ⟨rfl, rfl⟩
  go_wp2_with fail
  go_ret
  exact ⟨rfl, T7.out⟩

set_option maxHeartbeats 4000000 in
set_option maxRecDepth 100000 in
theorem walk (W0 H0 W H : Int) (pts0 pts : List (Int × Int)) (v0 v : Value) (w : World) (hp0 : PtsAt w w.heap.size v0 pts0) (hp : PtsAt w w.heap.size v pts) :
    Calls Try.prog 14 #[.int .i64 W0, .int .i64 H0, v0, .int .i64 W, .int .i64 H, v] w fun e w' => e = .returned (.bool true) ∧ Same w w' := by
  have hin0 := fun far h h' => within_any pts0 far v0 w h h' hp0
  have hinw := fun (far : Int) (h : 0 ≤ far) (h' : far ≤ 1000000000) (w1 : World) (hk : Same w w1) => within_any pts far v w1 h h' ((hp.kept hk (Nat.le_refl _) (fun _ _ hf => hf)).mono hk.size)
  obtain ⟨A0, cap0, rfl, hl0, ha0⟩ := hp0
  obtain ⟨A, cap, rfl, hl, ha⟩ := hp
  by_cases h00 : (2147483647 : Int) < pts0.length
  · clear ha0 ha hin0 hinw
    go_enter Try.func14, Try.ntmps14
    go_wp2_with fail
    go_ret
    exact ⟨rfl, Kept.refl _ _⟩
  have h00' : (pts0.length : Int) ≤ 2147483647 := Int.not_lt.1 h00
  clear h00
  by_cases h0 : (2147483647 : Int) < pts.length
  · clear ha0 ha hin0 hinw
    go_enter Try.func14, Try.ntmps14
    go_wp2_with fail
    go_ret
    exact ⟨rfl, Kept.refl _ _⟩
  have h0' : (pts.length : Int) ≤ 2147483647 := Int.not_lt.1 h0
  clear h0
  by_cases hs0 : sizedB W0 H0 = true
  rotate_left
  · have HS0 := hid (Bool.eq_false_iff.2 hs0)
    clear ha0 ha hin0 hinw hs0
    go_enter Try.func14, Try.ntmps14
    go_wp2_with fail
    refine (sized_any W0 H0 w).mono ?_
    rintro e w' ⟨rfl, rfl⟩
    rw [HS0.out]
    go_wp2_with fail
    go_ret
    exact ⟨rfl, Kept.refl _ _⟩
  by_cases hs : sizedB W H = true
  rotate_left
  · have HS0 := hid hs0
    have HS := hid (Bool.eq_false_iff.2 hs)
    clear ha0 ha hin0 hinw hs0 hs
    go_enter Try.func14, Try.ntmps14
    go_wp2_with fail
    refine (sized_any W0 H0 w).mono ?_
    rintro e w' ⟨rfl, rfl⟩
    rw [HS0.out]
    go_wp2_with fail
    refine (sized_any W H w).mono ?_
    rintro e w' ⟨rfl, rfl⟩
    rw [HS.out]
    go_wp2_with fail
    go_ret
    exact ⟨rfl, Kept.refl _ _⟩
  have HIN0 := hid hin0
  have HIN := hid hinw
  clear hin0 hinw
  by_cases hw0 : withinB pts0 128000 = true
  rotate_left
  · have HS0 := hid hs0
    have HS := hid hs
    have HW0 := hid (Bool.eq_false_iff.2 hw0)
    clear ha0 ha hs0 hs hw0
    go_enter Try.func14, Try.ntmps14
    go_wp2_with fail
    refine (sized_any W0 H0 w).mono ?_
    rintro e w' ⟨rfl, rfl⟩
    rw [HS0.out]
    go_wp2_with fail
    refine (sized_any W H w).mono ?_
    rintro e w' ⟨rfl, rfl⟩
    rw [HS.out]
    go_wp2_with fail
    refine (HIN0.out 128000 (by omega) (by omega)).mono ?_
    rintro e w' ⟨rfl, t⟩
    rw [HW0.out]
    have T := hid t
    clear t
    go_wp2_with fail
    go_ret
    exact ⟨rfl, T.out⟩
  by_cases hw : withinB pts 128000 = true
  rotate_left
  · have HS0 := hid hs0
    have HS := hid hs
    have HW0 := hid hw0
    have HW := hid (Bool.eq_false_iff.2 hw)
    clear ha0 ha hs0 hs hw0 hw
    go_enter Try.func14, Try.ntmps14
    go_wp2_with fail
    refine (sized_any W0 H0 w).mono ?_
    rintro e w' ⟨rfl, rfl⟩
    rw [HS0.out]
    go_wp2_with fail
    refine (sized_any W H w).mono ?_
    rintro e w' ⟨rfl, rfl⟩
    rw [HS.out]
    go_wp2_with fail
    refine (HIN0.out 128000 (by omega) (by omega)).mono ?_
    rintro e w1 ⟨rfl, t⟩
    rw [HW0.out]
    have T := hid t
    clear t
    go_wp2_with fail
    refine (HIN.out 128000 (by omega) (by omega) w1 T.out).mono ?_
    rintro e w2 ⟨rfl, t⟩
    rw [HW.out]
    have T2 := hid (T.out.trans t)
    clear t
    go_wp2_with fail
    go_ret
    exact ⟨rfl, T2.out⟩
  obtain ⟨_, hl3, hl1⟩ := withinB_iff.1 hw
  obtain ⟨_, hl03, hl01⟩ := withinB_iff.1 hw0
  obtain ⟨g, off, rfl, hc⟩ := ha (by omega)
  obtain ⟨g0, off0, rfl, hc0⟩ := ha0 (by omega)
  obtain ⟨s01, s02, s03, s04, s05⟩ := sizedB_iff.1 hs0
  obtain ⟨s1, s2, s3, s4, s5⟩ := sizedB_iff.1 hs
  obtain ⟨Wn, rfl⟩ : ∃ n : Nat, W = n := ⟨W.toNat, by omega⟩
  obtain ⟨Hn, rfl⟩ : ∃ n : Nat, H = n := ⟨H.toNat, by omega⟩
  obtain ⟨Wn0, rfl⟩ : ∃ n : Nat, W0 = n := ⟨W0.toNat, by omega⟩
  obtain ⟨Hn0, rfl⟩ : ∃ n : Nat, H0 = n := ⟨H0.toNat, by omega⟩
  exact walk_long Wn0 Hn0 Wn Hn pts0 pts g0 off0 cap0 g off cap w hs0 hs hw0 hw hc0 hc hl01 hl03 hl1 hl3

theorem own : ownKnob Try.prog.godebug = none := by kernel_rfl
theorem readable : ∀ t ∈ Try.f14.params.toList, Try.prog.readableRec t = true ∧ t < Try.prog.types.size := by
  rw [Try.params14]
  intro t ht
  simp only [List.mem_cons, List.not_mem_nil, or_false] at ht
  rcases ht with rfl | rfl | rfl | rfl | rfl | rfl
  all_goals exact ⟨by kernel_rfl, of_decide_eq_true (by kernel_rfl)⟩

set_option maxRecDepth 100000 in
theorem lifted (os : Os) (started : os.Started) (H : Type) (enc : TypeId × Value → H) :
    ReturnsInHanded {} Try.checked os 14 .any (Rows.fnResetIsNewSpec.pre6 enc Try.prog Try.f14 Rows.fnResetIsNewRow.domain false) (Rows.fnResetIsNewSpec.post enc Try.prog Try.f14 false true false false) := by
  refine returnsInHanded_of_change (C := Try.checked) own started (by kernel_rfl) Try.func14
    (ChangeSpec.witness6 (enc := enc) (C := Try.checked) false ⟨#[], #[.int .i64 0, .int .i64 0, .slice none 0 0, .int .i64 0, .int .i64 0, .slice none 0 0], []⟩ 8 (by kernel_rfl) (by kernel_rfl) (by kernel_rfl) (by kernel_rfl)) ?_
  intro W base args ds gs before hval0 hW hcnd _
  have hval : ∀ (j : Nat) t v, Try.f14.params[j]? = some t → args[j]? = some v → Value.okWide Try.prog W .any base t v := hval0
  have hW' := hW
  obtain ⟨p, q, hA0, hV, rfl, hfz, hnd⟩ := hW
  have hA : DataW.TrodAll enc Try.prog W 0 (fun _ => true) true Try.f14.params.toList args.toList ds p := hA0
  rw [Try.params14] at hA hval
  obtain ⟨v0, vs0, d0, ds0, p0, q0, hargs, rfl, rfl, h0, r0⟩ := trodAll_cons hA
  obtain ⟨v1, vs1, d1, ds1, p1, q1, rfl, rfl, rfl, h1, r1⟩ := trodAll_cons r0
  obtain ⟨v2, vs2, d2, ds2, p2, q2, rfl, rfl, rfl, h2, r2⟩ := trodAll_cons r1
  obtain ⟨v3, vs3, d3, ds3, p3, q3, rfl, rfl, rfl, h3, r3⟩ := trodAll_cons r2
  obtain ⟨v4, vs4, d4, ds4, p4, q4, rfl, rfl, rfl, h4, r4⟩ := trodAll_cons r3
  obtain ⟨v5, vs5, d5, ds5, p5, q5, rfl, rfl, rfl, h5, r5⟩ := trodAll_cons r4
  obtain ⟨rfl, rfl, rfl⟩ := trodAll_nil r5
  obtain rfl : args = #[v0, v1, v2, v3, v4, v5] := by cases args; simp_all
  obtain ⟨rfl, rfl⟩ := trodVars_none hV
  obtain ⟨a0, rfl, rfl, rfl, w0⟩ := open_int Try.underlying3 (hval 0 3 v0 rfl rfl) h0
  obtain ⟨a1, rfl, rfl, rfl, w1⟩ := open_int Try.underlying3 (hval 1 3 v1 rfl rfl) h1
  obtain ⟨pts0, hpts0⟩ := open_ptsT (hval 2 27 v2 rfl rfl) h2
  obtain ⟨a3, rfl, rfl, rfl, w3⟩ := open_int Try.underlying3 (hval 3 3 v3 rfl rfl) h3
  obtain ⟨a4, rfl, rfl, rfl, w4⟩ := open_int Try.underlying3 (hval 4 3 v4 rfl rfl) h4
  obtain ⟨pts, hpts⟩ := open_ptsT (hval 5 27 v5 rfl rfl) h5
  clear hA0 hval0
  simp only [List.append_nil] at hW'
  refine (walk a0 a1 a3 a4 pts0 pts v2 v5 W hpts0 hpts).mono fun e W' ⟨he, hg⟩ => ?_
  subst he
  exact ⟨_, rfl, law_post readable rfl rfl rfl hW' hg.toBelow⟩

theorem over : Rows.fnResetIsNewRow.holds Try.pinned (OpenSpec.ofChange Rows.fnResetIsNewSpec) :=
  OpenClaim.holds_of_wide 14 Try.f14 rfl rfl rfl rfl rfl rfl rfl ⟨rfl, rfl, rfl, rfl, rfl⟩ rfl rfl rfl rfl rfl (by kernel_rfl) Try.func14 (by kernel_rfl)
    (of_decide_eq_true (by kernel_rfl)) (by unfold Func.isWrapper; first | (rw [if_pos (by decide +kernel)]; kernel_rfl) | (rw [if_neg (by decide +kernel)]; exact ⟨rfl, rfl⟩))
    (fun os started H enc _ => lifted os started H enc)

/-- The statement. -/
theorem proved : Rows.FnResetIsNewSaid :=
  over
#print axioms proved
end fnReset
end Go.Proofs.Ytmgcbodlolnheaa
