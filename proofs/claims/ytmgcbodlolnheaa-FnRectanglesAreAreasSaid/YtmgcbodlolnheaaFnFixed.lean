/-
  With numbers of fixed point, of closed paths through points in 64ths of a pixel, each pixel is covered by the area that they go round, but for 4 of 255, and 1 for each edge in each row that the longest edge has. No condition beyond the statement's own.
-/
import Derived.Test.YtmgcbodlolnheaaArea
import Derived.Test.YtmgcbodlolnheaaNearLaw
import Derived.Test.YtmgcbodlolnheaaEqual
namespace Go.Proofs.Ytmgcbodlolnheaa
open Go.ChangeShapes Go.WideShapes Go.ChangeAt Go.RowKit Go.Deep
set_option linter.unusedVariables false

set_option maxRecDepth 100000 in
theorem area_none (A : Option Addr) (cap : Nat) (X Y : Int) (w : World) (hok : AreaOk [] X Y) :
    Calls Try.prog 46 #[.slice A 0 cap, .int .i64 X, .int .i64 Y, .int .i64 64] w fun e w' => e = .returned (.float .f64 (areaW [] X Y)) ∧ Same w w' := by
  have hq : Fok64 .quo 0 (floatOfInt .f64 4096) := hok.o1
  clear hok
  go_enter Try.func46, Try.ntmps46
  go_wp2_with fail
  go_loopw [9, 30] (fun s i wr => i = .int .i64 0 ∧ s = .float .f64 0 ∧ Same w wr) (fun _ i _ => 0)
  case atStart => exact ⟨rfl, rfl, Kept.refl _ _⟩
  case round =>
    obtain ⟨rfl, rfl, hs⟩ := hrel
    go_wp2_with fail
    go_ret
    exact ⟨rfl, hs⟩
theorem area_own (es : List Edge) (v : Value) (X Y : Int) {D : Nat} (w : World) (hlen : es.length ≤ 1000000) (hx : 0 ≤ X ∧ X ≤ 100000) (hy : 0 ≤ Y ∧ Y ≤ 100000) (hp : w.ownsRow D 78 4 v es.length (edgeCells es)) (hnear : ∀ e ∈ es, ENear e) (hok : AreaOk es X Y) :
    Calls Try.prog 46 #[v, .int .i64 X, .int .i64 Y, .int .i64 64] w fun e w' => e = .returned (.float .f64 (areaW es X Y)) ∧ Same w w' := by
  rcases Nat.eq_zero_or_pos es.length with h0 | h0
  · have he := List.length_eq_zero_iff.1 h0
    subst he
    rcases hp.2 with ⟨rfl, _⟩ | ⟨g, cap, cur, rfl, _⟩
    · exact area_none none 0 X Y w hok
    · exact area_none _ cap X Y w hok
  · obtain ⟨g, cap, rfl, _, _⟩ := hp.form h0
    exact area_cons es g 0 cap X Y w h0 hlen hx hy (edges_own hp rfl h0) hnear hok
/-! ### what passes 'laws.several' -/
theorem sevB_iff {W H : Int} {ls : List (List (Int × Int))} : sevB W H ls = true ↔ (sizedB W H = true ∧ W ≤ 200 ∧ H ≤ 200 ∧ ls.length ≤ 4 ∧ sevTest W H ls = true) := by
  unfold sevB
  simp only [Bool.and_eq_true, decide_eq_true_eq, and_assoc]
theorem sevTest_mem {W H : Int} {ls : List (List (Int × Int))} (h : sevTest W H ls = true) {p : List (Int × Int)} (hp : p ∈ ls) : withinB p (64 * (64 + imin W H)) = true ∧ p.length ≤ 12 := by
  have := List.all_eq_true.1 h p hp
  unfold rowOk at this
  rw [Bool.and_eq_true, decide_eq_true_eq] at this
  exact this
theorem sev_edges (ls : List (List (Int × Int))) : sevEdges ls = ls.flatMap edges := by
  unfold sevEdges
  congr 1
  funext p
  exact polyTo_edges p
theorem sev_ops (ls : List (List (Int × Int))) : sevOps ls = ls.flatMap pathOps := rfl
theorem sev_ne {W H : Int} {ls : List (List (Int × Int))} (h : sevTest W H ls = true) : ∀ p ∈ ls, p ≠ [] := by
  intro p hp h0
  have := (withinB_iff.1 (sevTest_mem h hp).1).2.1
  rw [h0] at this
  simp at this
theorem sev_far {W H : Int} {ls : List (List (Int × Int))} (hW : W ≤ 200) (hH : H ≤ 200) (h : sevTest W H ls = true) : ∀ p ∈ ls, Far p 16896 := by
  intro p hp q hq
  have := (withinB_iff.1 (sevTest_mem h hp).1).1 q hq
  have hm : imin W H ≤ 200 := by unfold imin; split <;> omega
  omega
theorem far_up {p : List (Int × Int)} (h : Far p 16896) : Far p 262144 := fun q hq => by have := h q hq; omega
theorem edge17_near {e : Edge} (h : Edge17 e) : ENear e := by unfold Edge17 at h; unfold ENear; omega
end Go.Proofs.Ytmgcbodlolnheaa

namespace Go.Proofs.Ytmgcbodlolnheaa.fnFixed
open Go.ChangeShapes Go.WideShapes Go.ChangeAt Go.RowKit Go.Deep
set_option linter.unusedVariables false

set_option maxHeartbeats 4000000 in
set_option maxRecDepth 100000 in
theorem walk_long (W H : Nat) (ls : List (List (Int × Int))) (v : Value) (w : World) (hv : RowsAt w w.heap.size v ls) (hfit : fits2B ls = true) (hs : sevB (W : Int) (H : Int) ls = true) :
    Calls Try.prog 8 #[.int .i64 W, .int .i64 H, v] w fun e w' => e = .returned (.bool true) ∧ Same w w' := by
  obtain ⟨z1, z2, z3, z4, z5⟩ := sevB_iff.1 hs
  obtain ⟨s1, s2, s3, s4, s5⟩ := sizedB_iff.1 z1
  have HV := hid hv
  have HF := hid hfit
  have HB := hid hs
  have hn : W * H ≤ 65536 := by
    have : ((W * H : Nat) : Int) ≤ 65536 := by push_cast; exact s5
    omega
  have hfar := sev_far z2 z3 z5
  have hne := sev_ne z5
  have hl := sev_len z5
  have hok : MaskROk false W H (sevOps ls) := maskROk_several false W H hne fun p hp => far_up (hfar p hp)
  have hml : (maskR false W H (sevOps ls)).length = W * H := len_several W H false hne
  have h17 : ∀ e ∈ sevEdges ls, Edge17 e := by rw [sev_edges]; exact edge17_of hfar
  have hall : NearAll (maskR false W H (sevOps ls)) W H (sevEdges ls) (slackW (sevEdges ls)) := by
    have h9 := hl.2
    rw [sev_edges] at h9 ⊢
    exact fixed_all (by omega) (by omega) hne hfar (by omega)
  have HOK := hid hok
  have H17 := hid h17
  have HALL := hid hall
  have HML := hid hml
  have HL := hid hl
  clear hv hfit hs z1 z5 hfar hne hok h17 hall hml hl s5
  go_enter Try.func8, Try.ntmps8
  go_wp2_with fail
  refine (fits2_any ls v w HV.out).mono ?_
  rintro e w' ⟨rfl, rfl⟩
  rw [HF.out]
  go_wp2_with fail
  refine (several_any (W : Int) (H : Int) ls v w HV.out).mono ?_
  rintro e w1 ⟨v7, v8, rfl, t1, t2⟩
  rw [HB.out]
  have T1 := hid (t1 HB.out)
  have T2 := hid t2
  clear t1 t2
  go_wp2_with fail
  have hops : OpsAt w1 w1.heap.size v7 (sevOps ls) := by
    obtain ⟨xs, r1, r2⟩ := T1.out.ops
    refine opsAt_own rfl ?_ r1 r2
    have h9 := HL.out.1
    omega
  have HOP := hid hops
  clear hops
  refine (maskBy_any W H (sevOps ls) v7 w1 (by omega) (by omega) (by omega) (by omega) hn false HOP.out HOK.out).mono ?_
  rintro e w2 ⟨d, rfl, hd, t1, t2⟩
  have BA := hid t1
  have T3 := hid (T2.out.trans t2)
  have E2 := hid (own_sameW T1.out.edges t2)
  clear t1 t2 hd
  generalize maskR false W H (sevOps ls) = m at BA HALL HML
  have hel : (sevEdges ls).length ≤ 100 := by have := HL.out.2; omega
  generalize sevEdges ls = es at E2 H17 HALL hel
  go_wp2_with fail
  refine (slack_own es v8 w2 (by omega) E2.out H17.out).mono ?_
  rintro e w3 ⟨rfl, t3⟩
  have T4 := hid (T3.out.trans t3)
  have E3 := hid (own_sameW E2.out t3)
  have B3 := hid (t3.blk BA.out id)
  clear t3
  go_wp2_with fail
  refine (nearMask m d (W * H) W H es v8 (slackW es) w3 (by omega) (by omega) HML.out B3.out HALL.out (fun X Y wr hX hY hsm hok => area_own es v8 X Y wr (by omega) (by omega) (by omega) (own_sameW E3.out hsm) (fun e he => edge17_near (H17.out e he)) hok)).mono ?_
  rintro e w4 ⟨rfl, t4⟩
  have T5 := hid (T4.out.trans t4)
  clear t4
  go_wp2_with fail
  go_ret
  exact ⟨rfl, T5.out⟩
set_option maxHeartbeats 2000000 in
set_option maxRecDepth 100000 in
theorem walk (W H : Int) (ls : List (List (Int × Int))) (v : Value) (w : World) (hv : RowsAt w w.heap.size v ls) :
    Calls Try.prog 8 #[.int .i64 W, .int .i64 H, v] w fun e w' => e = .returned (.bool true) ∧ Same w w' := by
  cases hf : fits2B ls
  · have HF := hid hf
    have HV := hid hv
    clear hf hv
    go_enter Try.func8, Try.ntmps8
    go_wp2_with fail
    refine (fits2_any ls v w HV.out).mono ?_
    rintro e w' ⟨rfl, rfl⟩
    rw [HF.out]
    go_wp2_with fail
    go_ret
    exact ⟨rfl, Kept.refl _ _⟩
  cases hs : sevB W H ls
  · have HF := hid hf
    have HV := hid hv
    have HS := hid hs
    clear hf hv hs
    go_enter Try.func8, Try.ntmps8
    go_wp2_with fail
    refine (fits2_any ls v w HV.out).mono ?_
    rintro e w' ⟨rfl, rfl⟩
    rw [HF.out]
    go_wp2_with fail
    refine (several_any W H ls v w HV.out).mono ?_
    rintro e w1 ⟨v7, v8, rfl, _, t2⟩
    rw [HS.out]
    have T2 := hid t2
    clear t2
    go_wp2_with fail
    go_ret
    exact ⟨rfl, T2.out⟩
  obtain ⟨z1, _⟩ := sevB_iff.1 hs
  obtain ⟨s1, s2, s3, s4, s5⟩ := sizedB_iff.1 z1
  obtain ⟨Wn, rfl⟩ : ∃ n : Nat, W = n := ⟨W.toNat, by omega⟩
  obtain ⟨Hn, rfl⟩ : ∃ n : Nat, H = n := ⟨H.toNat, by omega⟩
  exact walk_long Wn Hn ls v w hv hf hs

theorem own : ownKnob Try.prog.godebug = none := by kernel_rfl
theorem readable : ∀ t ∈ Try.f8.params.toList, Try.prog.readableRec t = true ∧ t < Try.prog.types.size := by
  rw [Try.params8]
  intro t ht
  simp only [List.mem_cons, List.not_mem_nil, or_false] at ht
  rcases ht with rfl | rfl | rfl
  all_goals exact ⟨by kernel_rfl, of_decide_eq_true (by kernel_rfl)⟩

set_option maxRecDepth 100000 in
theorem lifted (os : Os) (started : os.Started) (H : Type) (enc : TypeId × Value → H) :
    ReturnsInHanded {} Try.checked os 8 .any (Rows.fnFixedIsAreaSpec.pre6 enc Try.prog Try.f8 Rows.fnFixedIsAreaRow.domain false) (Rows.fnFixedIsAreaSpec.post enc Try.prog Try.f8 false true false false) := by
  refine returnsInHanded_of_change (C := Try.checked) own started (by kernel_rfl) Try.func8
    (ChangeSpec.witness6 (enc := enc) (C := Try.checked) false ⟨#[], #[.int .i64 0, .int .i64 0, .slice none 0 0], []⟩ 8 (by kernel_rfl) (by kernel_rfl) (by kernel_rfl) (by kernel_rfl)) ?_
  intro W base args ds gs before hval0 hW hcnd _
  have hval : ∀ (j : Nat) t v, Try.f8.params[j]? = some t → args[j]? = some v → Value.okWide Try.prog W .any base t v := hval0
  have hW' := hW
  obtain ⟨p, q, hA0, hV, rfl, hfz, hnd⟩ := hW
  have hA : DataW.TrodAll enc Try.prog W 0 (fun _ => true) true Try.f8.params.toList args.toList ds p := hA0
  rw [Try.params8] at hA hval
  obtain ⟨v0, vs0, d0, ds0, p0, q0, hargs, rfl, rfl, h0, r0⟩ := trodAll_cons hA
  obtain ⟨v1, vs1, d1, ds1, p1, q1, rfl, rfl, rfl, h1, r1⟩ := trodAll_cons r0
  obtain ⟨v2, vs2, d2, ds2, p2, q2, rfl, rfl, rfl, h2, r2⟩ := trodAll_cons r1
  obtain ⟨rfl, rfl, rfl⟩ := trodAll_nil r2
  obtain rfl : args = #[v0, v1, v2] := by cases args; simp_all
  obtain ⟨rfl, rfl⟩ := trodVars_none hV
  obtain ⟨a0, rfl, rfl, rfl, w0⟩ := open_int Try.underlying3 (hval 0 3 v0 rfl rfl) h0
  obtain ⟨a1, rfl, rfl, rfl, w1⟩ := open_int Try.underlying3 (hval 1 3 v1 rfl rfl) h1
  obtain ⟨ls, hls⟩ := open_rowsT (hval 2 45 v2 rfl rfl) h2
  clear hA0 hval0
  simp only [List.append_nil] at hW'
  refine (walk a0 a1 ls v2 W hls).mono fun e W' ⟨he, hg⟩ => ?_
  subst he
  exact ⟨_, rfl, law_post readable rfl rfl rfl hW' hg.toBelow⟩

theorem over : Rows.fnFixedIsAreaRow.holds Try.pinned (OpenSpec.ofChange Rows.fnFixedIsAreaSpec) :=
  OpenClaim.holds_of_wide 8 Try.f8 rfl rfl rfl rfl rfl rfl rfl ⟨rfl, rfl, rfl, rfl, rfl⟩ rfl rfl rfl rfl rfl (by kernel_rfl) Try.func8 (by kernel_rfl)
    (of_decide_eq_true (by kernel_rfl)) (by unfold Func.isWrapper; first | (rw [if_pos (by decide +kernel)]; kernel_rfl) | (rw [if_neg (by decide +kernel)]; exact ⟨rfl, rfl⟩))
    (fun os started H enc _ => lifted os started H enc)

/-- The statement. -/
theorem proved : Rows.FnFixedIsAreaSaid :=
  over
#print axioms proved
end Go.Proofs.Ytmgcbodlolnheaa.fnFixed
