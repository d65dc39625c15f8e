/-
  'laws.FnSizes' returns true, and leaves its arguments as they were, for every input. Conditions: none.
-/
import Derived.Test.YtmgcbodlolnheaaSizes
import Derived.Test.YtmgcbodlolnheaaLaw
namespace Go.Proofs.Ytmgcbodlolnheaa.fnSizes
open Go.ChangeShapes Go.WideShapes Go.ChangeAt Go.RowKit
set_option linter.unusedVariables false

theorem own : ownKnob Try.prog.godebug = none := by kernel_rfl

set_option maxRecDepth 100000 in
theorem walk (W H : Int) (w0 : (Lit.int .i64 W).wf = true) (w1 : (Lit.int .i64 H).wf = true) (w : World) :
    Calls Try.prog 3 #[.int .i64 W, .int .i64 H] w fun e w' => e = .returned (.bool true) ∧ Below w.heap.size w w' := by
  by_cases hs : sizedB W H = true
  · have h := sizedB_iff.1 hs
    have hp := mul_pos_le h.1 h.2.2.1
    go_enter Try.func3, Try.ntmps3
    go_wp2_with fail
    refine (sized_any W H w).mono ?_
    rintro e w' ⟨rfl, rfl⟩
    rw [hs]
    clear hs
    go_wp2_with fail
    refine (sizes_any (W * H).toNat W H (by omega) (by omega) (by omega) w).mono ?_
    rintro e w' ⟨rfl, hb⟩
    go_wp2
    go_ret
    exact ⟨rfl, hb⟩
  · have hs' : sizedB W H = false := by simpa using hs
    go_enter Try.func3, Try.ntmps3
    go_wp2_with fail
    refine (sized_any W H w).mono ?_
    rintro e w' ⟨rfl, rfl⟩
    rw [hs']
    go_wp2
    go_ret
    exact ⟨rfl, Below.refl _ _⟩

theorem readable : ∀ t ∈ Try.f3.params.toList, Try.prog.readableRec t = true ∧ t < Try.prog.types.size := by
  rw [Try.params3]
  intro t ht
  simp only [List.mem_cons, List.not_mem_nil, or_false] at ht
  rcases ht with rfl | rfl
  all_goals exact ⟨by kernel_rfl, of_decide_eq_true (by kernel_rfl)⟩

set_option maxRecDepth 100000 in
theorem lifted (os : Os) (started : os.Started) (H : Type) (enc : TypeId × Value → H) :
    ReturnsInHanded {} Try.checked os 3 .any (Rows.fnSizesSpec.pre6 enc Try.prog Try.f3 Rows.fnSizesRow.domain false) (Rows.fnSizesSpec.post enc Try.prog Try.f3 false true false false) := by
  refine returnsInHanded_of_change (C := Try.checked) own started (by kernel_rfl) Try.func3
    (ChangeSpec.witness6 (enc := enc) (C := Try.checked) false ⟨#[], #[.int .i64 0, .int .i64 0], []⟩ 8 (by kernel_rfl) (by kernel_rfl) (by kernel_rfl) (by kernel_rfl)) ?_
  intro W base args ds gs before hval0 hW hcnd _
  have hval : ∀ (j : Nat) t v, Try.f3.params[j]? = some t → args[j]? = some v → Value.okWide Try.prog W .any base t v := hval0
  have hW' := hW
  obtain ⟨p, q, hA0, hV, rfl, hfz, hnd⟩ := hW
  have hA : DataW.TrodAll enc Try.prog W 0 (fun _ => true) true Try.f3.params.toList args.toList ds p := hA0
  rw [Try.params3] at hA hval
  obtain ⟨v0, vs0, d0, ds0, p0, q0, hargs, rfl, rfl, h0, r0⟩ := trodAll_cons hA
  obtain ⟨v1, vs1, d1, ds1, p1, q1, rfl, rfl, rfl, h1, r1⟩ := trodAll_cons r0
  obtain ⟨rfl, rfl, rfl⟩ := trodAll_nil r1
  obtain rfl : args = #[v0, v1] := by cases args; simp_all
  obtain ⟨rfl, rfl⟩ := trodVars_none hV
  obtain ⟨a0, rfl, rfl, rfl, w0⟩ := open_int Try.underlying3 (hval 0 3 v0 rfl rfl) h0
  obtain ⟨a1, rfl, rfl, rfl, w1⟩ := open_int Try.underlying3 (hval 1 3 v1 rfl rfl) h1
  clear hA0 hval0
  simp only [List.append_nil] at hW'
  refine (walk a0 a1 w0 w1 W).mono fun e W' ⟨he, hg⟩ => ?_
  subst he
  exact ⟨_, rfl, law_post readable rfl rfl rfl hW' hg⟩

theorem over : Rows.fnSizesRow.holds Try.pinned (OpenSpec.ofChange Rows.fnSizesSpec) :=
  OpenClaim.holds_of_wide 3 Try.f3 rfl rfl rfl rfl rfl rfl rfl ⟨rfl, rfl, rfl, rfl, rfl⟩ rfl rfl rfl rfl rfl (by kernel_rfl) Try.func3 (by kernel_rfl)
    (of_decide_eq_true (by kernel_rfl)) (by unfold Func.isWrapper; first | (rw [if_pos (by decide +kernel)]; kernel_rfl) | (rw [if_neg (by decide +kernel)]; exact ⟨rfl, rfl⟩))
    (fun os started H enc _ => lifted os started H enc)

/-- The statement. -/
theorem proved : Rows.FnSizesSaid :=
  over
#print axioms proved
end Go.Proofs.Ytmgcbodlolnheaa.fnSizes
