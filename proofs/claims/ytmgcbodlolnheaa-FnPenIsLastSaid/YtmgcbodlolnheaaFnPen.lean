/-
  'laws.FnPenIsLast' returns true, and leaves its argument as it was, for every input. Conditions: none.
-/
import Derived.Test.YtmgcbodlolnheaaPenLaw
namespace Go.Proofs.Ytmgcbodlolnheaa.fnPen
open Go.ChangeShapes Go.WideShapes Go.ChangeAt Go.RowKit
set_option linter.unusedVariables false

theorem fits3_long (A : Option Addr) (n cap : Nat) (w : World) (h : (2147483647 : Int) < n) :
    Calls Try.prog 17 #[.slice A n cap] w fun e w' => e = .returned (.bool false) ∧ Same w w' := by
  go_enter Try.func17, Try.ntmps17
  go_wp2_with fail
  go_ret
  exact ⟨rfl, Kept.refl _ _⟩
theorem fits3_none (A : Option Addr) (cap : Nat) (w : World) :
    Calls Try.prog 17 #[.slice A 0 cap] w fun e w' => e = .returned (.bool true) ∧ Same w w' := by
  go_enter Try.func17, Try.ntmps17
  go_wp2_with fail
  go_loop [10] (fun i => i = .int .i64 0) (fun i => 0)
  case atStart => rfl
  case round =>
    subst hrel
    go_wp2_with fail
    go_ret
    exact ⟨rfl, Kept.refl _ _⟩
set_option maxHeartbeats 1000000 in
set_option maxRecDepth 100000 in
theorem pens_none (A : Option Addr) (cap : Nat) (w : World) :
    Calls Try.prog 19 #[.slice A 0 cap] w fun e w' => e = .returned (.slice none 0 0) ∧ Same w w' := by
  go_enter Try.func19, Try.ntmps19
  go_wp2_with fail
  refine (new_any 256 16 16 (by decide) (by decide) (by decide) w).mono ?_
  rintro e wn ⟨b, g, rfl, hb, hg, hf, hk⟩
  have HK := hid hk
  clear hk hf
  go_wp2_with fail
  go_loop [4, 12] (fun v i => v = .slice none 0 0 ∧ i = .int .i64 0) (fun _ i => 0)
  case atStart => exact ⟨rfl, rfl⟩
  case round =>
    obtain ⟨rfl, rfl⟩ := hrel
    go_wp2_with fail
    go_ret
    exact ⟨rfl, HK.out⟩
set_option maxHeartbeats 1000000 in
set_option maxRecDepth 100000 in
theorem walk_none (A : Option Addr) (cap : Nat) (w : World) :
    Calls Try.prog 4 #[.slice A 0 cap] w fun e w' => e = .returned (.bool true) ∧ Same w w' := by
  go_enter Try.func4, Try.ntmps4
  go_wp2_with fail
  refine (fits3_none A cap w).mono ?_
  rintro e w1 ⟨rfl, t⟩
  have T1 := hid t
  clear t
  go_wp2_with fail
  go_loop [3, 23] (fun v i => v = .slice none 0 0 ∧ i = .int .i64 0) (fun _ i => 0)
  case atStart => exact ⟨rfl, rfl⟩
  case round =>
    obtain ⟨rfl, rfl⟩ := hrel
    go_wp2_with fail
    refine (pens_none A cap _).mono ?_
    rintro e w5 ⟨rfl, t⟩
    have T5 := hid (((T1.out.alloc _).alloc _).trans t)
    clear t
    go_wp2_with fail
    go_loop [97] (fun i => i = .int .i64 0) (fun i => 0)
    case atStart => rfl
    case round =>
      subst hrel
      go_wp2_with fail
      go_ret
      exact ⟨rfl, T5.out⟩
set_option maxHeartbeats 1000000 in
set_option maxRecDepth 100000 in
theorem walk (ops : List (Int × List Int)) (v : Value) (w : World) (hp : OpsAt w w.heap.size v ops) :
    Calls Try.prog 4 #[v] w fun e w' => e = .returned (.bool true) ∧ Same w w' := by
  obtain ⟨A, cap, rfl, hl, ha⟩ := hp
  by_cases h0 : (2147483647 : Int) < ops.length
  · clear ha
    go_enter Try.func4, Try.ntmps4
    go_wp2_with fail
    refine (fits3_long A ops.length cap w h0).mono ?_
    rintro e w1 ⟨rfl, t⟩
    have T1 := hid t
    clear t
    go_wp2_with fail
    go_ret
    exact ⟨rfl, T1.out⟩
  have h0' : ops.length ≤ 2147483647 := by omega
  clear h0
  by_cases hz : ops.length = 0
  · rw [hz]
    exact walk_none A cap w
  obtain ⟨g, off, rfl, hc⟩ := ha (by omega)
  have HC := hid hc
  clear hc ha
  by_cases hfit : fitOps ops = true
  rotate_left
  · have HF := hid (Bool.eq_false_iff.2 hfit)
    clear hfit
    go_enter Try.func4, Try.ntmps4
    go_wp2_with fail
    refine (fits3_cons ops g off cap w (by omega) hl h0' HC.out).mono ?_
    rintro e w1 ⟨rfl, t⟩
    rw [HF.out]
    have T1 := hid t
    clear t
    go_wp2_with fail
    go_ret
    exact ⟨rfl, T1.out⟩
  by_cases h1000 : (1000 : Int) < ops.length
  · have HF := hid hfit
    clear hfit
    go_enter Try.func4, Try.ntmps4
    go_wp2_with fail
    refine (fits3_cons ops g off cap w (by omega) hl h0' HC.out).mono ?_
    rintro e w1 ⟨rfl, t⟩
    rw [HF.out]
    have T1 := hid t
    clear t
    go_wp2_with fail
    go_ret
    exact ⟨rfl, T1.out⟩
  exact walk_try ops g off cap w (by omega) (by omega) HC.out hfit (pens_valid ops)

theorem own : ownKnob Try.prog.godebug = none := by kernel_rfl
theorem readable : ∀ t ∈ Try.f4.params.toList, Try.prog.readableRec t = true ∧ t < Try.prog.types.size := by
  rw [Try.params4]
  intro t ht
  simp only [List.mem_cons, List.not_mem_nil, or_false] at ht
  rcases ht with rfl
  all_goals exact ⟨by kernel_rfl, of_decide_eq_true (by kernel_rfl)⟩

set_option maxRecDepth 100000 in
theorem lifted (os : Os) (started : os.Started) (H : Type) (enc : TypeId × Value → H) :
    ReturnsInHanded {} Try.checked os 4 .any (Rows.fnPenIsLastSpec.pre6 enc Try.prog Try.f4 Rows.fnPenIsLastRow.domain false) (Rows.fnPenIsLastSpec.post enc Try.prog Try.f4 false true false false) := by
  refine returnsInHanded_of_change (C := Try.checked) own started (by kernel_rfl) Try.func4
    (ChangeSpec.witness6 (enc := enc) (C := Try.checked) false ⟨#[], #[.slice none 0 0], []⟩ 8 (by kernel_rfl) (by kernel_rfl) (by kernel_rfl) (by kernel_rfl)) ?_
  intro W base args ds gs before hval0 hW hcnd _
  have hval : ∀ (j : Nat) t v, Try.f4.params[j]? = some t → args[j]? = some v → Value.okWide Try.prog W .any base t v := hval0
  have hW' := hW
  obtain ⟨p, q, hA0, hV, rfl, hfz, hnd⟩ := hW
  have hA : DataW.TrodAll enc Try.prog W 0 (fun _ => true) true Try.f4.params.toList args.toList ds p := hA0
  rw [Try.params4] at hA hval
  obtain ⟨v0, vs0, d0, ds0, p0, q0, hargs, rfl, rfl, h0, r0⟩ := trodAll_cons hA
  obtain ⟨rfl, rfl, rfl⟩ := trodAll_nil r0
  obtain rfl : args = #[v0] := by cases args; simp_all
  obtain ⟨rfl, rfl⟩ := trodVars_none hV
  obtain ⟨ops, hops⟩ := open_opsT (hval 0 25 v0 rfl rfl) h0
  clear hA0 hval0
  simp only [List.append_nil] at hW'
  refine (walk ops v0 W hops).mono fun e W' ⟨he, hg⟩ => ?_
  subst he
  exact ⟨_, rfl, law_post readable rfl rfl rfl hW' hg.toBelow⟩

theorem over : Rows.fnPenIsLastRow.holds Try.pinned (OpenSpec.ofChange Rows.fnPenIsLastSpec) :=
  OpenClaim.holds_of_wide 4 Try.f4 rfl rfl rfl rfl rfl rfl rfl ⟨rfl, rfl, rfl, rfl, rfl⟩ rfl rfl rfl rfl rfl (by kernel_rfl) Try.func4 (by kernel_rfl)
    (of_decide_eq_true (by kernel_rfl)) (by unfold Func.isWrapper; first | (rw [if_pos (by decide +kernel)]; kernel_rfl) | (rw [if_neg (by decide +kernel)]; exact ⟨rfl, rfl⟩))
    (fun os started H enc _ => lifted os started H enc)

/-- The statement. -/
theorem proved : Rows.FnPenIsLastSaid :=
  over
#print axioms proved
end Go.Proofs.Ytmgcbodlolnheaa.fnPen
