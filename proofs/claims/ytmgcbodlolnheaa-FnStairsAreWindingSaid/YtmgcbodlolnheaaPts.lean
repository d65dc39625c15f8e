/-
  Slices of points; 'laws.beyond', 'laws.within'.
-/
import Derived.Test.YtmgcbodlolnheaaMasks2
namespace Go.Proofs.Ytmgcbodlolnheaa
open Go.ChangeShapes Go.WideShapes Go.ChangeAt Go.RowKit
set_option linter.unusedVariables false

/-- Where a slice of points stands: at block g from cell off on, below block B. -/
def PtsCells (w : World) (B g off : Nat) (pts : List (Int × Int)) : Prop :=
  g < B ∧ ∀ j, (h : j < pts.length) → w.cell? ⟨g, off + j * 2, none⟩ = some (.int .i64 (pts[j]).1) ∧ w.cell? ⟨g, off + j * 2 + 1, none⟩ = some (.int .i64 (pts[j]).2)
def PtsAt (w : World) (B : Nat) (v : Value) (pts : List (Int × Int)) : Prop :=
  ∃ (A : Option Addr) (cap : Nat), v = .slice A pts.length cap ∧ pts.length ≤ 9223372036854775807 ∧ (0 < pts.length → ∃ g off, A = some ⟨g, off, none⟩ ∧ PtsCells w B g off pts)
theorem PtsCells.kept {S : Nat → Prop} {w w' : World} {B g off : Nat} {pts : List (Int × Int)} (h : PtsCells w B g off pts) (hk : Kept S w w') (hB : B ≤ w.heap.size) (hS : ∀ k, k < B → ¬ S k) : PtsCells w' B g off pts := by
  obtain ⟨h1, h2⟩ := h
  refine ⟨h1, fun j hj => ?_⟩
  obtain ⟨a, b⟩ := h2 j hj
  exact ⟨(hk.cell (p := ⟨g, off + j * 2, none⟩) (Nat.lt_of_lt_of_le h1 hB) (hS g h1)).trans a, (hk.cell (p := ⟨g, off + j * 2 + 1, none⟩) (Nat.lt_of_lt_of_le h1 hB) (hS g h1)).trans b⟩
theorem PtsAt.kept {S : Nat → Prop} {w w' : World} {B : Nat} {v : Value} {pts : List (Int × Int)} (h : PtsAt w B v pts) (hk : Kept S w w') (hB : B ≤ w.heap.size) (hS : ∀ k, k < B → ¬ S k) : PtsAt w' B v pts := by
  obtain ⟨A, cap, h1, h2, h3⟩ := h
  refine ⟨A, cap, h1, h2, fun hp => ?_⟩
  obtain ⟨g, off, a, b⟩ := h3 hp
  exact ⟨g, off, a, b.kept hk hB hS⟩
theorem PtsAt.mono {w : World} {B C : Nat} {v : Value} {pts : List (Int × Int)} (h : PtsAt w B v pts) (hB : B ≤ C) : PtsAt w C v pts := by
  obtain ⟨A, cap, h1, h2, h3⟩ := h
  refine ⟨A, cap, h1, h2, fun hp => ?_⟩
  obtain ⟨g, off, a, b, c⟩ := h3 hp
  exact ⟨g, off, a, Nat.lt_of_lt_of_le b hB, c⟩

/-- Farther from 0 than that? -/
def beyondB (x far : Int) : Bool := decide (x < -far ∨ far < x)
theorem beyond_any (x far : Int) (w : World) (h : 0 ≤ far) (h' : far ≤ 1000000000) :
    Calls Try.prog 18 #[.int .i64 x, .int .i64 far] w fun e w' => e = .returned (.bool (beyondB x far)) ∧ w = w' := by
  by_cases h1 : x < -far
  · have e : beyondB x far = true := by simp [beyondB, h1]
    rw [e]
    clear e
    go_enter Try.func18, Try.ntmps18
    go_wp2
    go_ret
    exact ⟨rfl, rfl⟩
  · by_cases h2 : far < x
    · have e : beyondB x far = true := by simp [beyondB, h2]
      rw [e]
      clear e
      go_enter Try.func18, Try.ntmps18
      go_wp2
      go_ret
      exact ⟨rfl, rfl⟩
    · have e : beyondB x far = false := by simp [beyondB, h1, h2]
      rw [e]
      clear e
      go_enter Try.func18, Try.ntmps18
      go_wp2
      go_ret
      exact ⟨rfl, rfl⟩
theorem beyond_is {x far : Int} {v : Bool} (w : World) (h : 0 ≤ far) (h' : far ≤ 1000000000) (hv : beyondB x far = v) :
    Calls Try.prog 18 #[.int .i64 x, .int .i64 far] w fun e w' => e = .returned (.bool v) ∧ w = w' := by
  have := beyond_any x far w h h'
  rwa [hv] at this
/-- At least three points and at most a thousand, none farther than that. -/
def withinB (pts : List (Int × Int)) (far : Int) : Bool := pts.all (fun p => !beyondB p.1 far && !beyondB p.2 far) && decide (3 ≤ pts.length ∧ pts.length ≤ 1000)
def nearB (pts : List (Int × Int)) (far : Int) : Bool := pts.all (fun p => !beyondB p.1 far && !beyondB p.2 far)
theorem nearB_take {pts : List (Int × Int)} {far : Int} {k : Nat} (h : k < pts.length) (a : nearB (pts.take k) far = true) (b : beyondB (pts[k]).1 far = false) (c : beyondB (pts[k]).2 far = false) : nearB (pts.take (k + 1)) far = true := by
  unfold nearB at *
  rw [List.take_succ_eq_append_getElem h, List.all_append, a]
  simp [b, c]
theorem within_far {pts : List (Int × Int)} {far : Int} {k : Nat} (h : k < pts.length) (b : beyondB (pts[k]).1 far = true ∨ beyondB (pts[k]).2 far = true) : withinB pts far = false := by
  unfold withinB
  rw [Bool.and_eq_false_iff]
  left
  rw [List.all_eq_false]
  exact ⟨pts[k], List.getElem_mem h, by rcases b with b | b <;> simp [b]⟩
theorem within_near {pts : List (Int × Int)} {far : Int} (h : nearB pts far = true) : withinB pts far = decide (3 ≤ pts.length ∧ pts.length ≤ 1000) := by
  unfold withinB
  unfold nearB at h
  rw [h, Bool.true_and]

set_option maxHeartbeats 1000000 in
set_option maxRecDepth 100000 in
theorem within_cons (pts : List (Int × Int)) (far : Int) (g off cap : Nat) (w : World) (h : 0 ≤ far) (h' : far ≤ 1000000000) (hpos : 0 < pts.length) (hlen : pts.length ≤ 9223372036854775807) (hp : PtsCells w w.heap.size g off pts) :
    Calls Try.prog 20 #[.slice (some ⟨g, off, none⟩) pts.length cap, .int .i64 far] w fun e w' => e = .returned (.bool (withinB pts far)) ∧ Same w w' := by
  have HP := hid hp
  clear hp
  go_enter Try.func20, Try.ntmps20
  go_wp2_with fail
  go_loopw [9] (fun i wr => ∃ k : Nat, k ≤ pts.length ∧ i = .int .i64 k ∧ nearB (pts.take k) far = true ∧ Same w wr) (fun i _ => pts.length - (intOf i).toNat)
  case atStart => exact ⟨0, Nat.zero_le _, rfl, rfl, Kept.refl _ _⟩
  case round =>
    obtain ⟨k, hk, rfl, hn, hs⟩ := hrel
    have HN := hid hn
    have HSM := hid hs
    clear hn
    by_cases hlt : k < pts.length
    · have hpc := HP.out.kept hs (Nat.le_refl _) (fun _ _ hf => hf)
      obtain ⟨c0, c1⟩ := hpc.2 k hlt
      have hg : g < wr.heap.size := Nat.lt_of_lt_of_le hpc.1 hs.size
      have hfar := within_far (far := far) hlt
      have hnear := fun a b => nearB_take (far := far) hlt HN.out a b
      generalize hx : (pts[k]).1 = x at c0 hfar hnear
      generalize hy : (pts[k]).2 = y at c1 hfar hnear
      have HFA := hid hfar
      have HNE := hid hnear
      clear hx hy hpc hs hfar hnear
      by_cases b1 : beyondB x far = true
      · have HF := hid (HFA.out (.inl b1))
        have B1 := hid b1
        clear b1
        go_wp2_with fail
        refine (beyond_is _ h h' B1.out).mono ?_
        rintro e w' ⟨rfl, rfl⟩
        go_wp2_with fail

        go_ret
        exact ⟨by rw [HF.out]; rfl, HSM.out.alloc _⟩
      · have b1' : beyondB x far = false := by simpa using b1
        clear b1
        by_cases b2 : beyondB y far = true
        · have HF := hid (HFA.out (.inr b2))
          go_wp2_with (go_at_call 18; refine (beyond_any _ _ _ h h').mono ?_; rintro e w' ⟨rfl, rfl⟩)
          go_ret
          exact ⟨by rw [HF.out]; rfl, HSM.out.alloc _⟩
        · have b2' : beyondB y far = false := by simpa using b2
          have HN2 := hid (HNE.out b1' b2')
          have B1 := hid b1'
          have B2 := hid b2'
          clear b2 b1' b2'
          go_wp2_with fail
          refine (beyond_is _ h h' B1.out).mono ?_
          rintro e w' ⟨rfl, rfl⟩
          go_wp2_with fail
          refine (beyond_is _ h h' B2.out).mono ?_
          rintro e w' ⟨rfl, rfl⟩
          go_wp2_with fail
          go_roundw
          case measure => simp [intOf]; omega
          case rel => exact ⟨k + 1, by omega, by go_num, HN2.out, HSM.out.alloc _⟩
    · obtain rfl : k = pts.length := by omega
      have e := within_near (by simpa using HN.out : nearB pts far = true)
      have HE := hid e
      clear e hs
      by_cases l1 : 3 ≤ pts.length
      · go_wp2_with fail
        go_ret
        exact ⟨by rw [HE.out]; simp [l1] <;> omega, HSM.out⟩
      · go_wp2_with fail
        go_ret
        exact ⟨by rw [HE.out]; simp [l1] <;> omega, HSM.out⟩
set_option maxRecDepth 100000 in
theorem within_nil (far : Int) (A : Option Addr) (cap : Nat) (w : World) :
    Calls Try.prog 20 #[.slice A 0 cap, .int .i64 far] w fun e w' => e = .returned (.bool false) ∧ Same w w' := by
  go_enter Try.func20, Try.ntmps20
  go_wp2_with fail
  go_loopw [9] (fun i wr => i = .int .i64 0 ∧ Same w wr) (fun i _ => 0)
  case atStart => exact ⟨rfl, Kept.refl _ _⟩
  case round =>
    obtain ⟨rfl, hs⟩ := hrel
    have HSM := hid hs
    clear hs
    go_wp2_with fail
    go_ret
    exact ⟨rfl, HSM.out⟩
theorem within_any (pts : List (Int × Int)) (far : Int) (v : Value) (w : World) (h : 0 ≤ far) (h' : far ≤ 1000000000) (hp : PtsAt w w.heap.size v pts) :
    Calls Try.prog 20 #[v, .int .i64 far] w fun e w' => e = .returned (.bool (withinB pts far)) ∧ Same w w' := by
  obtain ⟨A, cap, rfl, hl, ha⟩ := hp
  cases pts with
  | nil => exact within_nil far A cap w
  | cons a t =>
    obtain ⟨g, off, rfl, hc⟩ := ha (by simp)
    exact within_cons (a :: t) far g off cap w h h' (by simp) hl hc
theorem withinB_iff {pts : List (Int × Int)} {far : Int} : withinB pts far = true ↔ (∀ p ∈ pts, (-far ≤ p.1 ∧ p.1 ≤ far) ∧ (-far ≤ p.2 ∧ p.2 ≤ far)) ∧ 3 ≤ pts.length ∧ pts.length ≤ 1000 := by
  unfold withinB
  rw [Bool.and_eq_true, List.all_eq_true]
  simp only [decide_eq_true_eq, Bool.and_eq_true, beyondB, Bool.not_eq_true', decide_eq_false_iff_not, not_or, Int.not_lt]
end Go.Proofs.Ytmgcbodlolnheaa
