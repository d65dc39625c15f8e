/-
  'laws.FnSizes' returns true for every input (no condition).
  Slices of points; 'laws.beyond', 'laws.within'.
  'laws.path': the calls that make a closed path.
  Arguments opened: slices of points, of ints, of calls, of slices.
  The last step of every law's row: the call returned true and turned nothing that was there.
  'bytes.Equal' of two equal masks; rows of points of the law's own.
-/
import Derived.Test.YtmgcbodlolnheaaZNew
import Derived.Test.YtmgcbodlolnheaaZMasks2
import Derived.Deep.Slices
import Derived.Test.YtmgcbodlolnheaaZBase
import Derived.Laws.BytesArg
namespace Go.Proofs.Ytmgcbodlolnheaa
open Go.ChangeShapes Go.WideShapes Go.ChangeAt Go.RowKit

/-- Is it a size of which the statements speak? -/
def sizedB (W H : Int) : Bool := decide (1 ≤ W ∧ W ≤ 2000 ∧ 1 ≤ H ∧ H ≤ 2000 ∧ W * H ≤ 65536)
theorem sizedB_iff {W H : Int} : sizedB W H = true ↔ (1 ≤ W ∧ W ≤ 2000 ∧ 1 ≤ H ∧ H ≤ 2000 ∧ W * H ≤ 65536) := by simp [sizedB]
theorem mul_le_big {W H : Int} (a : 0 ≤ W) (a' : W ≤ 2000) (b : 0 ≤ H) (b' : H ≤ 2000) : 0 ≤ W * H ∧ W * H ≤ 4000000 :=
  ⟨Int.mul_nonneg a b, by have := Int.mul_le_mul a' b' b (by omega); omega⟩

theorem sized_any (W H : Int) (w : World) :
    Calls Try.prog 15 #[.int .i64 W, .int .i64 H] w fun e w' => e = .returned (.bool (sizedB W H)) ∧ w = w' := by
  by_cases h0 : 1 ≤ W
  · by_cases h1 : W ≤ 2000
    · by_cases h2 : 1 ≤ H
      · by_cases h3 : H ≤ 2000
        · have hm := mul_le_big (W := W) (H := H) (by omega) h1 (by omega) h3
          obtain ⟨hm0, hm1⟩ := hm
          have e : sizedB W H = decide (W * H ≤ 65536) := by simp [sizedB, h0, h1, h2, h3]
          rw [e]
          clear e
          go_enter Try.func15, Try.ntmps15
          go_wp2
          go_ret
          exact ⟨rfl, rfl⟩
        · have e : sizedB W H = false := by simp [sizedB, h3]
          have g : decide (H ≤ 2000) = false := by simpa using h3
          rw [e]
          clear e
          go_enter Try.func15, Try.ntmps15
          go_wp2
          go_ret
          exact ⟨rfl, rfl⟩
      · have e : sizedB W H = false := by simp [sizedB, h2]
        have g : decide (1 ≤ H) = false := by simpa using h2
        rw [e]
        clear e
        go_enter Try.func15, Try.ntmps15
        go_wp2
        go_ret
        exact ⟨rfl, rfl⟩
    · have e : sizedB W H = false := by simp [sizedB, h1]
      have g : decide (W ≤ 2000) = false := by simpa using h1
      rw [e]
      clear e
      go_enter Try.func15, Try.ntmps15
      go_wp2
      go_ret
      exact ⟨rfl, rfl⟩
  · have e : sizedB W H = false := by simp [sizedB, h0]
    have g : decide (1 ≤ W) = false := by simpa using h0
    rw [e]
    clear e
    go_enter Try.func15, Try.ntmps15
    go_wp2
    go_ret
    exact ⟨rfl, rfl⟩

end Go.Proofs.Ytmgcbodlolnheaa

namespace Go.Proofs.Ytmgcbodlolnheaa
open Go.ChangeShapes Go.WideShapes Go.ChangeAt Go.RowKit
set_option linter.unusedVariables false

/-- Where a slice of points stands: at block g from cell off on, below block B. -/
def PtsCells (w : World) (B g off : Nat) (pts : List (Int × Int)) : Prop :=
  g < B ∧ ∀ j, (h : j < pts.length) → w.cell? ⟨g, off + j * 2, none⟩ = some (.int .i64 (pts[j]).1) ∧ w.cell? ⟨g, off + j * 2 + 1, none⟩ = some (.int .i64 (pts[j]).2)
def PtsAt (w : World) (B : Nat) (v : Value) (pts : List (Int × Int)) : Prop :=
  ∃ (A : Option Addr) (cap : Nat), v = .slice A pts.length cap ∧ pts.length ≤ 9223372036854775807 ∧ (0 < pts.length → ∃ g off, A = some ⟨g, off, none⟩ ∧ PtsCells w B g off pts)
theorem PtsCells.kept {S : Nat → Prop} {w w' : World} {B g off : Nat} {pts : List (Int × Int)} (h : PtsCells w B g off pts) (hk : Kept S w w') (hB : B ≤ w.heap.size) (hS : ∀ k, k < B → ¬ S k) : PtsCells w' B g off pts := by
  obtain ⟨h1, h2⟩ := h
  refine ⟨h1, fun j hj => ?_⟩
  obtain ⟨a, b⟩ := h2 j hj
  exact ⟨(hk.cell (p := ⟨g, off + j * 2, none⟩) (Nat.lt_of_lt_of_le h1 hB) (hS g h1)).trans a, (hk.cell (p := ⟨g, off + j * 2 + 1, none⟩) (Nat.lt_of_lt_of_le h1 hB) (hS g h1)).trans b⟩
theorem PtsAt.kept {S : Nat → Prop} {w w' : World} {B : Nat} {v : Value} {pts : List (Int × Int)} (h : PtsAt w B v pts) (hk : Kept S w w') (hB : B ≤ w.heap.size) (hS : ∀ k, k < B → ¬ S k) : PtsAt w' B v pts := by
  obtain ⟨A, cap, h1, h2, h3⟩ := h
  refine ⟨A, cap, h1, h2, fun hp => ?_⟩
  obtain ⟨g, off, a, b⟩ := h3 hp
  exact ⟨g, off, a, b.kept hk hB hS⟩
theorem PtsAt.mono {w : World} {B C : Nat} {v : Value} {pts : List (Int × Int)} (h : PtsAt w B v pts) (hB : B ≤ C) : PtsAt w C v pts := by
  obtain ⟨A, cap, h1, h2, h3⟩ := h
  refine ⟨A, cap, h1, h2, fun hp => ?_⟩
  obtain ⟨g, off, a, b, c⟩ := h3 hp
  exact ⟨g, off, a, Nat.lt_of_lt_of_le b hB, c⟩

/-- Farther from 0 than that? -/
def beyondB (x far : Int) : Bool := decide (x < -far ∨ far < x)
theorem beyond_any (x far : Int) (w : World) (h : 0 ≤ far) (h' : far ≤ 1000000000) :
    Calls Try.prog 18 #[.int .i64 x, .int .i64 far] w fun e w' => e = .returned (.bool (beyondB x far)) ∧ w = w' := by
  by_cases h1 : x < -far
  · have e : beyondB x far = true := by simp [beyondB, h1]
    rw [e]
    clear e
    go_enter Try.func18, Try.ntmps18
    go_wp2
    go_ret
    exact ⟨rfl, rfl⟩
  · by_cases h2 : far < x
    · have e : beyondB x far = true := by simp [beyondB, h2]
      rw [e]
      clear e
      go_enter Try.func18, Try.ntmps18
      go_wp2
      go_ret
      exact ⟨rfl, rfl⟩
    · have e : beyondB x far = false := by simp [beyondB, h1, h2]
      rw [e]
      clear e
      go_enter Try.func18, Try.ntmps18
      go_wp2
      go_ret
      exact ⟨rfl, rfl⟩
theorem beyond_is {x far : Int} {v : Bool} (w : World) (h : 0 ≤ far) (h' : far ≤ 1000000000) (hv : beyondB x far = v) :
    Calls Try.prog 18 #[.int .i64 x, .int .i64 far] w fun e w' => e = .returned (.bool v) ∧ w = w' := by
  have := beyond_any x far w h h'
  rwa [hv] at this
/-- At least three points and at most a thousand, none farther than that. -/
def withinB (pts : List (Int × Int)) (far : Int) : Bool := pts.all (fun p => !beyondB p.1 far && !beyondB p.2 far) && decide (3 ≤ pts.length ∧ pts.length ≤ 1000)
def nearB (pts : List (Int × Int)) (far : Int) : Bool := pts.all (fun p => !beyondB p.1 far && !beyondB p.2 far)
theorem nearB_take {pts : List (Int × Int)} {far : Int} {k : Nat} (h : k < pts.length) (a : nearB (pts.take k) far = true) (b : beyondB (pts[k]).1 far = false) (c : beyondB (pts[k]).2 far = false) : nearB (pts.take (k + 1)) far = true := by
  unfold nearB at *
  rw [List.take_succ_eq_append_getElem h, List.all_append, a]
  simp [b, c]
theorem within_far {pts : List (Int × Int)} {far : Int} {k : Nat} (h : k < pts.length) (b : beyondB (pts[k]).1 far = true ∨ beyondB (pts[k]).2 far = true) : withinB pts far = false := by
  unfold withinB
  rw [Bool.and_eq_false_iff]
  left
  rw [List.all_eq_false]
  exact ⟨pts[k], List.getElem_mem h, by rcases b with b | b <;> simp [b]⟩
theorem within_near {pts : List (Int × Int)} {far : Int} (h : nearB pts far = true) : withinB pts far = decide (3 ≤ pts.length ∧ pts.length ≤ 1000) := by
  unfold withinB
  unfold nearB at h
  rw [h, Bool.true_and]

set_option maxHeartbeats 1000000 in
set_option maxRecDepth 100000 in
theorem within_cons (pts : List (Int × Int)) (far : Int) (g off cap : Nat) (w : World) (h : 0 ≤ far) (h' : far ≤ 1000000000) (hpos : 0 < pts.length) (hlen : pts.length ≤ 9223372036854775807) (hp : PtsCells w w.heap.size g off pts) :
    Calls Try.prog 20 #[.slice (some ⟨g, off, none⟩) pts.length cap, .int .i64 far] w fun e w' => e = .returned (.bool (withinB pts far)) ∧ Same w w' := by
  have HP := hid hp
  clear hp
  go_enter Try.func20, Try.ntmps20
  go_wp2_with fail
  go_loopw [9] (fun i wr => ∃ k : Nat, k ≤ pts.length ∧ i = .int .i64 k ∧ nearB (pts.take k) far = true ∧ Same w wr) (fun i _ => pts.length - (intOf i).toNat)
  case atStart => exact ⟨0, Nat.zero_le _, rfl, rfl, Kept.refl _ _⟩
  case round =>
    obtain ⟨k, hk, rfl, hn, hs⟩ := hrel
    have HN := hid hn
    have HSM := hid hs
    clear hn
    by_cases hlt : k < pts.length
    · have hpc := HP.out.kept hs (Nat.le_refl _) (fun _ _ hf => hf)
      obtain ⟨c0, c1⟩ := hpc.2 k hlt
      have hg : g < wr.heap.size := Nat.lt_of_lt_of_le hpc.1 hs.size
      have hfar := within_far (far := far) hlt
      have hnear := fun a b => nearB_take (far := far) hlt HN.out a b
      generalize hx : (pts[k]).1 = x at c0 hfar hnear
      generalize hy : (pts[k]).2 = y at c1 hfar hnear
      have HFA := hid hfar
      have HNE := hid hnear
      clear hx hy hpc hs hfar hnear
      by_cases b1 : beyondB x far = true
      · have HF := hid (HFA.out (.inl b1))
        have B1 := hid b1
        clear b1
        go_wp2_with fail
        refine (beyond_is _ h h' B1.out).mono ?_
        rintro e w' ⟨rfl, rfl⟩
        go_wp2_with fail

        go_ret
        exact ⟨by rw [HF.out]; rfl, HSM.out.alloc _⟩
      · have b1' : beyondB x far = false := by simpa using b1
        clear b1
        by_cases b2 : beyondB y far = true
        · have HF := hid (HFA.out (.inr b2))
          go_wp2_with (go_at_call 18; refine (beyond_any _ _ _ h h').mono ?_; rintro e w' ⟨rfl, rfl⟩)
          go_ret
          exact ⟨by rw [HF.out]; rfl, HSM.out.alloc _⟩
        · have b2' : beyondB y far = false := by simpa using b2
          have HN2 := hid (HNE.out b1' b2')
          have B1 := hid b1'
          have B2 := hid b2'
          clear b2 b1' b2'
          go_wp2_with fail
          refine (beyond_is _ h h' B1.out).mono ?_
          rintro e w' ⟨rfl, rfl⟩
          go_wp2_with fail
          refine (beyond_is _ h h' B2.out).mono ?_
          rintro e w' ⟨rfl, rfl⟩
          go_wp2_with fail
          go_roundw
          case measure => simp [intOf]; omega
          case rel => exact ⟨k + 1, by omega, by go_num, HN2.out, HSM.out.alloc _⟩
    · obtain rfl : k = pts.length := by omega
      have e := within_near (by simpa using HN.out : nearB pts far = true)
      have HE := hid e
      clear e hs
      by_cases l1 : 3 ≤ pts.length
      · go_wp2_with fail
        go_ret
        exact ⟨by rw [HE.out]; simp [l1] <;> omega, HSM.out⟩
      · go_wp2_with fail
        go_ret
        exact ⟨by rw [HE.out]; simp [l1] <;> omega, HSM.out⟩
set_option maxRecDepth 100000 in
theorem within_nil (far : Int) (A : Option Addr) (cap : Nat) (w : World) :
    Calls Try.prog 20 #[.slice A 0 cap, .int .i64 far] w fun e w' => e = .returned (.bool false) ∧ Same w w' := by
  go_enter Try.func20, Try.ntmps20
  go_wp2_with fail
  go_loopw [9] (fun i wr => i = .int .i64 0 ∧ Same w wr) (fun i _ => 0)
  case atStart => exact ⟨rfl, Kept.refl _ _⟩
  case round =>
    obtain ⟨rfl, hs⟩ := hrel
    have HSM := hid hs
    clear hs
    go_wp2_with fail
    go_ret
    exact ⟨rfl, HSM.out⟩
theorem within_any (pts : List (Int × Int)) (far : Int) (v : Value) (w : World) (h : 0 ≤ far) (h' : far ≤ 1000000000) (hp : PtsAt w w.heap.size v pts) :
    Calls Try.prog 20 #[v, .int .i64 far] w fun e w' => e = .returned (.bool (withinB pts far)) ∧ Same w w' := by
  obtain ⟨A, cap, rfl, hl, ha⟩ := hp
  cases pts with
  | nil => exact within_nil far A cap w
  | cons a t =>
    obtain ⟨g, off, rfl, hc⟩ := ha (by simp)
    exact within_cons (a :: t) far g off cap w h h' (by simp) hl hc
theorem withinB_iff {pts : List (Int × Int)} {far : Int} : withinB pts far = true ↔ (∀ p ∈ pts, (-far ≤ p.1 ∧ p.1 ≤ far) ∧ (-far ≤ p.2 ∧ p.2 ≤ far)) ∧ 3 ≤ pts.length ∧ pts.length ≤ 1000 := by
  unfold withinB
  rw [Bool.and_eq_true, List.all_eq_true]
  simp only [decide_eq_true_eq, Bool.and_eq_true, beyondB, Bool.not_eq_true', decide_eq_false_iff_not, not_or, Int.not_lt]
end Go.Proofs.Ytmgcbodlolnheaa

namespace Go.Proofs.Ytmgcbodlolnheaa
open Go.ChangeShapes Go.WideShapes Go.ChangeAt Go.RowKit
set_option linter.unusedVariables false

theorem info31 : (Try.prog.info? 31).map (fun i => (i.zero, i.size, i.bytes)) = some (some (.agg #[.int .i64 0, .slice none 0 0]), 2, 32) := by kernel_rfl

/-- A slice of ints of its own, in a block from D on; nil where it is empty. -/
def IntsOwn (w : World) (D : Nat) (v : Value) (ps : List Int) : Prop :=
  (ps = [] ∧ v = .slice none 0 0) ∨ ∃ g, D ≤ g ∧ ps.length ≤ 1000 ∧ v = .slice (some ⟨g, 0, none⟩) ps.length ps.length ∧ Blk w g 3 (ps.map (Value.int .i64)).toArray
/-- Cells of calls. -/
def OpsOwn (w : World) (D : Nat) : List (Int × List Int) → List Value → Prop
  | [], [] => True
  | o :: t, a :: b :: r => a = .int .i64 o.1 ∧ IntsOwn w D b o.2 ∧ OpsOwn w D t r
  | _, _ => False
theorem IntsOwn.to {w w' : World} {D : Nat} {v : Value} {ps : List Int} (h : IntsOwn w D v ps) (hk : ∀ g cs, D ≤ g → Blk w g 3 cs → Blk w' g 3 cs) : IntsOwn w' D v ps := by
  rcases h with h | ⟨g, h1, h2, h3, h4⟩
  · exact .inl h
  · exact .inr ⟨g, h1, h2, h3, hk g _ h1 h4⟩
theorem OpsOwn.to {w w' : World} {D : Nat} (hk : ∀ g cs, D ≤ g → Blk w g 3 cs → Blk w' g 3 cs) : ∀ {ops : List (Int × List Int)} {xs : List Value}, OpsOwn w D ops xs → OpsOwn w' D ops xs
  | [], [], _ => trivial
  | o :: t, [], h => h.elim
  | o :: t, [a], h => h.elim
  | o :: t, a :: b :: r, h => ⟨h.1, h.2.1.to hk, OpsOwn.to hk h.2.2⟩
  | [], a :: r, h => h.elim
theorem OpsOwn.snoc {w : World} {D : Nat} {o : Int × List Int} {b : Value} (hb : IntsOwn w D b o.2) : ∀ {ops : List (Int × List Int)} {xs : List Value}, OpsOwn w D ops xs → OpsOwn w D (ops ++ [o]) (xs ++ [.int .i64 o.1, b])
  | [], [], _ => ⟨rfl, hb, trivial⟩
  | o' :: t, [], h => h.elim
  | o' :: t, [a], h => h.elim
  | o' :: t, a :: c :: r, h => ⟨h.1, h.2.1, OpsOwn.snoc hb h.2.2⟩
  | [], a :: r, h => h.elim
theorem OpsOwn.at {w : World} {D : Nat} : ∀ {ops : List (Int × List Int)} {xs : List Value}, OpsOwn w D ops xs → ∀ j, (h : j < ops.length) → ∃ b, xs[j * 2]? = some (.int .i64 (ops[j]).1) ∧ xs[j * 2 + 1]? = some b ∧ IntsOwn w D b (ops[j]).2
  | [], _, _, j, h => by simp at h
  | o :: t, [], h, _, _ => h.elim
  | o :: t, [a], h, _, _ => h.elim
  | o :: t, a :: b :: r, h, 0, _ => ⟨b, by simp [h.1], by simp, h.2.1⟩
  | o :: t, a :: b :: r, h, j + 1, hj => by
    obtain ⟨c, h1, h2, h3⟩ := OpsOwn.at h.2.2 j (by simpa using hj)
    have e1 : (j + 1) * 2 = j * 2 + 1 + 1 := by omega
    refine ⟨c, ?_, ?_, by simpa using h3⟩
    · rw [e1]; simpa using h1
    · rw [e1]; simpa using h2
theorem IntsOwn.ints {w : World} {D B : Nat} {v : Value} {ps : List Int} (h : IntsOwn w D v ps) (hB : w.heap.size ≤ B) : IntsAt w B v ps := by
  rcases h with ⟨rfl, rfl⟩ | ⟨g, h1, h2, rfl, h4⟩
  · exact ⟨none, 0, rfl, by simp, fun h => by simp at h⟩
  · refine ⟨_, _, rfl, by omega, fun _ => ⟨g, 0, rfl, Nat.lt_of_lt_of_le h4.lt hB, fun j p hj => ?_⟩⟩
    rw [h4.cell]
    simp [hj]
/-- An owned row of calls is a slice of calls. -/
theorem opsAt_own {w : World} {D D' n : Nat} {v : Value} {xs : List Value} {ops : List (Int × List Int)} (hn : ops.length = n) (hlen : n ≤ 9223372036854775807) (h : w.ownsRow D 31 2 v n xs) (ho : OpsOwn w D' ops xs) : OpsAt w w.heap.size v ops := by
  rcases h.2 with ⟨rfl, rfl⟩ | ⟨g, cap, cur, rfl, hg, hb, hnc, hcm, hcs, htake⟩
  · exact ⟨none, 0, by rw [hn], by omega, fun hp => by omega⟩
  · refine ⟨_, cap, by rw [hn], by omega, fun hp => ⟨g, 0, rfl, ?_, fun j hj => ?_⟩⟩
    · exact (show Blk w g 31 cur from hb).lt
    · obtain ⟨b, h1, h2, h3⟩ := ho.at j hj
      have hc := h.cellAt (g := g) (cap := cap)
      refine ⟨b, ?_, ?_, h3.ints (Nat.le_refl _)⟩
      · rw [Nat.zero_add, hc (j * 2) (by omega), h1]
      · rw [Nat.zero_add, hc (j * 2 + 1) (by omega), h2]

/-- The calls that make a closed path through points. -/
def lineOps (pts : List (Int × Int)) : List (Int × List Int) := pts.zipIdx.map fun p => (if p.2 = 0 then 0 else 1, [p.1.1, p.1.2])
def pathOps (pts : List (Int × Int)) : List (Int × List Int) := lineOps pts ++ [(4, [])]
theorem length_lineOps (pts : List (Int × Int)) : (lineOps pts).length = pts.length := by simp [lineOps]
theorem lineOps_snoc {pts : List (Int × Int)} {k : Nat} (h : k < pts.length) : lineOps (pts.take (k + 1)) = lineOps (pts.take k) ++ [(if k = 0 then 0 else 1, [(pts[k]).1, (pts[k]).2])] := by
  unfold lineOps
  rw [List.take_succ_eq_append_getElem h, List.zipIdx_append, List.map_append]
  simp [Nat.min_eq_left (Nat.le_of_lt h)]

/-- What holds of the calls made so far. -/
def PathS (w : World) (ops : List (Int × List Int)) (v : Value) (wr : World) : Prop :=
  ∃ xs, wr.ownsRow w.heap.size 31 2 v ops.length xs ∧ OpsOwn wr w.heap.size ops xs ∧ Same w wr

theorem own_keeps {w w' : World} {D n : Nat} {v : Value} {xs : List Value} (h : w.ownsRow D 31 2 v n xs) (hg : w.grownBy w' v.ownBlock) : ∀ g cs, Blk w g 3 cs → Blk w' g 3 cs := by
  intro g cs hb
  refine (hg.block g hb.lt fun he => ?_).trans hb
  rcases h.2 with ⟨rfl, _⟩ | ⟨g', cap, cur, rfl, _, hb', _⟩
  · simp [Value.ownBlock] at he
  · simp only [Value.ownBlock, Option.some.injEq] at he
    subst he
    exact absurd (hb.eq_ (show Blk w g 31 cur from hb')).1 (by decide)
theorem own_same {w w' : World} {D n : Nat} {v : Value} {xs : List Value} {w0 : World} (h : w.ownsRow D 31 2 v n xs) (hD : w0.heap.size ≤ D) (hs : Same w0 w) (hg : w.grownBy w' v.ownBlock) : Same w0 w' :=
  hs.grown hg fun k hk => .inl (Nat.le_trans hD (h.lt k hk).1)
/-- One call more. -/
theorem PathS.next {w wr w1 : World} {ops : List (Int × List Int)} {v v' : Value} {xs : List Value} {o : Int × List Int} {b : Value} (q1 : wr.ownsRow w.heap.size 31 2 v ops.length xs) (q2 : OpsOwn wr w.heap.size ops xs) (q3 : Same w wr)
    (hown : w1.ownsRow w.heap.size 31 2 v' (ops.length + 1) (xs ++ [.int .i64 o.1, b])) (hg : wr.grownBy w1 v.ownBlock) (hb : IntsOwn wr w.heap.size b o.2) : PathS w (ops ++ [o]) v' w1 := by
  have hk := own_keeps q1 hg
  refine ⟨_, by simpa using hown, (q2.to fun g cs _ => hk g cs).snoc (hb.to fun g cs _ => hk g cs), own_same q1 (Nat.le_refl _) q3 hg⟩

theorem cells_new1 {w : World} (t : TypeId) (a b : Value) : ∀ (j : Nat) (u : Value), [a, b][j]? = some u → (w.alloc (.cells #[a, b] t)).cell? ((⟨w.heap.size, 0, none⟩ : Addr).add j) = some u := by
  intro j u hu
  have hb := Blk.new w t #[a, b]
  have e : (⟨w.heap.size, 0, none⟩ : Addr).add j = ⟨w.heap.size, j, none⟩ := by unfold Addr.add; split <;> simp_all
  rw [e, hb.cell]
  simpa using hu
theorem cells_new3 {w : World} (o o' : Obj) (t : TypeId) (a b : Value) : ∀ (j : Nat) (u : Value), [a, b][j]? = some u → (((w.alloc o).alloc o').alloc (.cells #[a, b] t)).cell? ((⟨w.heap.size + 2, 0, none⟩ : Addr).add j) = some u := by
  have h := cells_new1 (w := (w.alloc o).alloc o') t a b
  have e : ((w.alloc o).alloc o').heap.size = w.heap.size + 2 := by simp
  rw [e] at h
  exact h
theorem path_next {w wr w1 : World} {pts : List (Int × Int)} {k : Nat} {v v' : Value} {xs : List Value} {kd x y : Int} {t : TypeId} {o1 : Obj}
    (hn : lineOps (pts.take (k + 1)) = lineOps (pts.take k) ++ [(kd, [x, y])]) (q1 : wr.ownsRow w.heap.size 31 2 v (lineOps (pts.take k)).length xs) (q2 : OpsOwn wr w.heap.size (lineOps (pts.take k)) xs) (q3 : Same w wr)
    (hown : w1.ownsRow w.heap.size 31 2 v' ((lineOps (pts.take k)).length + 1) (xs ++ [.int .i64 kd, .slice (some ⟨wr.heap.size + 1, 0, none⟩) 2 2]))
    (hg : (((wr.alloc o1).alloc (.cells #[.int .i64 x, .int .i64 y] 3)).alloc (.cells #[.int .i64 kd, .slice (some ⟨wr.heap.size + 1, 0, none⟩) 2 2] t)).grownBy w1 v.ownBlock) : PathS w (lineOps (pts.take (k + 1))) v' w1 := by
  rw [hn]
  have hsz := q3.size
  refine PathS.next (((q1.alloc _).alloc _).alloc _) (OpsOwn.to (fun g cs _ h => ((h.alloc _).alloc _).alloc _) q2) (((q3.alloc _).alloc _).alloc _) hown hg (.inr ⟨wr.heap.size + 1, by omega, by simp, rfl, ?_⟩)
  have hb := (Blk.new (wr.alloc o1) 3 #[.int .i64 x, .int .i64 y]).alloc (.cells #[.int .i64 kd, .slice (some ⟨wr.heap.size + 1, 0, none⟩) 2 2] t)
  simpa using hb
end Go.Proofs.Ytmgcbodlolnheaa

namespace Go.Proofs.Ytmgcbodlolnheaa
open Go.ChangeShapes Go.WideShapes Go.ChangeAt Go.RowKit Go.Deep
set_option linter.unusedVariables false

theorem cellsOf28 : Try.prog.cellsOf 28 = 2 := by kernel_rfl
theorem cellsOf3 : Try.prog.cellsOf 3 = 1 := by kernel_rfl
section
variable {H : Type} {enc : TypeId × Value → H} {w : World} {spare : Nat → Bool} {held : Bool}
theorem addr_plain {a : Addr} {v : Value} (h : w.cell? (a.add 0) = some v) : ∃ b off, a = ⟨b, off, none⟩ := by
  obtain ⟨b, off, spot⟩ := a
  have hspot : spot = none := by simpa [Addr.add] using World.cell?_spot h
  subst hspot
  exact ⟨b, off, rfl⟩
theorem block_lt {b off : Nat} {v : Value} (h : w.cell? ⟨b, off, none⟩ = some v) : b < w.heap.size := World.block_lt_of_cell? w ⟨b, off, none⟩ h

theorem open_pts {fuel : Nat} {v : Value} {x : DataW H × List MemPlace} (h : DataW.trod enc Try.prog w 0 spare held fuel 27 [v] = some x) : ∃ pts, PtsAt w w.heap.size v pts := by
  rcases open_slice Try.underlying27 h with ⟨hcs, _⟩ | ⟨a, len, cap, m, n, D, Pl, hcs, hb, hl, hm, hmm, hx, hi⟩
  · simp only [List.cons.injEq, and_true] at hcs
    exact ⟨[], none, 0, hcs, by simp, fun h => by simp at h⟩
  · simp only [List.cons.injEq, and_true] at hcs
    subst hcs
    have hlm : len ≤ m := by rw [hmm]; split <;> omega
    have hel : ∀ i, i < len → ∃ p : Int × Int, w.cell? (a.add (i * 2)) = some (.int .i64 p.1) ∧ w.cell? (a.add (i * 2 + 1)) = some (.int .i64 p.2) := by
      intro i hil
      obtain ⟨cs', hc, ht⟩ := hi i (by omega)
      rw [cellsOf28] at hc
      obtain ⟨xs, m', _, _, hlen, hxl, hf⟩ := DataW.trod_array Try.underlying28 ht
      rw [cellsOf28] at hlen
      rw [cellsOf3] at hf
      obtain ⟨_, _, hat⟩ := World.cells?_some hc
      match cs', hlen, xs, hxl with
      | [c0, c1], _, [y0, y1], _ =>
        have f0 := hf 0 (by omega)
        have f1 := hf 1 (by omega)
        simp at f0 f1
        obtain ⟨p0, e0, _⟩ := DataW.trod_int Try.underlying3 f0
        obtain ⟨p1, e1, _⟩ := DataW.trod_int Try.underlying3 f1
        simp only [List.cons.injEq, and_true] at e0 e1
        have h0 := hat 0 (by omega)
        have h1 := hat 1 (by omega)
        rw [Go.Deep.add_add] at h0 h1
        exact ⟨(p0, p1), by rw [Nat.add_zero] at h0; rw [h0, e0]; rfl, by rw [h1, e1]; rfl⟩
    obtain ⟨f, hfa⟩ := choose_lt (α := Int × Int) hel
    refine ⟨(List.range len).map f, some a, cap, by simp, by simp; unfold maxLen at hm; omega, fun hp => ?_⟩
    have hp' : 0 < len := by simpa using hp
    have hfa0 := (hfa 0 hp').1
    rw [Nat.zero_mul] at hfa0
    obtain ⟨b, off, rfl⟩ := addr_plain hfa0
    refine ⟨b, off, rfl, block_lt (off := off + 0 * 2) (v := .int .i64 (f 0).1) (by rw [← add_plain]; exact (hfa 0 hp').1), fun j hj => ?_⟩
    have hj' : j < len := by simpa using hj
    obtain ⟨h0, h1⟩ := hfa j hj'
    rw [add_plain] at h0 h1
    simp only [List.getElem_map, List.getElem_range]
    exact ⟨h0, h1⟩
set_option maxRecDepth 100000 in
theorem open_ptsT {r : Reach} {b0 : Nat} {v : Value} {d : DataW H} {p : List MemPlace} (hv : Value.okWide Try.prog w r b0 27 v) (h : DataW.Trod enc Try.prog w 0 spare held 27 v d p) : ∃ pts, PtsAt w w.heap.size v pts := by
  obtain ⟨a, len, cap, rfl⟩ := okWide_slice Try.underlying27 hv
  obtain ⟨fuel, hf⟩ := h
  exact open_pts (by simpa [Value.cells] using hf)
end
end Go.Proofs.Ytmgcbodlolnheaa

namespace Go.Proofs.Ytmgcbodlolnheaa
open Go.ChangeShapes Go.WideShapes Go.ChangeAt Go.RowKit

theorem laidOut : laidOutB Try.prog = true := by kernel_rfl

section
variable {H : Type} {enc : TypeId × Value → H} {W W' : World}
theorem trodAll_below (hb : Below W.heap.size W W') : ∀ {ts : List TypeId} {vs : List Value} {ds : List (DataW H)} {ps : List MemPlace},
    (∀ t ∈ ts, Try.prog.readableRec t = true ∧ t < Try.prog.types.size) → DataW.TrodAll enc Try.prog W 0 (fun _ => true) true ts vs ds ps →
    DataW.TrodAll enc Try.prog W' 0 (fun b => decide (b < W.heap.size)) true ts vs ds ps
  | [], _, _, _, _, h => by
    obtain ⟨rfl, rfl, rfl⟩ := trodAll_nil h
    exact trodAll_mk0
  | t :: ts, _, _, _, ht, h => by
    have hlt := DataW.TrodAll.lt h
    obtain ⟨v, vs1, d, ds1, a, b, rfl, rfl, rfl, h1, h2⟩ := trodAll_cons h
    obtain ⟨hr, hs⟩ := ht t (by simp)
    exact trodAll_cons_mk (Below.trod laidOut hr hs h1 hb fun x hx => hlt x (by simp [hx])) (trodAll_below hb (fun t' h' => ht t' (by simp [h'])) h2)

theorem law_post {f : Func} {s : ChangeSpec} {args : Array Value} {ds gs : List (DataW H)} {before : List MemPlace}
    (hts : ∀ t ∈ f.params.toList, Try.prog.readableRec t = true ∧ t < Try.prog.types.size) (hr : f.resultTypes = #[4]) (hv : s.vars = [])
    (hfn : s.fn H ds = { results := [.lit (.bool true)], args := ds })
    (hW : DataW.Whole enc Try.prog f.params.toList s.vars false W args.toList ds gs before) (hb : Below W.heap.size W W') :
    s.post enc Try.prog f false true false false W args (.bool true) W' := by
  have hW' := hW
  obtain ⟨p, q, hA, hV, rfl, hfz, hnd⟩ := hW
  rw [hv] at hV
  obtain ⟨rfl, rfl⟩ := trodVars_none hV
  refine ⟨ds, [], p ++ [], [], p, [], hW', ?_, ?_, ?_, hb.frame _, fun h => by cases h⟩
  · rw [List.append_nil, hfn, hr]
    exact trodAll_mk1 (shut_bool Try.underlying4 _)
  · rw [List.append_nil, hfn]
    exact trodAll_below hb hts hA
  · rw [List.append_nil, hfn, hv]
    rfl
end
end Go.Proofs.Ytmgcbodlolnheaa

namespace Go.Proofs.Ytmgcbodlolnheaa
open Go.ChangeShapes Go.WideShapes Go.ChangeAt Go.RowKit
set_option linter.unusedVariables false

/-- The cells of points. -/
def ptCells (pts : List (Int × Int)) : List Value := pts.flatMap fun q => [.int .i64 q.1, .int .i64 q.2]
theorem ptCells_snoc (pts : List (Int × Int)) (q : Int × Int) : ptCells (pts ++ [q]) = ptCells pts ++ [.int .i64 q.1, .int .i64 q.2] := by simp [ptCells]
theorem ptCells_at : ∀ (pts : List (Int × Int)) (j : Nat) (h : j < pts.length), (ptCells pts)[j * 2]? = some (.int .i64 (pts[j]).1) ∧ (ptCells pts)[j * 2 + 1]? = some (.int .i64 (pts[j]).2)
  | [], j, h => by simp at h
  | a :: t, 0, _ => by simp [ptCells]
  | a :: t, j + 1, h => by
    have := ptCells_at t j (by simpa using h)
    have e1 : (j + 1) * 2 = j * 2 + 1 + 1 := by omega
    rw [e1]
    simpa [ptCells] using this
theorem ptsAt_own {w : World} {D n : Nat} {v : Value} {pts : List (Int × Int)} (hn : pts.length = n) (hlen : n ≤ 9223372036854775807) (h : w.ownsRow D 28 2 v n (ptCells pts)) : PtsAt w w.heap.size v pts := by
  rcases h.2 with ⟨rfl, rfl⟩ | ⟨g, cap, cur, rfl, hg, hb, hnc, hcm, hcs, htake⟩
  · exact ⟨none, 0, by rw [hn], by omega, fun hp => by omega⟩
  · refine ⟨_, cap, by rw [hn], by omega, fun hp => ⟨g, 0, rfl, ?_, fun j hj => ?_⟩⟩
    · exact (show Blk w g 28 cur from hb).lt
    · obtain ⟨h1, h2⟩ := ptCells_at pts j hj
      have hc := h.cellAt (g := g) (cap := cap)
      exact ⟨by rw [Nat.zero_add, hc (j * 2) (by omega), h1], by rw [Nat.zero_add, hc (j * 2 + 1) (by omega), h2]⟩
theorem info28 : (Try.prog.info? 28).map (fun i => (i.zero, i.size, i.bytes)) = some (some (.agg #[.int .i64 0, .int .i64 0]), 2, 16) := by kernel_rfl
theorem own_same28 {w w' : World} {D n : Nat} {v : Value} {xs : List Value} {w0 : World} (h : w.ownsRow D 28 2 v n xs) (hD : w0.heap.size ≤ D) (hs : Same w0 w) (hg : w.grownBy w' v.ownBlock) : Same w0 w' :=
  hs.grown hg fun k hk => .inl (Nat.le_trans hD (h.lt k hk).1)

end Go.Proofs.Ytmgcbodlolnheaa
