/-
  'laws.FnSizes' returns true for every input (no condition).
  Slices of points; 'laws.beyond', 'laws.within'.
  'laws.path': the calls that make a closed path.
  Arguments opened: slices of points, of ints, of calls, of slices.
  The last step of every law's row: the call returned true and turned nothing that was there.
  'bytes.Equal' of two equal masks; rows of points of the law's own.
-/
import Derived.Test.YtmgcbodlolnheaaZNew
import Derived.Test.YtmgcbodlolnheaaZMasks2
import Derived.Deep.Slices
import Derived.Test.YtmgcbodlolnheaaZBase
import Derived.Laws.BytesArg
namespace Go.Proofs.Ytmgcbodlolnheaa
open Go.ChangeShapes Go.WideShapes Go.ChangeAt Go.RowKit

/-- Is it a size of which the statements speak? -/
def sizedB (W H : Int) : Bool := decide (1 ≤ W ∧ W ≤ 2000 ∧ 1 ≤ H ∧ H ≤ 2000 ∧ W * H ≤ 65536)
theorem sizedB_iff {W H : Int} : sizedB W H = true ↔ (1 ≤ W ∧ W ≤ 2000 ∧ 1 ≤ H ∧ H ≤ 2000 ∧ W * H ≤ 65536) := by simp [sizedB]
theorem mul_le_big {W H : Int} (a : 0 ≤ W) (a' : W ≤ 2000) (b : 0 ≤ H) (b' : H ≤ 2000) : 0 ≤ W * H ∧ W * H ≤ 4000000 :=
  ⟨Int.mul_nonneg a b, by have := Int.mul_le_mul a' b' b (by omega); omega⟩

theorem sized_any (W H : Int) (w : World) :
    Calls Try.prog 15 #[.int .i64 W, .int .i64 H] w fun e w' => e = .returned (.bool (sizedB W H)) ∧ w = w' := by
  by_cases h0 : 1 ≤ W
  · by_cases h1 : W ≤ 2000
    · by_cases h2 : 1 ≤ H
      · by_cases h3 : H ≤ 2000
        · have hm := mul_le_big (W := W) (H := H) (by omega) h1 (by omega) h3
          obtain ⟨hm0, hm1⟩ := hm
          have e : sizedB W H = decide (W * H ≤ 65536) := by simp [sizedB, h0, h1, h2, h3]
          rw [e]
          clear e
          go_enter Try.func15, Try.ntmps15
          go_wp2
          go_ret
          exact ⟨rfl, rfl⟩
        · have e : sizedB W H = false := by simp [sizedB, h3]
          have g : decide (H ≤ 2000) = false := by simpa using h3
          rw [e]
          clear e
          go_enter Try.func15, Try.ntmps15
          go_wp2
          go_ret
          exact ⟨rfl, rfl⟩
      · have e : sizedB W H = false := by simp [sizedB, h2]
        have g : decide (1 ≤ H) = false := by simpa using h2
        rw [e]
        clear e
        go_enter Try.func15, Try.ntmps15
        go_wp2
        go_ret
        exact ⟨rfl, rfl⟩
    · have e : sizedB W H = false := by simp [sizedB, h1]
      have g : decide (W ≤ 2000) = false := by simpa using h1
      rw [e]
      clear e
      go_enter Try.func15, Try.ntmps15
      go_wp2
      go_ret
      exact ⟨rfl, rfl⟩
  · have e : sizedB W H = false := by simp [sizedB, h0]
    have g : decide (1 ≤ W) = false := by simpa using h0
    rw [e]
    clear e
    go_enter Try.func15, Try.ntmps15
    go_wp2
    go_ret
    exact ⟨rfl, rfl⟩

end Go.Proofs.Ytmgcbodlolnheaa

namespace Go.Proofs.Ytmgcbodlolnheaa
open Go.ChangeShapes Go.WideShapes Go.ChangeAt Go.RowKit
set_option linter.unusedVariables false

/-- Where a slice of points stands: at block g from cell off on, below block B. -/
def PtsCells (w : World) (B g off : Nat) (pts : List (Int × Int)) : Prop :=
  g < B ∧ ∀ j, (h : j < pts.length) → w.cell? ⟨g, off + j * 2, none⟩ = some (.int .i64 (pts[j]).1) ∧ w.cell? ⟨g, off + j * 2 + 1, none⟩ = some (.int .i64 (pts[j]).2)
def PtsAt (w : World) (B : Nat) (v : Value) (pts : List (Int × Int)) : Prop :=
  ∃ (A : Option Addr) (cap : Nat), v = .slice A pts.length cap ∧ pts.length ≤ 9223372036854775807 ∧ (0 < pts.length → ∃ g off, A = some ⟨g, off, none⟩ ∧ PtsCells w B g off pts)
theorem PtsCells.kept {S : Nat → Prop} {w w' : World} {B g off : Nat} {pts : List (Int × Int)} (h : PtsCells w B g off pts) (hk : Kept S w w') (hB : B ≤ w.heap.size) (hS : ∀ k, k < B → ¬ S k) : PtsCells w' B g off pts := by
  obtain ⟨h1, h2⟩ := h
  refine ⟨h1, fun j hj => ?_⟩
  obtain ⟨a, b⟩ := h2 j hj
  exact ⟨(hk.cell (p := ⟨g, off + j * 2, none⟩) (Nat.lt_of_lt_of_le h1 hB) (hS g h1)).trans a, (hk.cell (p := ⟨g, off + j * 2 + 1, none⟩) (Nat.lt_of_lt_of_le h1 hB) (hS g h1)).trans b⟩
theorem PtsAt.kept {S : Nat → Prop} {w w' : World} {B : Nat} {v : Value} {pts : List (Int × Int)} (h : PtsAt w B v pts) (hk : Kept S w w') (hB : B ≤ w.heap.size) (hS : ∀ k, k < B → ¬ S k) : PtsAt w' B v pts := by
  obtain ⟨A, cap, h1, h2, h3⟩ := h
  refine ⟨A, cap, h1, h2, fun hp => ?_⟩
  obtain ⟨g, off, a, b⟩ := h3 hp
  exact ⟨g, off, a, b.kept hk hB hS⟩
theorem PtsAt.mono {w : World} {B C : Nat} {v : Value} {pts : List (Int × Int)} (h : PtsAt w B v pts) (hB : B ≤ C) : PtsAt w C v pts := by
  obtain ⟨A, cap, h1, h2, h3⟩ := h
  refine ⟨A, cap, h1, h2, fun hp => ?_⟩
  obtain ⟨g, off, a, b, c⟩ := h3 hp
  exact ⟨g, off, a, Nat.lt_of_lt_of_le b hB, c⟩

/-- Farther from 0 than that? -/
def beyondB (x far : Int) : Bool := decide (x < -far ∨ far < x)
theorem beyond_any (x far : Int) (w : World) (h : 0 ≤ far) (h' : far ≤ 1000000000) :
    Calls Try.prog 18 #[.int .i64 x, .int .i64 far] w fun e w' => e = .returned (.bool (beyondB x far)) ∧ w = w' := by
  by_cases h1 : x < -far
  · have e : beyondB x far = true := by simp [beyondB, h1]
    rw [e]
    clear e
    go_enter Try.func18, Try.ntmps18
    go_wp2
    go_ret
    exact ⟨rfl, rfl⟩
  · by_cases h2 : far < x
    · have e : beyondB x far = true := by simp [beyondB, h2]
      rw [e]
      clear e
      go_enter Try.func18, Try.ntmps18
      go_wp2
      go_ret
      exact ⟨rfl, rfl⟩
    · have e : beyondB x far = false := by simp [beyondB, h1, h2]
      rw [e]
      clear e
      go_enter Try.func18, Try.ntmps18
      go_wp2
      go_ret
      exact ⟨rfl, rfl⟩
theorem beyond_is {x far : Int} {v : Bool} (w : World) (h : 0 ≤ far) (h' : far ≤ 1000000000) (hv : beyondB x far = v) :
    Calls Try.prog 18 #[.int .i64 x, .int .i64 far] w fun e w' => e = .returned (.bool v) ∧ w = w' := by
  have := beyond_any x far w h h'
  rwa [hv] at this
def nearB (pts : List (Int × Int)) (far : Int) : Bool := pts.all (fun p => !beyondB p.1 far && !beyondB p.2 far)
theorem nearB_take {pts : List (Int × Int)} {far : Int} {k : Nat} (h : k < pts.length) (a : nearB (pts.take k) far = true) (b : beyondB (pts[k]).1 far = false) (c : beyondB (pts[k]).2 far = false) : nearB (pts.take (k + 1)) far = true := by
  unfold nearB at *
  rw [List.take_succ_eq_append_getElem h, List.all_append, a]
  simp [b, c]
end Go.Proofs.Ytmgcbodlolnheaa

namespace Go.Proofs.Ytmgcbodlolnheaa
open Go.ChangeShapes Go.WideShapes Go.ChangeAt Go.RowKit
set_option linter.unusedVariables false

theorem info31 : (Try.prog.info? 31).map (fun i => (i.zero, i.size, i.bytes)) = some (some (.agg #[.int .i64 0, .slice none 0 0]), 2, 32) := by kernel_rfl

theorem cells_new1 {w : World} (t : TypeId) (a b : Value) : ∀ (j : Nat) (u : Value), [a, b][j]? = some u → (w.alloc (.cells #[a, b] t)).cell? ((⟨w.heap.size, 0, none⟩ : Addr).add j) = some u := by
  intro j u hu
  have hb := Blk.new w t #[a, b]
  have e : (⟨w.heap.size, 0, none⟩ : Addr).add j = ⟨w.heap.size, j, none⟩ := by unfold Addr.add; split <;> simp_all
  rw [e, hb.cell]
  simpa using hu
end Go.Proofs.Ytmgcbodlolnheaa

namespace Go.Proofs.Ytmgcbodlolnheaa
open Go.ChangeShapes Go.WideShapes Go.ChangeAt Go.RowKit Go.Deep
set_option linter.unusedVariables false

theorem cellsOf28 : Try.prog.cellsOf 28 = 2 := by kernel_rfl
theorem cellsOf3 : Try.prog.cellsOf 3 = 1 := by kernel_rfl
theorem cellsOf27 : Try.prog.cellsOf 27 = 1 := by kernel_rfl
section
variable {H : Type} {enc : TypeId × Value → H} {w : World} {spare : Nat → Bool} {held : Bool}
theorem addr_plain {a : Addr} {v : Value} (h : w.cell? (a.add 0) = some v) : ∃ b off, a = ⟨b, off, none⟩ := by
  obtain ⟨b, off, spot⟩ := a
  have hspot : spot = none := by simpa [Addr.add] using World.cell?_spot h
  subst hspot
  exact ⟨b, off, rfl⟩
theorem block_lt {b off : Nat} {v : Value} (h : w.cell? ⟨b, off, none⟩ = some v) : b < w.heap.size := World.block_lt_of_cell? w ⟨b, off, none⟩ h

theorem open_pts {fuel : Nat} {v : Value} {x : DataW H × List MemPlace} (h : DataW.trod enc Try.prog w 0 spare held fuel 27 [v] = some x) : ∃ pts, PtsAt w w.heap.size v pts := by
  rcases open_slice Try.underlying27 h with ⟨hcs, _⟩ | ⟨a, len, cap, m, n, D, Pl, hcs, hb, hl, hm, hmm, hx, hi⟩
  · simp only [List.cons.injEq, and_true] at hcs
    exact ⟨[], none, 0, hcs, by simp, fun h => by simp at h⟩
  · simp only [List.cons.injEq, and_true] at hcs
    subst hcs
    have hlm : len ≤ m := by rw [hmm]; split <;> omega
    have hel : ∀ i, i < len → ∃ p : Int × Int, w.cell? (a.add (i * 2)) = some (.int .i64 p.1) ∧ w.cell? (a.add (i * 2 + 1)) = some (.int .i64 p.2) := by
      intro i hil
      obtain ⟨cs', hc, ht⟩ := hi i (by omega)
      rw [cellsOf28] at hc
      obtain ⟨xs, m', _, _, hlen, hxl, hf⟩ := DataW.trod_array Try.underlying28 ht
      rw [cellsOf28] at hlen
      rw [cellsOf3] at hf
      obtain ⟨_, _, hat⟩ := World.cells?_some hc
      match cs', hlen, xs, hxl with
      | [c0, c1], _, [y0, y1], _ =>
        have f0 := hf 0 (by omega)
        have f1 := hf 1 (by omega)
        simp at f0 f1
        obtain ⟨p0, e0, _⟩ := DataW.trod_int Try.underlying3 f0
        obtain ⟨p1, e1, _⟩ := DataW.trod_int Try.underlying3 f1
        simp only [List.cons.injEq, and_true] at e0 e1
        have h0 := hat 0 (by omega)
        have h1 := hat 1 (by omega)
        rw [Go.Deep.add_add] at h0 h1
        exact ⟨(p0, p1), by rw [Nat.add_zero] at h0; rw [h0, e0]; rfl, by rw [h1, e1]; rfl⟩
    obtain ⟨f, hfa⟩ := choose_lt (α := Int × Int) hel
    refine ⟨(List.range len).map f, some a, cap, by simp, by simp; unfold maxLen at hm; omega, fun hp => ?_⟩
    have hp' : 0 < len := by simpa using hp
    have hfa0 := (hfa 0 hp').1
    rw [Nat.zero_mul] at hfa0
    obtain ⟨b, off, rfl⟩ := addr_plain hfa0
    refine ⟨b, off, rfl, block_lt (off := off + 0 * 2) (v := .int .i64 (f 0).1) (by rw [← add_plain]; exact (hfa 0 hp').1), fun j hj => ?_⟩
    have hj' : j < len := by simpa using hj
    obtain ⟨h0, h1⟩ := hfa j hj'
    rw [add_plain] at h0 h1
    simp only [List.getElem_map, List.getElem_range]
    exact ⟨h0, h1⟩
end
end Go.Proofs.Ytmgcbodlolnheaa

namespace Go.Proofs.Ytmgcbodlolnheaa
open Go.ChangeShapes Go.WideShapes Go.ChangeAt Go.RowKit

theorem laidOut : laidOutB Try.prog = true := by kernel_rfl

section
variable {H : Type} {enc : TypeId × Value → H} {W W' : World}
theorem trodAll_below (hb : Below W.heap.size W W') : ∀ {ts : List TypeId} {vs : List Value} {ds : List (DataW H)} {ps : List MemPlace},
    (∀ t ∈ ts, Try.prog.readableRec t = true ∧ t < Try.prog.types.size) → DataW.TrodAll enc Try.prog W 0 (fun _ => true) true ts vs ds ps →
    DataW.TrodAll enc Try.prog W' 0 (fun b => decide (b < W.heap.size)) true ts vs ds ps
  | [], _, _, _, _, h => by
    obtain ⟨rfl, rfl, rfl⟩ := trodAll_nil h
    exact trodAll_mk0
  | t :: ts, _, _, _, ht, h => by
    have hlt := DataW.TrodAll.lt h
    obtain ⟨v, vs1, d, ds1, a, b, rfl, rfl, rfl, h1, h2⟩ := trodAll_cons h
    obtain ⟨hr, hs⟩ := ht t (by simp)
    exact trodAll_cons_mk (Below.trod laidOut hr hs h1 hb fun x hx => hlt x (by simp [hx])) (trodAll_below hb (fun t' h' => ht t' (by simp [h'])) h2)

theorem law_post {f : Func} {s : ChangeSpec} {args : Array Value} {ds gs : List (DataW H)} {before : List MemPlace}
    (hts : ∀ t ∈ f.params.toList, Try.prog.readableRec t = true ∧ t < Try.prog.types.size) (hr : f.resultTypes = #[4]) (hv : s.vars = [])
    (hfn : s.fn H ds = { results := [.lit (.bool true)], args := ds })
    (hW : DataW.Whole enc Try.prog f.params.toList s.vars false W args.toList ds gs before) (hb : Below W.heap.size W W') :
    s.post enc Try.prog f false true false false W args (.bool true) W' := by
  have hW' := hW
  obtain ⟨p, q, hA, hV, rfl, hfz, hnd⟩ := hW
  rw [hv] at hV
  obtain ⟨rfl, rfl⟩ := trodVars_none hV
  refine ⟨ds, [], p ++ [], [], p, [], hW', ?_, ?_, ?_, hb.frame _, fun h => by cases h⟩
  · rw [List.append_nil, hfn, hr]
    exact trodAll_mk1 (shut_bool Try.underlying4 _)
  · rw [List.append_nil, hfn]
    exact trodAll_below hb hts hA
  · rw [List.append_nil, hfn, hv]
    rfl
end
end Go.Proofs.Ytmgcbodlolnheaa

namespace Go.Proofs.Ytmgcbodlolnheaa
open Go.ChangeShapes Go.WideShapes Go.ChangeAt Go.RowKit
set_option linter.unusedVariables false

/-- The cells of points. -/
def ptCells (pts : List (Int × Int)) : List Value := pts.flatMap fun q => [.int .i64 q.1, .int .i64 q.2]
theorem length_ptCells (pts : List (Int × Int)) : (ptCells pts).length = pts.length * 2 := by
  induction pts with
  | nil => rfl
  | cons a t ih =>
    have e : ptCells (a :: t) = .int .i64 a.1 :: .int .i64 a.2 :: ptCells t := rfl
    rw [e, List.length_cons, List.length_cons, ih, List.length_cons]
    omega
theorem ptCells_at : ∀ (pts : List (Int × Int)) (j : Nat) (h : j < pts.length), (ptCells pts)[j * 2]? = some (.int .i64 (pts[j]).1) ∧ (ptCells pts)[j * 2 + 1]? = some (.int .i64 (pts[j]).2)
  | [], j, h => by simp at h
  | a :: t, 0, _ => by simp [ptCells]
  | a :: t, j + 1, h => by
    have := ptCells_at t j (by simpa using h)
    have e1 : (j + 1) * 2 = j * 2 + 1 + 1 := by omega
    rw [e1]
    simpa [ptCells] using this
theorem ptsAt_own {w : World} {D n : Nat} {v : Value} {pts : List (Int × Int)} (hn : pts.length = n) (hlen : n ≤ 9223372036854775807) (h : w.ownsRow D 28 2 v n (ptCells pts)) : PtsAt w w.heap.size v pts := by
  rcases h.2 with ⟨rfl, rfl⟩ | ⟨g, cap, cur, rfl, hg, hb, hnc, hcm, hcs, htake⟩
  · exact ⟨none, 0, by rw [hn], by omega, fun hp => by omega⟩
  · refine ⟨_, cap, by rw [hn], by omega, fun hp => ⟨g, 0, rfl, ?_, fun j hj => ?_⟩⟩
    · exact (show Blk w g 28 cur from hb).lt
    · obtain ⟨h1, h2⟩ := ptCells_at pts j hj
      have hc := h.cellAt (g := g) (cap := cap)
      exact ⟨by rw [Nat.zero_add, hc (j * 2) (by omega), h1], by rw [Nat.zero_add, hc (j * 2 + 1) (by omega), h2]⟩
theorem info28 : (Try.prog.info? 28).map (fun i => (i.zero, i.size, i.bytes)) = some (some (.agg #[.int .i64 0, .int .i64 0]), 2, 16) := by kernel_rfl
end Go.Proofs.Ytmgcbodlolnheaa
