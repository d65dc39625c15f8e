/-
  An argument of type [][]int, opened; 'laws.zzFits1': contract.
  'laws.path' once more: what it returns, block by block.
  Words for 'laws.stairs': two rows of ints of one's own, the halves of a list, the calls and the edges of several paths. No walk here.
  'laws.stairs': contract.
  Contracts of 'laws.zzFits1', 'laws.stairs' and 'spec.Winding' for any arguments.
-/
import Derived.Test.YtmgcbodlolnheaaZSpec1
import Derived.Test.YtmgcbodlolnheaaZEqual
import Derived.Test.YtmgcbodlolnheaaZOps
import Derived.Deep.AppendLies
namespace Go.Proofs.Ytmgcbodlolnheaa
open Go.ChangeShapes Go.WideShapes Go.ChangeAt Go.RowKit Go.Deep
set_option linter.unusedVariables false

section
variable {H : Type} {enc : TypeId × Value → H} {w : World} {spare : Nat → Bool} {held : Bool}
end
end Go.Proofs.Ytmgcbodlolnheaa

namespace Go.Proofs.Ytmgcbodlolnheaa
open Go.ChangeShapes Go.WideShapes Go.ChangeAt Go.RowKit
set_option linter.unusedVariables false

theorem OpsOwn.append {w : World} {D : Nat} : ∀ {ops : List (Int × List Int)} {xs : List Value}, OpsOwn w D ops xs → ∀ {ops' : List (Int × List Int)} {xs' : List Value}, OpsOwn w D ops' xs' → OpsOwn w D (ops ++ ops') (xs ++ xs')
  | [], [], _, _, _, h' => h'
  | o' :: t, [], h, _, _, _ => h.elim
  | o' :: t, [a], h, _, _, _ => h.elim
  | o' :: t, a :: c :: r, h, _, _, h' => ⟨h.1, h.2.1, OpsOwn.append h.2.2 h'⟩
  | [], a :: r, h, _, _, _ => h.elim
theorem OpsOwn.lower {w : World} {D D' : Nat} (hD : D' ≤ D) : ∀ {ops : List (Int × List Int)} {xs : List Value}, OpsOwn w D ops xs → OpsOwn w D' ops xs
  | [], [], _ => trivial
  | o :: t, [], h => h.elim
  | o :: t, [a], h => h.elim
  | o :: t, a :: b :: r, h => ⟨h.1, (by rcases h.2.1 with h1 | ⟨g, h1, h2⟩; exact .inl h1; exact .inr ⟨g, Nat.le_trans hD h1, h2⟩), OpsOwn.lower hD h.2.2⟩
  | [], a :: r, h => h.elim
theorem path_endS {w wr w1 : World} {pts : List (Int × Int)} {v v' : Value} {xs : List Value} {t : TypeId} (hl : (lineOps pts).length = pts.length) (hlen : pts.length ≤ 1000000)
    (q1 : wr.ownsRow w.heap.size 31 2 v (lineOps pts).length xs) (q2 : OpsOwn wr w.heap.size (lineOps pts) xs) (q3 : Same w wr)
    (hown : w1.ownsRow w.heap.size 31 2 v' ((lineOps pts).length + 1) (xs ++ [.int .i64 4, .slice none 0 0]))
    (hg : (wr.alloc (.cells #[.int .i64 4, .slice none 0 0] t)).grownBy w1 v.ownBlock) : PathS w (pathOps pts) v' w1 := by
  exact PathS.next (o := (4, [])) (b := .slice none 0 0) (q1.alloc _) (OpsOwn.to (fun g cs _ h => h.alloc _) q2) (q3.alloc _) hown hg (.inl ⟨rfl, rfl⟩)

set_option maxHeartbeats 1000000 in
set_option maxRecDepth 100000 in
theorem path_consS (pts : List (Int × Int)) (g off cap : Nat) (w : World) (hpos : 0 < pts.length) (hlen : pts.length ≤ 1000000) (hp : PtsCells w w.heap.size g off pts) :
    Calls Try.prog 22 #[.slice (some ⟨g, off, none⟩) pts.length cap] w fun e w' => ∃ v, e = .returned v ∧ PathS w (pathOps pts) v w' := by
  have HP := hid hp
  clear hp
  obtain ⟨i0, hi, hz0, hz1, hz2⟩ := info_parts info31
  go_enter Try.func22, Try.ntmps22
  go_wp2_with fail
  go_loopw [3, 9] (fun v i wr => ∃ k : Nat, k ≤ pts.length ∧ i = .int .i64 k ∧ PathS w (lineOps (pts.take k)) v wr) (fun _ i _ => pts.length - (intOf i).toNat)
  case atStart => exact ⟨0, Nat.zero_le _, rfl, [], World.ownsRow_nil _ _ _ _, trivial, Kept.refl _ _⟩
  case round =>
    obtain ⟨k, hk, rfl, xs, q1, q2, q3⟩ := hrel
    have hll : (lineOps (pts.take k)).length = k := by rw [length_lineOps, List.length_take, Nat.min_eq_left hk]
    by_cases hlt : k < pts.length
    · have hpc := HP.out.kept q3 (Nat.le_refl _) (fun _ _ hf => hf)
      obtain ⟨c0, c1⟩ := hpc.2 k hlt
      have hg : g < wr.heap.size := Nat.lt_of_lt_of_le hpc.1 q3.size
      have hnext := lineOps_snoc hlt
      generalize hx : (pts[k]).1 = x at c0 hnext
      generalize hy : (pts[k]).2 = y at c1 hnext
      have HN := hid hnext
      have HLL := hid hll
      have Q1 := hid q1
      have Q2 := hid q2
      have Q3 := hid q3
      have hsz := q3.size
      clear hx hy hpc hnext hll q1 q2 q3
      obtain ⟨kd, hkd⟩ : ∃ kd : Int, kd = if k = 0 then 0 else 1 := ⟨_, rfl⟩
      rw [← hkd] at HN
      by_cases h0 : k = 0
      · rw [if_pos h0] at hkd
        subst hkd
        have h0' : ((k : Int) == 0) = true := by simp [h0]
        clear h0
        go_wp2_with (at_builtin; refine wpList_append_own _ rfl _ _ 25 rfl w.heap.size 31 i0 (.agg #[.int .i64 0, .slice none 0 0]) 2 32 Try.underlying25 hi hz0 hz1 hz2 rfl (by decide) _ _ _ rfl (((Q1.out.alloc _).alloc _).alloc _) ⟨wr.heap.size + 2, 0, none⟩ 1 1 [.int .i64 0, .slice (some ⟨wr.heap.size + 1, 0, none⟩) 2 2] rfl rfl ?c1 ?c2 ?c3 ?c4 ?c5 ?_)
        case c1 => exact cells_new3 _ _ _ _ _
        case c2 => intro u hu; simp at hu; rcases hu with rfl | rfl <;> rfl
        case c3 => rw [HLL.out]; unfold maxLen; omega
        case c4 => rw [HLL.out]; omega
        case c5 => simp; omega
        intro v' w1 hown' hgrow _
        have R := path_next (kd := 0) HN.out Q1.out Q2.out Q3.out hown' hgrow
        clear hown' hgrow
        go_wp2_with fail
        go_roundw
        case measure => simp [intOf]; omega
        case rel => exact ⟨k + 1, by omega, by go_num, R⟩
      · rw [if_neg h0] at hkd
        subst hkd
        have h0' : ((k : Int) == 0) = false := by simp [h0]
        clear h0
        go_wp2_with (at_builtin; refine wpList_append_own _ rfl _ _ 25 rfl w.heap.size 31 i0 (.agg #[.int .i64 0, .slice none 0 0]) 2 32 Try.underlying25 hi hz0 hz1 hz2 rfl (by decide) _ _ _ rfl (((Q1.out.alloc _).alloc _).alloc _) ⟨wr.heap.size + 2, 0, none⟩ 1 1 [.int .i64 1, .slice (some ⟨wr.heap.size + 1, 0, none⟩) 2 2] rfl rfl ?c1 ?c2 ?c3 ?c4 ?c5 ?_)
        case c1 => exact cells_new3 _ _ _ _ _
        case c2 => intro u hu; simp at hu; rcases hu with rfl | rfl <;> rfl
        case c3 => rw [HLL.out]; unfold maxLen; omega
        case c4 => rw [HLL.out]; omega
        case c5 => simp; omega
        intro v' w1 hown' hgrow _
        have R := path_next (kd := 1) HN.out Q1.out Q2.out Q3.out hown' hgrow
        clear hown' hgrow
        go_wp2_with fail
        go_roundw
        case measure => simp [intOf]; omega
        case rel => exact ⟨k + 1, by omega, by go_num, R⟩
    · obtain rfl : k = pts.length := by omega
      rw [List.take_of_length_le (Nat.le_refl _)] at q1 q2 hll
      have HLL := hid hll
      have Q1 := hid q1
      have Q2 := hid q2
      have Q3 := hid q3
      have hsz := q3.size
      clear q1 q2 q3 hll
      go_wp2_with (at_builtin; refine wpList_append_own _ rfl _ _ 25 rfl w.heap.size 31 i0 (.agg #[.int .i64 0, .slice none 0 0]) 2 32 Try.underlying25 hi hz0 hz1 hz2 rfl (by decide) _ _ _ rfl (Q1.out.alloc _) ⟨wr.heap.size, 0, none⟩ 1 1 [.int .i64 4, .slice none 0 0] rfl rfl ?c1 ?c2 ?c3 ?c4 ?c5 ?_)
      case c1 => exact cells_new1 _ _ _
      case c2 => intro u hu; simp at hu; rcases hu with rfl | rfl <;> rfl
      case c3 => rw [HLL.out]; unfold maxLen; omega
      case c4 => rw [HLL.out]; omega
      case c5 => simp; omega
      intro v' w1 hown' hgrow _
      have R := path_endS HLL.out (by omega) Q1.out Q2.out Q3.out hown' hgrow
      clear hown' hgrow
      have R2 := hid R
      clear R
      go_wp2_with fail
      go_ret
      exact ⟨_, rfl, R2.out⟩
end Go.Proofs.Ytmgcbodlolnheaa

namespace Go.Proofs.Ytmgcbodlolnheaa
open Go.ChangeShapes Go.WideShapes Go.ChangeAt Go.RowKit Go.Deep
set_option linter.unusedVariables false

section
variable {w wr w1 : World} {D : Nat} {v v' : Value} {xs ys : List Int}
end

/-! ### the halves of a list -/
theorem edgeCells_append (a b : List Edge) : edgeCells (a ++ b) = edgeCells a ++ edgeCells b := by simp [edgeCells]
theorem length_edgeCells (a : List Edge) : (edgeCells a).length = a.length * 4 := by
  induction a with
  | nil => rfl
  | cons e t ih => simp only [edgeCells, List.flatMap_cons, List.length_append, List.length_cons, List.length_nil] at ih ⊢; omega
theorem length_polyTo (pts : List (Int × Int)) (k : Nat) : (polyTo pts k).length = k := by simp [polyTo]
theorem length_pathOps (pts : List (Int × Int)) : (pathOps pts).length = pts.length + 1 := by simp [pathOps, length_lineOps]

/-- A row of another element type is not touched where a row grows. -/
theorem own_other {w w' : World} {D D' n n' k k' t t' : Nat} {v v' : Value} {xs xs' : List Value} (h : w.ownsRow D t k v n xs) (h' : w.ownsRow D' t' k' v' n' xs') (ht : t ≠ t') (hg : w.grownBy w' v'.ownBlock) : w'.ownsRow D t k v n xs := by
  refine h.kept hg ?_
  rcases h.2 with ⟨rfl, _⟩ | ⟨g, cap, cur, rfl, _, hb, _⟩
  · exact .inl rfl
  · right
    intro he
    rcases h'.2 with ⟨rfl, _⟩ | ⟨g', cap', cur', rfl, _, hb', _⟩
    · simp [Value.ownBlock] at he
    · simp only [Value.ownBlock, Option.some.injEq] at he
      subst he
      exact ht ((show Blk w g t cur from hb).eq_ (show Blk w g t' cur' from hb')).1
/-- Blocks of another element type are as they were. -/
theorem grown_blk {w w' : World} {D n k t : Nat} {v : Value} {xs : List Value} {g t' : Nat} {cs : Array Value} (h : w.ownsRow D t k v n xs) (hg : w.grownBy w' v.ownBlock) (ht : t' ≠ t) (hb : Blk w g t' cs) : Blk w' g t' cs := by
  refine (hg.block g hb.lt fun he => ?_).trans hb
  rcases h.2 with ⟨rfl, _⟩ | ⟨g', cap, cur, rfl, _, hb', _⟩
  · simp [Value.ownBlock] at he
  · simp only [Value.ownBlock, Option.some.injEq] at he
    subst he
    exact ht (hb.eq_ (show Blk w g t cur from hb')).1
theorem opsOwn_cells {w : World} {D : Nat} : ∀ {ops : List (Int × List Int)} {xs : List Value}, OpsOwn w D ops xs → ∀ u ∈ xs, u.oneCell' = true
  | [], [], _, u, hu => by simp at hu
  | o :: t, [], h, _, _ => h.elim
  | o :: t, [a], h, _, _ => h.elim
  | o :: t, a :: b :: r, h, u, hu => by
    rcases List.mem_cons.1 hu with rfl | hu
    · rw [h.1]; rfl
    · rcases List.mem_cons.1 hu with rfl | hu
      · rcases h.2.1 with ⟨_, rfl⟩ | ⟨g, _, _, rfl, _⟩ <;> rfl
      · exact opsOwn_cells h.2.2 u hu
  | [], a :: r, h, _, _ => h.elim
theorem edgeCells_one (l : List Edge) : ∀ u ∈ edgeCells l, u.oneCell' = true := by
  intro u hu
  simp only [edgeCells, List.mem_flatMap] at hu
  obtain ⟨e, _, hu⟩ := hu
  simp only [List.mem_cons, List.not_mem_nil, or_false] at hu
  rcases hu with rfl | rfl | rfl | rfl <;> rfl
theorem own_sameW {w w' : World} {D n k t : Nat} {v : Value} {xs : List Value} (h : w.ownsRow D t k v n xs) (hs : Same w w') : w'.ownsRow D t k v n xs := by
  refine h.kept (row := none) ⟨hs.os, hs.tape, hs.output, hs.size, fun k hk _ => hs.block k hk fun h => h⟩ ?_
  cases v.ownBlock with
  | none => exact .inl rfl
  | some g => exact .inr (by simp)
theorem opsOwn_same {w w' : World} {D : Nat} {ops : List (Int × List Int)} {xs : List Value} (h : OpsOwn w D ops xs) (hs : Same w w') : OpsOwn w' D ops xs := h.to fun g cs _ hb => hs.blk hb fun h => h
/-- One more list: the calls. -/
theorem stS_ops {w2 w3 : World} {D n n2 : Nat} {v : Value} {xs xs2 : List Value} {ops ops2 : List (Int × List Int)} (hD : D ≤ n2)
    (h1 : w2.ownsRow D 31 2 v n xs) (h2 : OpsOwn w2 D ops xs) (k2 : OpsOwn w2 n2 ops2 xs2) (hg : w2.grownBy w3 v.ownBlock) : OpsOwn w3 D (ops ++ ops2) (xs ++ xs2) :=
  (h2.append (k2.lower hD)).to fun g cs _ hb => grown_blk h1 hg (by decide) hb
theorem grown_same {w0 w w' : World} {D t k n : Nat} {v : Value} {xs : List Value} (h : w.ownsRow D t k v n xs) (hD : w0.heap.size ≤ D) (hs : Same w0 w) (hg : w.grownBy w' v.ownBlock) : Same w0 w' :=
  hs.grown hg fun k hk => .inl (Nat.le_trans hD (h.lt k hk).1)
end Go.Proofs.Ytmgcbodlolnheaa

namespace Go.Proofs.Ytmgcbodlolnheaa
open Go.ChangeShapes Go.WideShapes Go.ChangeAt Go.RowKit Go.Deep
set_option linter.unusedVariables false

end Go.Proofs.Ytmgcbodlolnheaa

namespace Go.Proofs.Ytmgcbodlolnheaa
open Go.ChangeShapes Go.WideShapes Go.ChangeAt Go.RowKit Go.Deep
set_option linter.unusedVariables false

theorem edgeCells_get : ∀ (l : List Edge) (j : Nat), (h : j < l.length) → (edgeCells l)[j * 4]? = some (.int .i64 (l[j]).1.1) ∧ (edgeCells l)[j * 4 + 1]? = some (.int .i64 (l[j]).1.2) ∧
    (edgeCells l)[j * 4 + 2]? = some (.int .i64 (l[j]).2.1) ∧ (edgeCells l)[j * 4 + 3]? = some (.int .i64 (l[j]).2.2)
  | [], j, h => by simp at h
  | e :: t, 0, h => by simp [edgeCells]
  | e :: t, j + 1, h => by
    obtain ⟨a, b, c, d⟩ := edgeCells_get t j (by simpa using h)
    have e0 : edgeCells (e :: t) = [.int .i64 e.1.1, .int .i64 e.1.2, .int .i64 e.2.1, .int .i64 e.2.2] ++ edgeCells t := by simp [edgeCells]
    rw [e0, List.getElem?_append_right (by simp; omega), List.getElem?_append_right (by simp; omega), List.getElem?_append_right (by simp; omega), List.getElem?_append_right (by simp; omega)]
    simp only [List.length_cons, List.length_nil, List.getElem_cons_succ]
    rw [show (j + 1) * 4 - 4 = j * 4 by omega, show (j + 1) * 4 + 1 - 4 = j * 4 + 1 by omega, show (j + 1) * 4 + 2 - 4 = j * 4 + 2 by omega, show (j + 1) * 4 + 3 - 4 = j * 4 + 3 by omega]
    exact ⟨a, b, c, d⟩
theorem edges_own {w : World} {D n g cap : Nat} {es : List Edge} (h : w.ownsRow D 78 4 (.slice (some ⟨g, 0, none⟩) n cap) n (edgeCells es)) (hn : es.length = n) (hpos : 0 < n) : EdgesCells w w.heap.size g 0 es := by
  obtain ⟨g', cap', e, _, hlt⟩ := h.form hpos
  simp only [Value.slice.injEq, Option.some.injEq, Addr.mk.injEq, and_true, true_and] at e
  obtain ⟨rfl, rfl⟩ := e
  refine ⟨hlt, fun j hj => ?_⟩
  obtain ⟨a, b, c, d⟩ := edgeCells_get es j hj
  rw [Nat.zero_add, h.cellAt _ (by omega), h.cellAt _ (by omega), h.cellAt _ (by omega), h.cellAt _ (by omega)]
  exact ⟨a, b, c, d⟩
end Go.Proofs.Ytmgcbodlolnheaa
