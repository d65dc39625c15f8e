/-
  An argument of type [][]int, opened; 'laws.zzFits1': contract.
  'laws.path' once more: what it returns, block by block.
  Words for 'laws.stairs': two rows of ints of one's own, the halves of a list, the calls and the edges of several paths. No walk here.
  'laws.stairs': contract.
  Contracts of 'laws.zzFits1', 'laws.stairs' and 'spec.Winding' for any arguments.
-/
import Derived.Test.YtmgcbodlolnheaaSpec1
import Derived.Test.YtmgcbodlolnheaaEqual
import Derived.Test.YtmgcbodlolnheaaOps
import Derived.Deep.AppendLies
namespace Go.Proofs.Ytmgcbodlolnheaa
open Go.ChangeShapes Go.WideShapes Go.ChangeAt Go.RowKit Go.Deep
set_option linter.unusedVariables false

/-- Lists of ints, one behind the other. -/
def ListsCells (w : World) (B g off : Nat) (ls : List (List Int)) : Prop :=
  g < B ∧ ∀ j, (h : j < ls.length) → ∃ pv, w.cell? ⟨g, off + j, none⟩ = some pv ∧ IntsAt w B pv ls[j]
def ListsAt (w : World) (B : Nat) (v : Value) (ls : List (List Int)) : Prop :=
  ∃ (A : Option Addr) (cap : Nat), v = .slice A ls.length cap ∧ ls.length ≤ 9223372036854775807 ∧ (0 < ls.length → ∃ g off, A = some ⟨g, off, none⟩ ∧ ListsCells w B g off ls)
theorem ListsCells.kept {S : Nat → Prop} {w w' : World} {B g off : Nat} {ls : List (List Int)} (h : ListsCells w B g off ls) (hk : Kept S w w') (hB : B ≤ w.heap.size) (hS : ∀ k, k < B → ¬ S k) : ListsCells w' B g off ls := by
  refine ⟨h.1, fun j hj => ?_⟩
  obtain ⟨pv, a, b⟩ := h.2 j hj
  have hg : g < w.heap.size := Nat.lt_of_lt_of_le h.1 hB
  exact ⟨pv, by rw [hk.cell hg (hS _ h.1)]; exact a, b.kept hk hB hS⟩
def fitLists (ls : List (List Int)) : Bool := ls.all fun o => decide (o.length ≤ 2147483647)
theorem fitLists_take {ls : List (List Int)} {k : Nat} (h : k < ls.length) (a : fitLists (ls.take k) = true) (b : (ls[k]).length ≤ 2147483647) : fitLists (ls.take (k + 1)) = true := by
  unfold fitLists at *
  rw [List.take_succ_eq_append_getElem h, List.all_append, a]
  simpa using b
theorem fitLists_far {ls : List (List Int)} {k : Nat} (h : k < ls.length) (b : ¬ (ls[k]).length ≤ 2147483647) : fitLists ls = false := by
  unfold fitLists
  rw [List.all_eq_false]
  exact ⟨ls[k], List.getElem_mem h, by simpa using b⟩
set_option maxHeartbeats 1000000 in
set_option maxRecDepth 100000 in
theorem fits1_cons (ls : List (List Int)) (g off cap : Nat) (w : World) (hpos : 0 < ls.length) (hfit : ls.length ≤ 2147483647) (hp : ListsCells w w.heap.size g off ls) :
    Calls Try.prog 23 #[.slice (some ⟨g, off, none⟩) ls.length cap] w fun e w' => e = .returned (.bool (fitLists ls)) ∧ w = w' := by
  have HP := hid hp
  have h0 : ¬ (2147483647 : Int) < ls.length := by omega
  clear hp
  go_enter Try.func23, Try.ntmps23
  go_wp2_with fail
  go_loop [10] (fun i => ∃ k : Nat, k ≤ ls.length ∧ i = .int .i64 k ∧ fitLists (ls.take k) = true) (fun i => ls.length - (intOf i).toNat)
  case atStart => exact ⟨0, Nat.zero_le _, rfl, rfl⟩
  case round =>
    obtain ⟨k, hk, rfl, hn⟩ := hrel
    have HN := hid hn
    clear hn
    by_cases hlt : k < ls.length
    · obtain ⟨pv, c1, c2⟩ := HP.out.2 k hlt
      have hg : g < w.heap.size := HP.out.1
      have hnear := fun b => fitLists_take hlt HN.out b
      have hfar := fun b => fitLists_far hlt b
      generalize ls[k] = op at c2 hnear hfar
      obtain ⟨A, pcap, rfl, hl, _⟩ := id c2
      have HNE := hid hnear
      have HFA := hid hfar
      clear c2 hnear hfar
      by_cases hb : op.length ≤ 2147483647
      · have HNX := hid (HNE.out hb)
        have hb' : ¬ (2147483647 : Int) < op.length := by omega
        clear hb
        go_wp2_with fail
        go_round
        case measure => simp [intOf]; omega
        case rel => exact ⟨k + 1, by omega, by go_num, HNX.out⟩
      · have HF := hid (HFA.out hb)
        have hb' : (2147483647 : Int) < op.length := by omega
        clear hb
        go_wp2_with fail
        go_ret
        exact ⟨by rw [HF.out]; rfl, rfl⟩
    · obtain rfl : k = ls.length := by omega
      rw [List.take_of_length_le (Nat.le_refl _)] at HN
      go_wp2_with fail
      go_ret
      exact ⟨by rw [HN.out]; rfl, rfl⟩
theorem fits1_long (A : Option Addr) (n cap : Nat) (w : World) (h : (2147483647 : Int) < n) :
    Calls Try.prog 23 #[.slice A n cap] w fun e w' => e = .returned (.bool false) ∧ w = w' := by
  go_enter Try.func23, Try.ntmps23
  go_wp2_with fail
  go_ret
  exact ⟨rfl, rfl⟩
theorem fits1_none (A : Option Addr) (cap : Nat) (w : World) :
    Calls Try.prog 23 #[.slice A 0 cap] w fun e w' => e = .returned (.bool true) ∧ w = w' := by
  go_enter Try.func23, Try.ntmps23
  go_wp2_with fail
  go_loop [10] (fun i => i = .int .i64 0) (fun i => 0)
  case atStart => rfl
  case round =>
    subst hrel
    go_wp2_with fail
    go_ret
    exact ⟨rfl, rfl⟩
section
variable {H : Type} {enc : TypeId × Value → H} {w : World} {spare : Nat → Bool} {held : Bool}
theorem open_intsL {fuel : Nat} {v : Value} {x : DataW H × List MemPlace} (h : DataW.trod enc Try.prog w 0 spare held fuel 29 [v] = some x) : ∃ ps, IntsAt w w.heap.size v ps := by
  rcases open_slice1 Try.underlying29 cellsOf3 h with ⟨hcs, _⟩ | ⟨a, len, cap, m, n, V, D, Pl, hcs, hb, hl, hm, hmm, hx, hi⟩
  · simp only [List.cons.injEq, and_true] at hcs
    exact ⟨[], none, 0, hcs, by simp, fun h => by simp at h⟩
  · simp only [List.cons.injEq, and_true] at hcs
    subst hcs
    have hlm : len ≤ m := by rw [hmm]; split <;> omega
    have hel : ∀ i, i < len → ∃ p : Int, w.cell? (a.add i) = some (.int .i64 p) := by
      intro i hil
      obtain ⟨hc, ht⟩ := hi i (by omega)
      obtain ⟨p0, e0, _⟩ := DataW.trod_int Try.underlying3 ht
      simp only [List.cons.injEq, and_true] at e0
      exact ⟨p0, by rw [hc, e0]⟩
    obtain ⟨f, hfa⟩ := choose_lt (α := Int) hel
    refine ⟨(List.range len).map f, some a, cap, by simp, by simp; unfold maxLen at hm; omega, fun hp => ?_⟩
    have hp' : 0 < len := by simpa using hp
    obtain ⟨b, off, rfl⟩ := addr_plain (hfa 0 hp')
    have h0 := hfa 0 hp'
    rw [add_plain] at h0
    refine ⟨b, off, rfl, block_lt h0, fun j p hj => ?_⟩
    have hjl : j < len := by
      have := (List.getElem?_eq_some_iff.1 hj).1
      simpa using this
    have h1 := hfa j hjl
    rw [add_plain] at h1
    rw [h1]
    simp [hjl] at hj
    rw [hj]
set_option maxRecDepth 100000 in
theorem open_listsT {r : Reach} {b0 : Nat} {v : Value} {d : DataW H} {p : List MemPlace} (hv : Value.okWide Try.prog w r b0 38 v) (h0 : DataW.Trod enc Try.prog w 0 spare held 38 v d p) : ∃ ls, ListsAt w w.heap.size v ls := by
  obtain ⟨a0, len0, cap0, rfl⟩ := okWide_slice Try.underlying38 hv
  obtain ⟨fuel, hf0⟩ := h0
  have h : DataW.trod enc Try.prog w 0 spare held fuel 38 [.slice a0 len0 cap0] = some (d, p) := by simpa [Value.cells] using hf0
  rcases open_slice1 Try.underlying38 cellsOf29 h with ⟨hcs, _⟩ | ⟨a, len, cap, m, n, V, D, Pl, hcs, hb, hl, hm, hmm, hx, hi⟩
  · simp only [List.cons.injEq, and_true] at hcs
    exact ⟨[], none, 0, hcs, by simp, fun h => by simp at h⟩
  · simp only [List.cons.injEq, and_true] at hcs
    rw [hcs]
    have hlm : len ≤ m := by rw [hmm]; split <;> omega
    have hel : ∀ i, i < len → ∃ ps : List Int, w.cell? (a.add i) = some (V i) ∧ IntsAt w w.heap.size (V i) ps := by
      intro i hil
      obtain ⟨hc, ht⟩ := hi i (by omega)
      obtain ⟨ps, hps⟩ := open_intsL ht
      exact ⟨ps, hc, hps⟩
    obtain ⟨f, hfa⟩ := choose_lt (α := List Int) hel
    refine ⟨(List.range len).map f, some a, cap, by simp, by simp; unfold maxLen at hm; omega, fun hp => ?_⟩
    have hp' : 0 < len := by simpa using hp
    have h00 := (hfa 0 hp').1
    obtain ⟨b, off, rfl⟩ := addr_plain h00
    rw [add_plain] at h00
    refine ⟨b, off, rfl, block_lt h00, fun j hj => ?_⟩
    have hj' : j < len := by simpa using hj
    obtain ⟨x0, x2⟩ := hfa j hj'
    rw [add_plain] at x0
    simp only [List.getElem_map, List.getElem_range]
    exact ⟨V j, x0, x2⟩
end
end Go.Proofs.Ytmgcbodlolnheaa

namespace Go.Proofs.Ytmgcbodlolnheaa
open Go.ChangeShapes Go.WideShapes Go.ChangeAt Go.RowKit
set_option linter.unusedVariables false

theorem OpsOwn.append {w : World} {D : Nat} : ∀ {ops : List (Int × List Int)} {xs : List Value}, OpsOwn w D ops xs → ∀ {ops' : List (Int × List Int)} {xs' : List Value}, OpsOwn w D ops' xs' → OpsOwn w D (ops ++ ops') (xs ++ xs')
  | [], [], _, _, _, h' => h'
  | o' :: t, [], h, _, _, _ => h.elim
  | o' :: t, [a], h, _, _, _ => h.elim
  | o' :: t, a :: c :: r, h, _, _, h' => ⟨h.1, h.2.1, OpsOwn.append h.2.2 h'⟩
  | [], a :: r, h, _, _, _ => h.elim
theorem OpsOwn.lower {w : World} {D D' : Nat} (hD : D' ≤ D) : ∀ {ops : List (Int × List Int)} {xs : List Value}, OpsOwn w D ops xs → OpsOwn w D' ops xs
  | [], [], _ => trivial
  | o :: t, [], h => h.elim
  | o :: t, [a], h => h.elim
  | o :: t, a :: b :: r, h => ⟨h.1, (by rcases h.2.1 with h1 | ⟨g, h1, h2⟩; exact .inl h1; exact .inr ⟨g, Nat.le_trans hD h1, h2⟩), OpsOwn.lower hD h.2.2⟩
  | [], a :: r, h => h.elim
theorem path_endS {w wr w1 : World} {pts : List (Int × Int)} {v v' : Value} {xs : List Value} {t : TypeId} (hl : (lineOps pts).length = pts.length) (hlen : pts.length ≤ 1000000)
    (q1 : wr.ownsRow w.heap.size 31 2 v (lineOps pts).length xs) (q2 : OpsOwn wr w.heap.size (lineOps pts) xs) (q3 : Same w wr)
    (hown : w1.ownsRow w.heap.size 31 2 v' ((lineOps pts).length + 1) (xs ++ [.int .i64 4, .slice none 0 0]))
    (hg : (wr.alloc (.cells #[.int .i64 4, .slice none 0 0] t)).grownBy w1 v.ownBlock) : PathS w (pathOps pts) v' w1 := by
  exact PathS.next (o := (4, [])) (b := .slice none 0 0) (q1.alloc _) (OpsOwn.to (fun g cs _ h => h.alloc _) q2) (q3.alloc _) hown hg (.inl ⟨rfl, rfl⟩)

set_option maxHeartbeats 1000000 in
set_option maxRecDepth 100000 in
theorem path_consS (pts : List (Int × Int)) (g off cap : Nat) (w : World) (hpos : 0 < pts.length) (hlen : pts.length ≤ 1000000) (hp : PtsCells w w.heap.size g off pts) :
    Calls Try.prog 22 #[.slice (some ⟨g, off, none⟩) pts.length cap] w fun e w' => ∃ v, e = .returned v ∧ PathS w (pathOps pts) v w' := by
  have HP := hid hp
  clear hp
  obtain ⟨i0, hi, hz0, hz1, hz2⟩ := info_parts info31
  go_enter Try.func22, Try.ntmps22
  go_wp2_with fail
  go_loopw [3, 9] (fun v i wr => ∃ k : Nat, k ≤ pts.length ∧ i = .int .i64 k ∧ PathS w (lineOps (pts.take k)) v wr) (fun _ i _ => pts.length - (intOf i).toNat)
  case atStart => exact ⟨0, Nat.zero_le _, rfl, [], World.ownsRow_nil _ _ _ _, trivial, Kept.refl _ _⟩
  case round =>
    obtain ⟨k, hk, rfl, xs, q1, q2, q3⟩ := hrel
    have hll : (lineOps (pts.take k)).length = k := by rw [length_lineOps, List.length_take, Nat.min_eq_left hk]
    by_cases hlt : k < pts.length
    · have hpc := HP.out.kept q3 (Nat.le_refl _) (fun _ _ hf => hf)
      obtain ⟨c0, c1⟩ := hpc.2 k hlt
      have hg : g < wr.heap.size := Nat.lt_of_lt_of_le hpc.1 q3.size
      have hnext := lineOps_snoc hlt
      generalize hx : (pts[k]).1 = x at c0 hnext
      generalize hy : (pts[k]).2 = y at c1 hnext
      have HN := hid hnext
      have HLL := hid hll
      have Q1 := hid q1
      have Q2 := hid q2
      have Q3 := hid q3
      have hsz := q3.size
      clear hx hy hpc hnext hll q1 q2 q3
      obtain ⟨kd, hkd⟩ : ∃ kd : Int, kd = if k = 0 then 0 else 1 := ⟨_, rfl⟩
      rw [← hkd] at HN
      by_cases h0 : k = 0
      · rw [if_pos h0] at hkd
        subst hkd
        have h0' : ((k : Int) == 0) = true := by simp [h0]
        clear h0
        go_wp2_with (at_builtin; refine wpList_append_own _ rfl _ _ 25 rfl w.heap.size 31 i0 (.agg #[.int .i64 0, .slice none 0 0]) 2 32 Try.underlying25 hi hz0 hz1 hz2 rfl (by decide) _ _ _ rfl (((Q1.out.alloc _).alloc _).alloc _) ⟨wr.heap.size + 2, 0, none⟩ 1 1 [.int .i64 0, .slice (some ⟨wr.heap.size + 1, 0, none⟩) 2 2] rfl rfl ?c1 ?c2 ?c3 ?c4 ?c5 ?_)
        case c1 => exact cells_new3 _ _ _ _ _
        case c2 => intro u hu; simp at hu; rcases hu with rfl | rfl <;> rfl
        case c3 => rw [HLL.out]; unfold maxLen; omega
        case c4 => rw [HLL.out]; omega
        case c5 => simp; omega
        intro v' w1 hown' hgrow _
        have R := path_next (kd := 0) HN.out Q1.out Q2.out Q3.out hown' hgrow
        clear hown' hgrow
        go_wp2_with fail
        go_roundw
        case measure => simp [intOf]; omega
        case rel => exact ⟨k + 1, by omega, by go_num, R⟩
      · rw [if_neg h0] at hkd
        subst hkd
        have h0' : ((k : Int) == 0) = false := by simp [h0]
        clear h0
        go_wp2_with (at_builtin; refine wpList_append_own _ rfl _ _ 25 rfl w.heap.size 31 i0 (.agg #[.int .i64 0, .slice none 0 0]) 2 32 Try.underlying25 hi hz0 hz1 hz2 rfl (by decide) _ _ _ rfl (((Q1.out.alloc _).alloc _).alloc _) ⟨wr.heap.size + 2, 0, none⟩ 1 1 [.int .i64 1, .slice (some ⟨wr.heap.size + 1, 0, none⟩) 2 2] rfl rfl ?c1 ?c2 ?c3 ?c4 ?c5 ?_)
        case c1 => exact cells_new3 _ _ _ _ _
        case c2 => intro u hu; simp at hu; rcases hu with rfl | rfl <;> rfl
        case c3 => rw [HLL.out]; unfold maxLen; omega
        case c4 => rw [HLL.out]; omega
        case c5 => simp; omega
        intro v' w1 hown' hgrow _
        have R := path_next (kd := 1) HN.out Q1.out Q2.out Q3.out hown' hgrow
        clear hown' hgrow
        go_wp2_with fail
        go_roundw
        case measure => simp [intOf]; omega
        case rel => exact ⟨k + 1, by omega, by go_num, R⟩
    · obtain rfl : k = pts.length := by omega
      rw [List.take_of_length_le (Nat.le_refl _)] at q1 q2 hll
      have HLL := hid hll
      have Q1 := hid q1
      have Q2 := hid q2
      have Q3 := hid q3
      have hsz := q3.size
      clear q1 q2 q3 hll
      go_wp2_with (at_builtin; refine wpList_append_own _ rfl _ _ 25 rfl w.heap.size 31 i0 (.agg #[.int .i64 0, .slice none 0 0]) 2 32 Try.underlying25 hi hz0 hz1 hz2 rfl (by decide) _ _ _ rfl (Q1.out.alloc _) ⟨wr.heap.size, 0, none⟩ 1 1 [.int .i64 4, .slice none 0 0] rfl rfl ?c1 ?c2 ?c3 ?c4 ?c5 ?_)
      case c1 => exact cells_new1 _ _ _
      case c2 => intro u hu; simp at hu; rcases hu with rfl | rfl <;> rfl
      case c3 => rw [HLL.out]; unfold maxLen; omega
      case c4 => rw [HLL.out]; omega
      case c5 => simp; omega
      intro v' w1 hown' hgrow _
      have R := path_endS HLL.out (by omega) Q1.out Q2.out Q3.out hown' hgrow
      clear hown' hgrow
      have R2 := hid R
      clear R
      go_wp2_with fail
      go_ret
      exact ⟨_, rfl, R2.out⟩
end Go.Proofs.Ytmgcbodlolnheaa

namespace Go.Proofs.Ytmgcbodlolnheaa
open Go.ChangeShapes Go.WideShapes Go.ChangeAt Go.RowKit Go.Deep
set_option linter.unusedVariables false

theorem info3 : (Try.prog.info? 3).map (fun i => (i.zero, i.size, i.bytes)) = some (some (.int .i64 0), 1, 8) := by kernel_rfl
/-- Two rows of ints, from block D on, apart. -/
structure TwoS (w : World) (D : Nat) (v : Value) (xs : List Int) (v' : Value) (ys : List Int) (wr : World) : Prop where
  x : wr.ownsRow D 3 1 v xs.length (xs.map (Value.int .i64))
  y : wr.ownsRow D 3 1 v' ys.length (ys.map (Value.int .i64))
  apart : v.ownBlock = none ∨ v.ownBlock ≠ v'.ownBlock
  apart' : v'.ownBlock = none ∨ v'.ownBlock ≠ v.ownBlock
  base : w.heap.size ≤ D
  top : D ≤ wr.heap.size
  same : Same w wr
section
variable {w wr w1 : World} {D : Nat} {v v' : Value} {xs ys : List Int}
theorem TwoS.nil (w : World) : TwoS w w.heap.size (.slice none 0 0) [] (.slice none 0 0) [] w := ⟨World.ownsRow_nil _ _ _ _, World.ownsRow_nil _ _ _ _, .inl rfl, .inl rfl, Nat.le_refl _, Nat.le_refl _, Kept.refl _ _⟩
theorem TwoS.drew (h : TwoS w D v xs v' ys wr) : TwoS w D v xs v' ys wr.drew := ⟨h.x.drew, h.y.drew, h.apart, h.apart', h.base, h.top, h.same.drew⟩
theorem TwoS.drewN (h : TwoS w D v xs v' ys wr) (n : Nat) : TwoS w D v xs v' ys (wr.drewN n) := ⟨h.x, h.y, h.apart, h.apart', h.base, h.top, h.same.drewN n⟩
theorem TwoS.alloc (h : TwoS w D v xs v' ys wr) (o : Obj) : TwoS w D v xs v' ys (wr.alloc o) := ⟨h.x.alloc o, h.y.alloc o, h.apart, h.apart', h.base, by have := h.top; simp; omega, h.same.alloc o⟩
theorem TwoS.flip (h : TwoS w D v xs v' ys wr) : TwoS w D v' ys v xs wr := ⟨h.y, h.x, h.apart', h.apart, h.base, h.top, h.same⟩
/-- One more in the first row. -/
theorem TwoS.onto (h : TwoS w D v xs v' ys wr) {x : Int} {g cap H : Nat} (hown : w1.ownsRow D 3 1 (.slice (some ⟨g, 0, none⟩) (xs.length + 1) cap) (xs.length + 1) (xs.map (Value.int .i64) ++ [.int .i64 x]))
    (hgrow : wr.grownBy w1 v.ownBlock) (hat : v.ownBlock = some g ∨ g = H) (hH : wr.heap.size = H) : TwoS w D (.slice (some ⟨g, 0, none⟩) (xs.length + 1) cap) (xs ++ [x]) v' ys w1 := by
  have hne : some g ≠ v'.ownBlock := by
    intro he
    rcases hat with h1 | h1
    · rcases h.apart with h2 | h2
      · rw [h1] at h2; cases h2
      · exact h2 (h1.trans he)
    · have := (h.y.lt g he.symm).2
      omega
  refine ⟨by simpa using hown, h.y.kept hgrow h.apart', .inr hne, .inr (Ne.symm hne), h.base, Nat.le_trans h.top hgrow.size, h.same.grown hgrow fun k hk => .inl (Nat.le_trans h.base (h.x.lt k hk).1)⟩
theorem TwoS.onto' (h : TwoS w D v xs v' ys wr) {y : Int} {g cap H : Nat} (hown : w1.ownsRow D 3 1 (.slice (some ⟨g, 0, none⟩) (ys.length + 1) cap) (ys.length + 1) (ys.map (Value.int .i64) ++ [.int .i64 y]))
    (hgrow : wr.grownBy w1 v'.ownBlock) (hat : v'.ownBlock = some g ∨ g = H) (hH : wr.heap.size = H) : TwoS w D v xs (.slice (some ⟨g, 0, none⟩) (ys.length + 1) cap) (ys ++ [y]) w1 :=
  (h.flip.onto hown hgrow hat hH).flip
/-- A value of each row turned. -/
theorem TwoS.stored {g cap n : Nat} (h : TwoS w D (.slice (some ⟨g, 0, none⟩) n cap) xs v' ys wr) (hn : n = xs.length) (j : Nat) (u : Int) :
    TwoS w D (.slice (some ⟨g, 0, none⟩) n cap) (xs.set j u) v' ys (wr.setCell ⟨g, j, none⟩ (.int .i64 u)) := by
  subst hn
  obtain ⟨a, b⟩ := h.x.stored j (.int .i64 u)
  refine ⟨by simpa [List.map_set] using a, h.y.kept b (by simpa [Value.ownBlock] using h.apart'), h.apart, h.apart', h.base, Nat.le_trans h.top b.size, h.same.grown b fun k hk => ?_⟩
  simp only [Option.some.injEq] at hk
  subst hk
  exact .inl (Nat.le_trans h.base (h.x.lt g rfl).1)
end

theorem grown_at {W w1 : World} {row : Option Nat} {B : Nat} {o : Obj} (hg : W.grownBy w1 row) (hb : W.heap[B]? = some o) (hr : some B ≠ row) : w1.heap[B]? = some o := by
  refine (hg.block B ?_ hr).trans hb
  rcases Nat.lt_or_ge B W.heap.size with h | h
  · exact h
  · rw [Array.getElem?_eq_none h] at hb; cases hb
theorem grown_new {W w1 : World} {row : Option Nat} {B b : Nat} {o : Obj} (hg : W.grownBy w1 row) (hb : W.heap[B]? = some o) (hr : ∀ k, row = some k → b ≤ k ∧ k < B) : w1.heap[B]? = some o :=
  grown_at hg hb fun he => by have := (hr B he.symm).2; omega
/-- 'append' of one int to the first row, at a step of a region that draws. -/
theorem step_twoX {ops : Array Oper} {o : Oper} {a : Act} {K : Act → World → Prop} {Q : Exit → Act → World → Prop} {E : Prop} {W w : World} {D B c : Nat} {v v' : Value} {xs ys : List Int} {u : Int}
    (hT : TwoS w D v xs v' ys W) (hB : W.heap[B]? = some (.cells #[.int .i64 u] 3 (0, 0))) (hlen : xs.length ≤ 2147483647) (hgd : o.guard = none) (s x : Operand)
    (ho : o.op = .call { callee := .builtin .append, args := #[s, x], argTypes := #[29, 29] }) (hs : a.eval s = v) (hx : a.eval x = .slice (some ⟨B, 0, none⟩) 1 c)
    (h : ∀ g cap w1, TwoS w D (.slice (some ⟨g, 0, none⟩) (xs.length + 1) cap) (xs ++ [u]) v' ys w1 → W.grownBy w1 v.ownBlock → K (a.put o.dst (.slice (some ⟨g, 0, none⟩) (xs.length + 1) cap)) w1) :
    if Region.wanted o (yielded ops a.tmps) = true then Oper.wp Try.prog o a W K Q else E := by
  obtain ⟨i0, hi, hz0, hz1, hz2⟩ := info_parts info3
  refine step_append_lies W hgd s x 29 ho D 3 i0 _ 1 8 Try.underlying29 hi hz0 hz1 hz2 rfl (by omega) v xs.length _ hs hT.x ⟨B, 0, none⟩ 1 c [.int .i64 u] hx rfl (World.news_of_block hB) (by simp [Value.oneCell']) (by omega) (by unfold maxLen; omega) (by omega) hT.top _ rfl ?_
  intro g cap w1 h1 h2 h3 _
  exact h g cap w1 (hT.onto h1 h2 h3 rfl) h2
theorem step_twoY {ops : Array Oper} {o : Oper} {a : Act} {K : Act → World → Prop} {Q : Exit → Act → World → Prop} {E : Prop} {W w : World} {D B c : Nat} {v v' : Value} {xs ys : List Int} {u : Int}
    (hT : TwoS w D v xs v' ys W) (hB : W.heap[B]? = some (.cells #[.int .i64 u] 3 (0, 0))) (hlen : ys.length ≤ 2147483647) (hgd : o.guard = none) (s x : Operand)
    (ho : o.op = .call { callee := .builtin .append, args := #[s, x], argTypes := #[29, 29] }) (hs : a.eval s = v') (hx : a.eval x = .slice (some ⟨B, 0, none⟩) 1 c)
    (h : ∀ g cap w1, TwoS w D v xs (.slice (some ⟨g, 0, none⟩) (ys.length + 1) cap) (ys ++ [u]) w1 → W.grownBy w1 v'.ownBlock → K (a.put o.dst (.slice (some ⟨g, 0, none⟩) (ys.length + 1) cap)) w1) :
    if Region.wanted o (yielded ops a.tmps) = true then Oper.wp Try.prog o a W K Q else E :=
  step_twoX hT.flip hB hlen hgd s x ho hs hx fun g cap w1 h1 h2 => h g cap w1 h1.flip h2
theorem alloc_second (w : World) (o1 o2 : Obj) : ((w.alloc o1).alloc o2).heap[w.heap.size + 1]? = some o2 := by
  have h := heap_alloc_new (w.alloc o1) o2
  simpa using h
theorem alloc_first (w : World) (o1 o2 : Obj) : ((w.alloc o1).alloc o2).heap[w.heap.size]? = some o1 := by
  refine (Below.heap_alloc (w.alloc o1) o2 w.heap.size (by simp)).trans (heap_alloc_new w o1)
theorem some_getD {l : List Int} {j : Nat} (h : j < l.length) : l[j]? = some (l.getD j 0) := by simp [List.getD, h]

/-! ### the halves of a list -/
def stN (l : List Int) : Nat := l.length / 2
def stX (l : List Int) : List Int := l.take (stN l)
def stY (l : List Int) : List Int := (l.drop (stN l)).take (stN l)
def sc (l : List Int) : List Int := l.map fun x => 64 * x
theorem length_stX (l : List Int) : (stX l).length = stN l := by simp [stX, stN]; omega
theorem length_stY (l : List Int) : (stY l).length = stN l := by simp [stY, stN]; omega
def farXY (xs ys : List Int) : Bool := (xs.zip ys).any fun p => beyondB p.1 4000 || beyondB p.2 4000
/-- Are these lists ones of which the statement speaks (so many steps being done before)? -/
def stTest : List (List Int) → Nat → Bool
  | [], _ => true
  | l :: t, all => !farXY (stX l) (stY l) && decide (2 ≤ stN l) && decide (all + stN l ≤ 4000) && stTest t (all + stN l)
def stPts (l : List Int) : List (Int × Int) := stairsTo (sc (stX l)) (sc (stY l)) (stN l)
def stOps (ls : List (List Int)) : List (Int × List Int) := ls.flatMap fun l => pathOps (stPts l)
def stEdges (ls : List (List Int)) : List Edge := ls.flatMap fun l => polyTo (stPts l) (stPts l).length
def stAll (ls : List (List Int)) : Nat := (ls.map stN).sum
theorem stOps_snoc (ls : List (List Int)) (l : List Int) : stOps (ls ++ [l]) = stOps ls ++ pathOps (stPts l) := by simp [stOps]
theorem stEdges_snoc (ls : List (List Int)) (l : List Int) : stEdges (ls ++ [l]) = stEdges ls ++ polyTo (stPts l) (stPts l).length := by simp [stEdges]
theorem stAll_snoc (ls : List (List Int)) (l : List Int) : stAll (ls ++ [l]) = stAll ls + stN l := by simp [stAll]
theorem edgeCells_append (a b : List Edge) : edgeCells (a ++ b) = edgeCells a ++ edgeCells b := by simp [edgeCells]
theorem length_edgeCells (a : List Edge) : (edgeCells a).length = a.length * 4 := by
  induction a with
  | nil => rfl
  | cons e t ih => simp only [edgeCells, List.flatMap_cons, List.length_append, List.length_cons, List.length_nil] at ih ⊢; omega
theorem length_stairsTo (xs ys : List Int) : ∀ k, (stairsTo xs ys k).length = k * 2
  | 0 => by simp [stairsTo]
  | k + 1 => by rw [stairsTo_succ, List.length_append, length_stairsTo xs ys k]; simp; omega
theorem length_stPts (l : List Int) : (stPts l).length = stN l * 2 := length_stairsTo _ _ _
theorem length_polyTo (pts : List (Int × Int)) (k : Nat) : (polyTo pts k).length = k := by simp [polyTo]
theorem length_pathOps (pts : List (Int × Int)) : (pathOps pts).length = pts.length + 1 := by simp [pathOps, length_lineOps]

theorem farXY_of {X Y : List Int} {k : Nat} (hx : k < X.length) (hy : k < Y.length) (h : beyondB (X.getD k 0) 4000 = true ∨ beyondB (Y.getD k 0) 4000 = true) : farXY X Y = true := by
  unfold farXY
  rw [List.any_eq_true]
  refine ⟨(X[k], Y[k]), ?_, ?_⟩
  · rw [List.mem_iff_getElem]
    exact ⟨k, by simp; omega, by simp⟩
  · simpa [List.getD, hx, hy] using h
theorem farXY_take {X Y : List Int} {k : Nat} (hx : k < X.length) (hy : k < Y.length) (h0 : farXY (X.take k) (Y.take k) = false) (h1 : beyondB (X.getD k 0) 4000 = false) (h2 : beyondB (Y.getD k 0) 4000 = false) : farXY (X.take (k + 1)) (Y.take (k + 1)) = false := by
  unfold farXY at *
  rw [List.take_succ_eq_append_getElem hx, List.take_succ_eq_append_getElem hy, List.zip_append (by simp; omega), List.any_append, h0]
  simp [List.getD, hx, hy] at h1 h2
  simp [h1, h2]
theorem sc_step {X : List Int} {k : Nat} (h : k < X.length) : (sc (X.take k) ++ X.drop k).set k (64 * X.getD k 0) = sc (X.take (k + 1)) ++ X.drop (k + 1) := by
  have hl : (sc (X.take k)).length = k := by simp [sc]; omega
  rw [List.set_append_right _ _ (by omega), hl, Nat.sub_self, List.drop_eq_getElem_cons h, List.set_cons_zero, List.take_succ_eq_append_getElem h]
  unfold sc
  rw [List.map_append, List.append_assoc]
  congr 1
  simp [List.getD, h]
theorem sc_at {X : List Int} {k : Nat} (h : k < X.length) : (sc (X.take k) ++ X.drop k)[k]? = some (X.getD k 0) := by
  have hl : (sc (X.take k)).length = k := by simp [sc]; omega
  rw [List.getElem?_append_right (by omega), hl, Nat.sub_self]
  simp [List.getD, h]
theorem length_scs {X : List Int} {k : Nat} : (sc (X.take k) ++ X.drop k).length = X.length := by simp [sc]; omega
/-- A row of another element type is not touched where a row grows. -/
theorem own_other {w w' : World} {D D' n n' k k' t t' : Nat} {v v' : Value} {xs xs' : List Value} (h : w.ownsRow D t k v n xs) (h' : w.ownsRow D' t' k' v' n' xs') (ht : t ≠ t') (hg : w.grownBy w' v'.ownBlock) : w'.ownsRow D t k v n xs := by
  refine h.kept hg ?_
  rcases h.2 with ⟨rfl, _⟩ | ⟨g, cap, cur, rfl, _, hb, _⟩
  · exact .inl rfl
  · right
    intro he
    rcases h'.2 with ⟨rfl, _⟩ | ⟨g', cap', cur', rfl, _, hb', _⟩
    · simp [Value.ownBlock] at he
    · simp only [Value.ownBlock, Option.some.injEq] at he
      subst he
      exact ht ((show Blk w g t cur from hb).eq_ (show Blk w g t' cur' from hb')).1
/-- Blocks of another element type are as they were. -/
theorem grown_blk {w w' : World} {D n k t : Nat} {v : Value} {xs : List Value} {g t' : Nat} {cs : Array Value} (h : w.ownsRow D t k v n xs) (hg : w.grownBy w' v.ownBlock) (ht : t' ≠ t) (hb : Blk w g t' cs) : Blk w' g t' cs := by
  refine (hg.block g hb.lt fun he => ?_).trans hb
  rcases h.2 with ⟨rfl, _⟩ | ⟨g', cap, cur, rfl, _, hb', _⟩
  · simp [Value.ownBlock] at he
  · simp only [Value.ownBlock, Option.some.injEq] at he
    subst he
    exact ht (hb.eq_ (show Blk w g t cur from hb')).1
theorem opsOwn_cells {w : World} {D : Nat} : ∀ {ops : List (Int × List Int)} {xs : List Value}, OpsOwn w D ops xs → ∀ u ∈ xs, u.oneCell' = true
  | [], [], _, u, hu => by simp at hu
  | o :: t, [], h, _, _ => h.elim
  | o :: t, [a], h, _, _ => h.elim
  | o :: t, a :: b :: r, h, u, hu => by
    rcases List.mem_cons.1 hu with rfl | hu
    · rw [h.1]; rfl
    · rcases List.mem_cons.1 hu with rfl | hu
      · rcases h.2.1 with ⟨_, rfl⟩ | ⟨g, _, _, rfl, _⟩ <;> rfl
      · exact opsOwn_cells h.2.2 u hu
  | [], a :: r, h, _, _ => h.elim
theorem edgeCells_one (l : List Edge) : ∀ u ∈ edgeCells l, u.oneCell' = true := by
  intro u hu
  simp only [edgeCells, List.mem_flatMap] at hu
  obtain ⟨e, _, hu⟩ := hu
  simp only [List.mem_cons, List.not_mem_nil, or_false] at hu
  rcases hu with rfl | rfl | rfl | rfl <;> rfl
theorem own_sameW {w w' : World} {D n k t : Nat} {v : Value} {xs : List Value} (h : w.ownsRow D t k v n xs) (hs : Same w w') : w'.ownsRow D t k v n xs := by
  refine h.kept (row := none) ⟨hs.os, hs.tape, hs.output, hs.size, fun k hk _ => hs.block k hk fun h => h⟩ ?_
  cases v.ownBlock with
  | none => exact .inl rfl
  | some g => exact .inr (by simp)
theorem intsCells_own {w : World} {D n g cap : Nat} {l : List Int} (h : w.ownsRow D 3 1 (.slice (some ⟨g, 0, none⟩) n cap) n (l.map (Value.int .i64))) (hn : l.length = n) (hpos : 0 < n) : IntsCells w w.heap.size g 0 l := by
  obtain ⟨g', cap', e, _, hlt⟩ := h.form hpos
  simp only [Value.slice.injEq, Option.some.injEq, Addr.mk.injEq, and_true, true_and] at e
  obtain ⟨rfl, rfl⟩ := e
  refine ⟨hlt, fun j hj => ?_⟩
  rw [Nat.zero_add, h.cellAt j (by omega)]
  simp [hj]
theorem opsOwn_same {w w' : World} {D : Nat} {ops : List (Int × List Int)} {xs : List Value} (h : OpsOwn w D ops xs) (hs : Same w w') : OpsOwn w' D ops xs := h.to fun g cs _ hb => hs.blk hb fun h => h
/-- What holds of the calls and the edges so far. -/
structure StS (w : World) (ls : List (List Int)) (v v' : Value) (wr : World) : Prop where
  ops : ∃ xs, wr.ownsRow w.heap.size 31 2 v (stOps ls).length xs ∧ OpsOwn wr w.heap.size (stOps ls) xs
  edges : wr.ownsRow w.heap.size 78 4 v' (stEdges ls).length (edgeCells (stEdges ls))
  same : Same w wr
/-- What 'laws.stairs' answers. -/
def StairsRes (w : World) (ls : List (List Int)) (e : Ending) (w' : World) : Prop :=
  ∃ v v' b, e = .returned (.tuple #[v, v', .bool b]) ∧ b = stTest ls 0 ∧ (b = true → StS w ls v v' w') ∧ Same w w'
theorem length_stOps : ∀ ls : List (List Int), (stOps ls).length = 2 * stAll ls + ls.length
  | [] => rfl
  | l :: t => by
    have h := length_stOps t
    simp only [stOps, stAll, List.flatMap_cons, List.length_append, List.map_cons, List.sum_cons, List.length_cons, length_pathOps, length_stPts] at h ⊢
    omega
theorem length_stEdges : ∀ ls : List (List Int), (stEdges ls).length = 2 * stAll ls
  | [] => rfl
  | l :: t => by
    have h := length_stEdges t
    simp only [stEdges, stAll, List.flatMap_cons, List.length_append, List.map_cons, List.sum_cons, length_polyTo, length_stPts] at h ⊢
    omega
/-- One more list: the calls. -/
theorem stS_ops {w2 w3 : World} {D n n2 : Nat} {v : Value} {xs xs2 : List Value} {ops ops2 : List (Int × List Int)} (hD : D ≤ n2)
    (h1 : w2.ownsRow D 31 2 v n xs) (h2 : OpsOwn w2 D ops xs) (k2 : OpsOwn w2 n2 ops2 xs2) (hg : w2.grownBy w3 v.ownBlock) : OpsOwn w3 D (ops ++ ops2) (xs ++ xs2) :=
  (h2.append (k2.lower hD)).to fun g cs _ hb => grown_blk h1 hg (by decide) hb
theorem grown_same {w0 w w' : World} {D t k n : Nat} {v : Value} {xs : List Value} (h : w.ownsRow D t k v n xs) (hD : w0.heap.size ≤ D) (hs : Same w0 w) (hg : w.grownBy w' v.ownBlock) : Same w0 w' :=
  hs.grown hg fun k hk => .inl (Nat.le_trans hD (h.lt k hk).1)
end Go.Proofs.Ytmgcbodlolnheaa

namespace Go.Proofs.Ytmgcbodlolnheaa
open Go.ChangeShapes Go.WideShapes Go.ChangeAt Go.RowKit Go.Deep
set_option linter.unusedVariables false

set_option maxHeartbeats 4000000 in
set_option maxRecDepth 100000 in
theorem stairsOps_cons (ls : List (List Int)) (g off cap : Nat) (w : World) (hpos : 0 < ls.length) (hlen : ls.length ≤ 100) (hfit : fitLists ls = true) (hp : ListsCells w w.heap.size g off ls) :
    Calls Try.prog 24 #[.slice (some ⟨g, off, none⟩) ls.length cap] w (StairsRes w ls) := by
  have HP := hid hp
  have HFIT := hid hfit
  clear hp hfit
  obtain ⟨i0, hi, hz0, hz1, hz2⟩ := info_parts info3
  obtain ⟨i31, hi31, hz310, hz311, hz312⟩ := info_parts info31
  obtain ⟨i78, hi78, hz780, hz781, hz782⟩ := info_parts info78
  go_enter Try.func24, Try.ntmps24
  go_wp2_with fail
  go_loopw [2, 3, 5, 19] (fun v v' al i wr => ∃ k : Nat, k ≤ ls.length ∧ i = .int .i64 k ∧ al = .int .i64 (stAll (ls.take k)) ∧ stAll (ls.take k) ≤ 4000 ∧ stTest ls 0 = stTest (ls.drop k) (stAll (ls.take k)) ∧ StS w (ls.take k) v v' wr) (fun _ _ _ i _ => ls.length - (intOf i).toNat)
  case atStart => exact ⟨0, Nat.zero_le _, rfl, rfl, by simp [stAll], rfl, ⟨[], World.ownsRow_nil _ _ _ _, trivial⟩, World.ownsRow_nil _ _ _ _, Kept.refl _ _⟩
  case round =>
    obtain ⟨k, hk, rfl, rfl, h4000, htest, hst⟩ := hrel
    by_cases hlt : k < ls.length
    · obtain ⟨pv, c1, c2⟩ := (HP.out.kept hst.same (Nat.le_refl _) (fun _ _ hf => hf)).2 k hlt
      have hg : g < wr.heap.size := Nat.lt_of_lt_of_le HP.out.1 hst.same.size
      have htk : ls.take (k + 1) = ls.take k ++ [ls[k]] := List.take_succ_eq_append_getElem hlt
      have hdr : ls.drop k = ls[k] :: ls.drop (k + 1) := List.drop_eq_getElem_cons hlt
      have hfl : (ls[k]).length ≤ 2147483647 := by
        have := List.all_eq_true.1 HFIT.out _ (List.getElem_mem hlt)
        simpa using this
      generalize ls[k] = l at c2 htk hdr hfl
      obtain ⟨A, pcap, rfl, hl, hA⟩ := id c2
      obtain ⟨n, hn⟩ : ∃ n, n = stN l := ⟨_, rfl⟩
      have hq : (l.length : Int).tdiv 2 = n := by rw [hn, stN]; exact (Int.ofNat_tdiv l.length 2).symm
      have hnl : n + n ≤ l.length := by rw [hn, stN]; omega
      obtain ⟨al, hal⟩ : ∃ al, al = stAll (ls.take k) := ⟨_, rfl⟩
      have hal2 : stAll (ls.take (k + 1)) = al + n := by rw [htk, stAll_snoc, ← hal, ← hn]
      rw [← hal] at h4000 htest ⊢
      have HTK := hid htk
      have HDR := hid hdr
      have HTE := hid htest
      have HST := hid hst
      have HN := hid hn
      have HA := hid hA
      have HAL := hid hal2
      have HAL0 := hid hal
      have hw1 : IntKind.i64.wrap ((al : Int) + (n : Int)) = (al : Int) + (n : Int) := IntWalk.i64_in _ (by omega)
      have hsz := hst.same.size
      clear htk hdr htest hst hn hA hal hal2 c2
      obtain ⟨wo, hwo⟩ : ∃ wo : World, wo = wr := ⟨_, rfl⟩
      subst hwo
      go_wp2_with fail
      go_loopw [9, 10, 30] (fun v9 v10 i wx => ∃ j : Nat, j ≤ n ∧ i = .int .i64 j ∧ TwoS wo wo.heap.size v9 ((stX l).take j) v10 ((stY l).take j) wx) (fun _ _ i _ => n - (intOf i).toNat)
      case atStart => exact ⟨0, Nat.zero_le _, rfl, TwoS.nil _⟩
      case round =>
        obtain ⟨j, hj, rfl, h2⟩ := hrel
        by_cases hjn : j < n
        · obtain ⟨gl, ol, rfl, hgl, hcl⟩ := HA.out (by omega)
          have hsw : w.heap.size ≤ wr.heap.size := Nat.le_trans hsz h2.same.size
          have hglr : gl < wo.heap.size := Nat.lt_of_lt_of_le hgl hsz
          have e0 : wo.cell? ⟨gl, ol + j, none⟩ = some (.int .i64 (l.getD j 0)) := hcl j _ (some_getD (by omega))
          have e1 : wo.cell? ⟨gl, ol + (n + j), none⟩ = some (.int .i64 (l.getD (n + j) 0)) := hcl (n + j) _ (some_getD (by omega))
          have d0 : wr.cell? ⟨gl, ol + j, none⟩ = some (.int .i64 (l.getD j 0)) := by
            rw [h2.same.cell hglr (fun h => h)]
            exact hcl j _ (some_getD (by omega))
          have d1 : wr.cell? ⟨gl, ol + (n + j), none⟩ = some (.int .i64 (l.getD (n + j) 0)) := by
            rw [h2.same.cell hglr (fun h => h)]
            exact hcl (n + j) _ (some_getD (by omega))
          have hsz2 := h2.same.size
          have hgr : gl < wr.heap.size := Nat.lt_of_lt_of_le hglr h2.same.size
          have ex : (stX l).take (j + 1) = (stX l).take j ++ [l.getD j 0] := by
            rw [List.take_succ_eq_append_getElem (by rw [length_stX, ← HN.out]; exact hjn)]
            congr 2
            simp [stX, List.getD, show j < l.length by omega]
          have ey : (stY l).take (j + 1) = (stY l).take j ++ [l.getD (n + j) 0] := by
            rw [List.take_succ_eq_append_getElem (by rw [length_stY, ← HN.out]; exact hjn)]
            congr 2
            simp [stY, List.getD, ← HN.out, show n + j < l.length by omega]
          have lx : ((stX l).take j).length = j := by rw [List.length_take, length_stX, ← HN.out]; omega
          have ly : ((stY l).take j).length = j := by rw [List.length_take, length_stY, ← HN.out]; omega
          have EX := hid ex
          have EY := hid ey
          clear ex ey hcl
          generalize (stX l).take j = xs at h2 lx EX
          generalize (stY l).take j = ys at h2 ly EY
          generalize l.getD j 0 = x at d0 e0 EX
          generalize l.getD (n + j) 0 = y at d1 e1 EY
          have H2 := hid h2
          clear h2
          have hij0 : IntKind.i64.wrap ((n : Int) + (j : Int)) = (n : Int) + (j : Int) := IntWalk.i64_in _ (by omega)
          obtain ⟨q, hq'⟩ : ∃ q, q = n + j := ⟨_, rfl⟩
          have hij : IntKind.i64.wrap ((n : Int) + (j : Int)) = (q : Int) := by rw [hij0]; omega
          clear hij0
          rw [← hq'] at d1 e1
          have D0 := hid e0
          have D1 := hid e1
          clear e0 e1
          have hql : q < l.length := by omega
          have HQ := hid hq'
          clear hq'
          have hqi2 : (q : Int) < l.length := by omega
          have hji : (j : Int) < l.length := by omega
          go_wp2_with fail
          go_region_held3 (fun w' => w'.cell? ⟨gl, ol + j, none⟩ = some (.int .i64 x) ∧ w'.cell? ⟨gl, ol + q, none⟩ = some (.int .i64 y))
            (first
              | go_keep
              | exact ⟨(H4.out.same.cell hglr (fun h => h)).trans D0.out, (H4.out.same.cell hglr (fun h => h)).trans D1.out⟩
              | exact ⟨(H3.out.same.cell hglr (fun h => h)).trans D0.out, (H3.out.same.cell hglr (fun h => h)).trans D1.out⟩)
            (first
              | (refine step_twoX (by first | exact H3.out | exact (H3.out.alloc _) | exact ((H2.out.alloc _).drew) | exact (((H2.out.alloc _).alloc _).drew)) (by first | exact HB.out | exact heap_alloc_new wr _ | exact alloc_first wr (.cells #[.int .i64 x] 3) (.cells #[.int .i64 y] 3) | exact alloc_second wr (.cells #[.int .i64 y] 3) (.cells #[.int .i64 x] 3) | exact heap_alloc_new w1 _) (by omega) (by rfl) _ _ (by rfl) (by rfl) (by rfl) ?_
                 intro gg cap w1 H hgrow
                 first
                   | (have HH := H3.out
                      have H4 := hid H)
                   | (have H3 := hid H
                      first
                        | (have HB := hid (grown_new hgrow (alloc_second wr (.cells #[.int .i64 x] 3) (.cells #[.int .i64 y] 3)) (fun k hk => by have h9 := H2.out.x.lt k hk; exact ⟨Nat.zero_le _, by omega⟩)))
                        | (have HB := hid (grown_new hgrow (alloc_first wr (.cells #[.int .i64 y] 3) (.cells #[.int .i64 x] 3)) (fun k hk => ⟨Nat.zero_le _, (H2.out.x.lt k hk).2⟩)))
                        | skip))
              | (refine step_twoY (by first | exact H3.out | exact (H3.out.alloc _) | exact ((H2.out.alloc _).drew) | exact (((H2.out.alloc _).alloc _).drew)) (by first | exact HB.out | exact heap_alloc_new wr _ | exact alloc_first wr (.cells #[.int .i64 y] 3) (.cells #[.int .i64 x] 3) | exact alloc_second wr (.cells #[.int .i64 x] 3) (.cells #[.int .i64 y] 3) | exact heap_alloc_new w1 _) (by omega) (by rfl) _ _ (by rfl) (by rfl) (by rfl) ?_
                 intro gg cap w1 H hgrow
                 first
                   | (have HH := H3.out
                      have H4 := hid H)
                   | (have H3 := hid H
                      first
                        | (have HB := hid (grown_new hgrow (alloc_second wr (.cells #[.int .i64 y] 3) (.cells #[.int .i64 x] 3)) (fun k hk => by have h9 := H2.out.y.lt k hk; exact ⟨Nat.zero_le _, by omega⟩)))
                        | (have HB := hid (grown_new hgrow (alloc_first wr (.cells #[.int .i64 x] 3) (.cells #[.int .i64 y] 3)) (fun k hk => ⟨Nat.zero_le _, (H2.out.y.lt k hk).2⟩)))
                        | skip)))
          all_goals
            go_wp2_with fail
            go_roundw
            case measure => simp [intOf]; omega
            case rel => exact ⟨j + 1, by omega, by go_num, by have h9 := H4.out; rw [lx, ly] at h9; rw [EX.out, EY.out]; exact h9⟩
        · obtain rfl : j = n := by omega
          rw [List.take_of_length_le (by rw [length_stX, ← HN.out]; omega), List.take_of_length_le (by rw [length_stY, ← HN.out]; omega)] at h2
          have lx : (stX l).length = j := by rw [length_stX, ← HN.out]
          have ly : (stY l).length = j := by rw [length_stY, ← HN.out]
          obtain ⟨X, hX⟩ : ∃ X, X = stX l := ⟨_, rfl⟩
          obtain ⟨Y, hY⟩ : ∃ Y, Y = stY l := ⟨_, rfl⟩
          rw [← hX] at h2 lx
          rw [← hY] at h2 ly
          have H2 := hid h2
          have HX := hid hX
          have HY := hid hY
          clear h2 hX hY
          go_wp2_with fail
          go_loopw [2, 3, 51] (fun v2 v3 i wx => ∃ k : Nat, k ≤ j ∧ i = .int .i64 k ∧ v2 = u2 ∧ v3 = u3 ∧ TwoS wo wo.heap.size u9 (sc (X.take k) ++ X.drop k) u10 (sc (Y.take k) ++ Y.drop k) wx ∧ farXY (X.take k) (Y.take k) = false) (fun _ _ i _ => j - (intOf i).toNat)
          case atStart => exact ⟨0, Nat.zero_le _, rfl, rfl, rfl, by simpa [sc] using H2.out, rfl⟩
          case round =>
            obtain ⟨k2, hk2, rfl, rfl, rfl, h2, hfar⟩ := hrel
            by_cases hk2j : k2 < j
            · obtain ⟨gx, cx, ex, hgx1, hgx2⟩ := h2.x.form (by rw [length_scs]; omega)
              obtain ⟨gy, cy, ey, hgy1, hgy2⟩ := h2.y.form (by rw [length_scs]; omega)
              rw [length_scs, lx] at ex
              rw [length_scs, ly] at ey
              subst ex ey
              have hX0 : wr.cell? ⟨gx, k2, none⟩ = some (.int .i64 (X.getD k2 0)) := by
                have h9 := h2.x
                rw [length_scs, lx] at h9
                rw [h9.cellAt k2 (by omega), List.getElem?_map, sc_at (by omega)]
                rfl
              have hY0 : wr.cell? ⟨gy, k2, none⟩ = some (.int .i64 (Y.getD k2 0)) := by
                have h9 := h2.y
                rw [length_scs, ly] at h9
                rw [h9.cellAt k2 (by omega), List.getElem?_map, sc_at (by omega)]
                rfl
              have hzX : wr.frozen? ⟨gx, k2, none⟩ = false := by
                have h9 := h2.x
                rw [length_scs, lx] at h9
                exact h9.frozenAt k2
              have hzY : wr.frozen? ⟨gy, k2, none⟩ = false := by
                have h9 := h2.y
                rw [length_scs, ly] at h9
                exact h9.frozenAt k2
              have hne : gx ≠ gy := by
                rcases h2.apart with h9 | h9
                · cases h9
                · intro he; subst he; exact h9 rfl
              have hstepX := sc_step (X := X) (k := k2) (by omega)
              have hstepY := sc_step (X := Y) (k := k2) (by omega)
              have hf2 := fun h9 => farXY_of (X := X) (Y := Y) (k := k2) (by omega) (by omega) h9
              have hf1 := farXY_take (X := X) (Y := Y) (k := k2) (by omega) (by omega) hfar
              generalize X.getD k2 0 = x at hX0 hstepX hf2 hf1
              generalize Y.getD k2 0 = y at hY0 hstepY hf2 hf1
              have K2 := hid h2
              have SX := hid hstepX
              have SY := hid hstepY
              have F1 := hid hf1
              have F2 := hid hf2
              have hk2i : (k2 : Int) < j := by omega
              clear h2 hfar hstepX hstepY hf1 hf2
              have hno : farXY X Y = true → stTest ls 0 = false := by
                intro h9
                rw [HTE.out, HDR.out, stTest, ← HX.out, ← HY.out, h9]
                rfl
              have NO := hid hno
              clear hno
              by_cases hbx : beyondB x 4000 = true
              · have HB := hid hbx
                clear hbx
                go_wp2_with fail
                refine (beyond_is _ (by omega) (by omega) HB.out).mono ?_
                rintro e w' ⟨rfl, rfl⟩
                go_wp2_with fail
                refine bodyPost_ret (v := .tuple #[.slice none 0 0, .slice none 0 0, .bool false]) (by simp [results, Try.results24, go_sem]) rfl ?_
                exact ⟨_, _, _, rfl, by rw [NO.out (F2.out (.inl HB.out))], by simp, HST.out.same.trans K2.out.same⟩
              · have HB := hid (Bool.eq_false_iff.2 hbx)
                clear hbx
                by_cases hby : beyondB y 4000 = true
                · have HB2 := hid hby
                  clear hby
                  go_wp2_with fail
                  refine (beyond_is _ (by omega) (by omega) HB.out).mono ?_
                  rintro e w' ⟨rfl, rfl⟩
                  go_wp2_with fail
                  refine (beyond_is _ (by omega) (by omega) HB2.out).mono ?_
                  rintro e w' ⟨rfl, rfl⟩
                  go_wp2_with fail
                  refine bodyPost_ret (v := .tuple #[.slice none 0 0, .slice none 0 0, .bool false]) (by simp [results, Try.results24, go_sem]) rfl ?_
                  exact ⟨_, _, _, rfl, by rw [NO.out (F2.out (.inr HB2.out))], by simp, HST.out.same.trans K2.out.same⟩
                · have HB2 := hid (Bool.eq_false_iff.2 hby)
                  clear hby
                  have hxb : -4000 ≤ x ∧ x ≤ 4000 := by
                    have h9 := HB.out
                    simp only [beyondB, decide_eq_false_iff_not] at h9
                    omega
                  have hyb : -4000 ≤ y ∧ y ≤ 4000 := by
                    have h9 := HB2.out
                    simp only [beyondB, decide_eq_false_iff_not] at h9
                    omega
                  obtain ⟨hx1, hx2⟩ := hxb
                  obtain ⟨hy1, hy2⟩ := hyb
                  go_wp2_with fail
                  refine (beyond_is _ (by omega) (by omega) HB.out).mono ?_
                  rintro e w' ⟨rfl, rfl⟩
                  go_wp2_with fail
                  refine (beyond_is _ (by omega) (by omega) HB2.out).mono ?_
                  rintro e w' ⟨rfl, rfl⟩
                  go_wp2_with fail
                  go_region
                  all_goals
                    have R := hid (show TwoS wo wo.heap.size (.slice (some ⟨gx, 0, none⟩) j cx) (sc (X.take (k2 + 1)) ++ X.drop (k2 + 1)) (.slice (some ⟨gy, 0, none⟩) j cy) (sc (Y.take (k2 + 1)) ++ Y.drop (k2 + 1)) _ by
                      rw [← SX.out, ← SY.out]
                      first
                        | exact ((K2.out.stored (by rw [length_scs]; exact lx.symm) k2 (64 * x)).flip.stored (by rw [length_scs]; exact ly.symm) k2 (64 * y)).flip.drew
                        | exact ((K2.out.flip.stored (by rw [length_scs]; exact ly.symm) k2 (64 * y)).flip.stored (by rw [length_scs]; exact lx.symm) k2 (64 * x)).drew)
                    go_wp2_with fail
                    go_roundw
                    case measure => simp [intOf]; omega
                    case rel => exact ⟨k2 + 1, by omega, by go_num, rfl, rfl, R.out, F1.out HB.out HB2.out⟩
            · obtain rfl : k2 = j := by omega
              rw [List.take_of_length_le (by omega), List.take_of_length_le (by omega), List.drop_of_length_le (by omega), List.drop_of_length_le (by omega), List.append_nil, List.append_nil] at h2
              rw [List.take_of_length_le (by omega), List.take_of_length_le (by omega)] at hfar
              have K2 := hid h2
              have hstep : stTest ls 0 = (decide (2 ≤ k2) && decide (al + k2 ≤ 4000) && stTest (ls.drop (k + 1)) (al + k2)) := by
                rw [HTE.out, HDR.out, stTest, ← HX.out, ← HY.out, hfar, ← HN.out]
                simp [Bool.and_assoc]
              have STEP := hid hstep
              clear h2 hfar hstep
              by_cases hb1 : k2 < 2
              · have hno : stTest ls 0 = false := by rw [STEP.out]; simp; omega
                have NO := hid hno
                clear hno
                go_wp2_with fail
                refine bodyPost_ret (v := .tuple #[.slice none 0 0, .slice none 0 0, .bool false]) (by simp [results, Try.results24, go_sem]) rfl ?_
                exact ⟨_, _, _, rfl, by rw [NO.out], by simp, HST.out.same.trans K2.out.same⟩
              by_cases hb2 : 4000 < al + k2
              · have hno : stTest ls 0 = false := by rw [STEP.out]; simp; omega
                have NO := hid hno
                clear hno
                have hb2' : (4000 : Int) < (al : Int) + (k2 : Int) := by omega
                have hb1' : ¬ (k2 : Int) < 2 := by omega
                go_wp2_with fail
                refine bodyPost_ret (v := .tuple #[.slice none 0 0, .slice none 0 0, .bool false]) (by simp [results, Try.results24, go_sem]) rfl ?_
                exact ⟨_, _, _, rfl, by rw [NO.out], by simp, HST.out.same.trans K2.out.same⟩
              have hb2' : ¬ (4000 : Int) < (al : Int) + (k2 : Int) := by omega
              have hb1' : ¬ (k2 : Int) < 2 := by omega
              have hyes : stTest ls 0 = stTest (ls.drop (k + 1)) (al + k2) := by
                rw [STEP.out, decide_eq_true (by omega), decide_eq_true (by omega)]
                rfl
              have YES := hid hyes
              clear hyes
              have hxo := K2.out.x
              have hyo := K2.out.y
              have lsx : (sc X).length = k2 := by rw [sc, List.length_map]; exact lx
              have lsy : (sc Y).length = k2 := by rw [sc, List.length_map]; exact ly
              rw [lsx] at hxo
              rw [lsy] at hyo
              obtain ⟨gx, cx, rfl, _, _⟩ := hxo.form (by omega)
              obtain ⟨gy, cy, rfl, _, _⟩ := hyo.form (by omega)
              have HXC := hid (intsCells_own hxo lsx (by omega))
              have HYC := hid (intsCells_own hyo lsy (by omega))
              obtain ⟨pts, hpts⟩ : ∃ pts, pts = stairsTo (sc X) (sc Y) k2 := ⟨_, rfl⟩
              have hptl : pts = stPts l := by rw [hpts, stPts, HX.out, HY.out, ← HN.out]
              have hpl : pts.length = k2 * 2 := by rw [hpts]; exact length_stairsTo _ _ _
              have HPTL := hid hptl
              have LSX := hid lsx
              have LSY := hid lsy
              have HPTS := hid hpts
              clear hxo hyo hptl lsx lsy hpts
              go_wp2_with fail
              refine (stairs_cons (sc X) (sc Y) k2 gx 0 cx gy 0 cy wr LSX.out (by omega) (by omega) LSY.out HXC.out HYC.out).mono ?_
              rintro e w1 ⟨v13, rfl, t1, t2⟩
              rw [← HPTS.out] at t1
              have S1 := hid (K2.out.same.trans t2)
              obtain ⟨A13, c13, rfl, _, hpc⟩ := ptsAt_own hpl (by omega) t1
              obtain ⟨g13, o13, rfl, hpc2⟩ := hpc (by omega)
              have HPC := hid hpc2
              have HPL := hid hpl
              have hpl1 : 0 < pts.length := by omega
              have hpl2 : pts.length ≤ 8000 := by omega
              have P1 := hid t1
              have hszr : wr.heap.size ≤ w1.heap.size := t2.size
              clear t1 t2 hpc hpc2 hpl
              go_wp2_with fail
              refine (path_consS pts g13 o13 c13 w1 (by omega) (by omega) HPC.out).mono ?_
              rintro e w2 ⟨vp, rfl, xs2, t1, t2, t3⟩
              have S2 := hid (S1.out.trans t3)
              have S2w := hid t3
              have HPC2 := hid (HPC.out.kept t3 (Nat.le_refl _) (fun _ _ h => h))
              obtain ⟨xs1, r1, r2⟩ := HST.out.ops
              have R1 := hid (own_sameW r1 S2.out)
              have R2 := hid (opsOwn_same r2 S2.out)
              have R3 := hid (own_sameW HST.out.edges S2.out)
              have T3s := t3.size
              have S1s := S1.out.size
              have hnews : ∀ u ∈ xs2, u.oneCell' = true := opsOwn_cells t2
              have hxl := t1.1
              have hol : (pathOps pts).length = k2 * 2 + 1 := by rw [length_pathOps, HPL.out]
              rw [hol] at t1 hxl
              obtain ⟨gp, cp, rfl, hgp1, hgp2⟩ := t1.form (by omega)
              have hcells := t1.cells (g := gp) rfl
              have T2 := hid t2
              have NEWS := hid hnews
              have CELLS := hid hcells
              clear r1 r2 t1 t2 t3 hnews hcells HPC
              go_wp2_with (at_builtin; go_loud (refine wpList_append_own _ rfl _ _ 25 rfl w.heap.size 31 i31 (.agg #[.int .i64 0, .slice none 0 0]) 2 32 Try.underlying25 hi31 hz310 hz311 hz312 rfl (by decide) _ _ _ rfl R1.out ⟨gp, 0, none⟩ (k2 * 2 + 1) cp xs2 rfl hxl CELLS.out NEWS.out ?c3 ?c4 ?c5 ?_))
              case c3 =>
                have h9 := length_stOps (ls.take k)
                rw [← HAL0.out, List.length_take] at h9
                unfold maxLen
                omega
              case c4 =>
                have h9 := length_stOps (ls.take k)
                rw [← HAL0.out, List.length_take] at h9
                omega
              case c5 => omega
              intro v3 w3 hown3 hgrow3 _
              have P2 := own_other (own_sameW P1.out S2w.out) R1.out (by decide) hgrow3
              have E3 := hid (own_other R3.out R1.out (by decide) hgrow3)
              have O3 := hid (stS_ops (by omega) R1.out R2.out T2.out hgrow3)
              have S3 := hid (grown_same R1.out (Nat.le_refl _) (HST.out.same.trans S2.out) hgrow3)
              have hown3' : w3.ownsRow w.heap.size 31 2 v3 (stOps (ls.take k) ++ pathOps pts).length (xs1 ++ xs2) := by
                rw [List.length_append, length_pathOps, HPL.out]
                exact hown3
              have R4 := hid hown3'
              obtain ⟨A3, c3, e3, _, hpc3⟩ := ptsAt_own HPL.out (by omega) P2
              simp only [Value.slice.injEq] at e3
              obtain ⟨rfl, _, rfl⟩ := e3
              obtain ⟨g3, o3, e4, hpc4⟩ := hpc3 (by omega)
              simp only [Option.some.injEq, Addr.mk.injEq, and_true] at e4
              obtain ⟨rfl, rfl⟩ := e4
              have HPC3 := hid hpc4
              clear hown3 hown3' hgrow3 P2 hpc3 hpc4
              go_wp2_with fail
              refine (poly_cons pts g13 o13 c13 w3 (by omega) (by omega) HPC3.out).mono ?_
              rintro e w4 ⟨v4, rfl, t1, t2⟩
              have S4 := hid (S3.out.trans t2)
              have E4 := hid (own_sameW E3.out t2)
              have R5 := hid (own_sameW R4.out t2)
              have O4 := hid (opsOwn_same O3.out t2)
              have hel : (polyTo pts pts.length).length = k2 * 2 := by rw [length_polyTo, HPL.out]
              have hxl2 : (edgeCells (polyTo pts pts.length)).length = k2 * 2 * 4 := by rw [length_edgeCells, hel]
              have hones := edgeCells_one (polyTo pts pts.length)
              rw [HPL.out] at t1
              obtain ⟨g4, c4, rfl, hg41, hg42⟩ := t1.form (by omega)
              have hcells4 := t1.cells (g := g4) rfl
              rw [← HPL.out] at hcells4
              generalize hECs : edgeCells (polyTo pts pts.length) = ecs at hxl2 hones hcells4
              have ECS := hid hECs
              have EL := hid hel
              have CELLS4 := hid hcells4
              have ONES := hid hones
              have hszw : w.heap.size ≤ w4.heap.size := S4.out.size
              have S4s := S4.out.size
              clear t1 t2 hcells4 hones hECs hel
              go_wp2_with (at_builtin; go_loud (refine wpList_append_own _ rfl _ _ 40 rfl w.heap.size 78 i78 (.agg #[.int .i64 0, .int .i64 0, .int .i64 0, .int .i64 0]) 4 32 Try.underlying40 hi78 hz780 hz781 hz782 rfl (by decide) _ _ _ rfl E4.out ⟨g4, 0, none⟩ (k2 * 2) c4 ecs rfl hxl2 CELLS4.out ONES.out ?c3 ?c4 ?c5 ?_))
              case c3 =>
                have h9 := length_stEdges (ls.take k)
                rw [← HAL0.out] at h9
                unfold maxLen
                omega
              case c4 =>
                have h9 := length_stEdges (ls.take k)
                rw [← HAL0.out] at h9
                omega
              case c5 => omega
              intro v5 w5 hown5 hgrow5 _
              have R : StS w (ls.take (k + 1)) v3 v5 w5 := by
                refine ⟨⟨xs1 ++ xs2, ?_, ?_⟩, ?_, grown_same E4.out (Nat.le_refl _) S4.out hgrow5⟩
                · rw [HTK.out, stOps_snoc, ← HPTL.out]
                  exact own_other R5.out E4.out (by decide) hgrow5
                · rw [HTK.out, stOps_snoc, ← HPTL.out]
                  exact O4.out.to fun g cs _ hb => grown_blk E4.out hgrow5 (by decide) hb
                · rw [HTK.out, stEdges_snoc, ← HPTL.out, edgeCells_append, List.length_append, EL.out, ECS.out]
                  exact hown5
              have RR := hid R
              clear R hown5 hgrow5
              go_wp2_with fail
              go_roundw
              case measure => simp [intOf]; omega
              case rel => exact ⟨k + 1, by omega, by go_num, by rw [HAL.out]; push_cast; rfl, by rw [HAL.out]; omega, by rw [HAL.out]; exact YES.out, RR.out⟩
    · obtain rfl : k = ls.length := by omega
      rw [List.take_of_length_le (Nat.le_refl _)] at hst
      rw [List.drop_of_length_le (Nat.le_refl _)] at htest
      have HST := hid hst
      have HTE := hid htest
      clear hst htest
      go_wp2_with fail
      refine bodyPost_ret (v := .tuple #[u2, u3, .bool true]) (by simp [results, Try.results24, go_sem]) rfl ?_
      exact ⟨_, _, _, rfl, by rw [HTE.out]; rfl, fun _ => HST.out, HST.out.same⟩
end Go.Proofs.Ytmgcbodlolnheaa

namespace Go.Proofs.Ytmgcbodlolnheaa
open Go.ChangeShapes Go.WideShapes Go.ChangeAt Go.RowKit Go.Deep
set_option linter.unusedVariables false

def fitsB (ls : List (List Int)) : Bool := decide (ls.length ≤ 2147483647) && fitLists ls
theorem fits1_any (ls : List (List Int)) (v : Value) (w : World) (h : ListsAt w w.heap.size v ls) : Calls Try.prog 23 #[v] w fun e w' => e = .returned (.bool (fitsB ls)) ∧ w = w' := by
  obtain ⟨A, cap, rfl, hl, ha⟩ := h
  unfold fitsB
  by_cases hb : ls.length ≤ 2147483647
  · rw [decide_eq_true hb, Bool.true_and]
    cases ls with
    | nil => exact fits1_none A cap w
    | cons a t =>
      obtain ⟨g, off, rfl, hc⟩ := ha (by simp)
      exact fits1_cons (a :: t) g off cap w (by simp) hb hc
  · rw [decide_eq_false hb, Bool.false_and]
    exact fits1_long A ls.length cap w (by omega)
def stairsB (ls : List (List Int)) : Bool := decide (ls.length ≤ 100) && stTest ls 0
def StairsAns (w : World) (ls : List (List Int)) (e : Ending) (w' : World) : Prop :=
  ∃ v v', e = .returned (.tuple #[v, v', .bool (stairsB ls)]) ∧ (stairsB ls = true → StS w ls v v' w') ∧ Same w w'
set_option maxRecDepth 100000 in
theorem stairsOps_long (A : Option Addr) (n cap : Nat) (w : World) (h : (100 : Int) < n) :
    Calls Try.prog 24 #[.slice A n cap] w fun e w' => e = .returned (.tuple #[.slice none 0 0, .slice none 0 0, .bool false]) ∧ Same w w' := by
  go_enter Try.func24, Try.ntmps24
  go_wp2_with fail
  exact bodyPost_ret (v := .tuple #[.slice none 0 0, .slice none 0 0, .bool false]) (by simp [results, Try.results24, go_sem]) rfl ⟨rfl, Kept.refl _ _⟩
set_option maxRecDepth 100000 in
theorem stairsOps_none (A : Option Addr) (cap : Nat) (w : World) :
    Calls Try.prog 24 #[.slice A 0 cap] w fun e w' => e = .returned (.tuple #[.slice none 0 0, .slice none 0 0, .bool true]) ∧ Same w w' := by
  go_enter Try.func24, Try.ntmps24
  go_wp2_with fail
  go_loop [2, 3, 19] (fun v2 v3 i => i = .int .i64 0 ∧ v2 = .slice none 0 0 ∧ v3 = .slice none 0 0) (fun _ _ i => 0)
  case atStart => exact ⟨rfl, rfl, rfl⟩
  case round =>
    obtain ⟨rfl, rfl, rfl⟩ := hrel
    go_wp2_with fail
    exact bodyPost_ret (v := .tuple #[.slice none 0 0, .slice none 0 0, .bool true]) (by simp [results, Try.results24, go_sem]) rfl ⟨rfl, Kept.refl _ _⟩
theorem stairsOps_any (ls : List (List Int)) (v : Value) (w : World) (h : ListsAt w w.heap.size v ls) (hfit : fitsB ls = true) : Calls Try.prog 24 #[v] w (StairsAns w ls) := by
  obtain ⟨A, cap, rfl, hl, ha⟩ := h
  unfold fitsB at hfit
  rw [Bool.and_eq_true] at hfit
  by_cases hb : ls.length ≤ 100
  · have e : stairsB ls = stTest ls 0 := by unfold stairsB; rw [decide_eq_true hb, Bool.true_and]
    cases ls with
    | nil =>
      refine (stairsOps_none A cap w).mono ?_
      rintro e' w' ⟨rfl, hs⟩
      exact ⟨_, _, rfl, fun _ => ⟨⟨[], World.ownsRow_nil _ _ _ _, trivial⟩, World.ownsRow_nil _ _ _ _, hs⟩, hs⟩
    | cons a t =>
      obtain ⟨g, off, rfl, hc⟩ := ha (by simp)
      refine (stairsOps_cons (a :: t) g off cap w (by simp) hb hfit.2 hc).mono ?_
      rintro e' w' ⟨v, v', b, rfl, rfl, hst, hs⟩
      refine ⟨v, v', by rw [e], fun h => hst (by rw [← e]; exact h), hs⟩
  · have e : stairsB ls = false := by unfold stairsB; rw [decide_eq_false hb, Bool.false_and]
    refine (stairsOps_long A ls.length cap w (by omega)).mono ?_
    rintro e' w' ⟨rfl, hs⟩
    exact ⟨_, _, by rw [e], fun h => (by rw [e] at h; cases h), hs⟩
set_option maxRecDepth 100000 in
theorem wind_none (A : Option Addr) (cap : Nat) (x y : Int) (w : World) (hx : 0 ≤ x ∧ x ≤ 100000) (hy : 0 ≤ y ∧ y ≤ 100000) :
    Calls Try.prog 25 #[.slice A 0 cap, .int .i64 x, .int .i64 y] w fun e w' => e = .returned (.int .i64 0) ∧ Same w w' := by
  obtain ⟨hx1, hx2⟩ := hx
  obtain ⟨hy1, hy2⟩ := hy
  go_enter Try.func25, Try.ntmps25
  go_wp2_with fail
  go_loopw [7, 21] (fun v i wr => i = .int .i64 0 ∧ v = .int .i64 0 ∧ Same w wr) (fun _ i _ => 0)
  case atStart => exact ⟨rfl, rfl, Kept.refl _ _⟩
  case round =>
    obtain ⟨rfl, rfl, hs⟩ := hrel
    go_wp2_with fail
    go_ret
    exact ⟨rfl, hs⟩
theorem edgeCells_get : ∀ (l : List Edge) (j : Nat), (h : j < l.length) → (edgeCells l)[j * 4]? = some (.int .i64 (l[j]).1.1) ∧ (edgeCells l)[j * 4 + 1]? = some (.int .i64 (l[j]).1.2) ∧
    (edgeCells l)[j * 4 + 2]? = some (.int .i64 (l[j]).2.1) ∧ (edgeCells l)[j * 4 + 3]? = some (.int .i64 (l[j]).2.2)
  | [], j, h => by simp at h
  | e :: t, 0, h => by simp [edgeCells]
  | e :: t, j + 1, h => by
    obtain ⟨a, b, c, d⟩ := edgeCells_get t j (by simpa using h)
    have e0 : edgeCells (e :: t) = [.int .i64 e.1.1, .int .i64 e.1.2, .int .i64 e.2.1, .int .i64 e.2.2] ++ edgeCells t := by simp [edgeCells]
    rw [e0, List.getElem?_append_right (by simp; omega), List.getElem?_append_right (by simp; omega), List.getElem?_append_right (by simp; omega), List.getElem?_append_right (by simp; omega)]
    simp only [List.length_cons, List.length_nil, List.getElem_cons_succ]
    rw [show (j + 1) * 4 - 4 = j * 4 by omega, show (j + 1) * 4 + 1 - 4 = j * 4 + 1 by omega, show (j + 1) * 4 + 2 - 4 = j * 4 + 2 by omega, show (j + 1) * 4 + 3 - 4 = j * 4 + 3 by omega]
    exact ⟨a, b, c, d⟩
theorem edges_own {w : World} {D n g cap : Nat} {es : List Edge} (h : w.ownsRow D 78 4 (.slice (some ⟨g, 0, none⟩) n cap) n (edgeCells es)) (hn : es.length = n) (hpos : 0 < n) : EdgesCells w w.heap.size g 0 es := by
  obtain ⟨g', cap', e, _, hlt⟩ := h.form hpos
  simp only [Value.slice.injEq, Option.some.injEq, Addr.mk.injEq, and_true, true_and] at e
  obtain ⟨rfl, rfl⟩ := e
  refine ⟨hlt, fun j hj => ?_⟩
  obtain ⟨a, b, c, d⟩ := edgeCells_get es j hj
  rw [Nat.zero_add, h.cellAt _ (by omega), h.cellAt _ (by omega), h.cellAt _ (by omega), h.cellAt _ (by omega)]
  exact ⟨a, b, c, d⟩
theorem wind_own (es : List Edge) (v : Value) (x y : Int) {D : Nat} (w : World) (hlen : es.length ≤ 1000000) (hx : 0 ≤ x ∧ x ≤ 100000) (hy : 0 ≤ y ∧ y ≤ 100000) (hp : w.ownsRow D 78 4 v es.length (edgeCells es)) (hnear : ∀ e ∈ es, EdgeNear e) :
    Calls Try.prog 25 #[v, .int .i64 x, .int .i64 y] w fun e w' => e = .returned (.int .i64 (windTo es (64 * x + 32) (64 * y + 32))) ∧ Same w w' := by
  rcases Nat.eq_zero_or_pos es.length with h0 | h0
  · have he := List.length_eq_zero_iff.1 h0
    subst he
    rcases hp.2 with ⟨rfl, _⟩ | ⟨g, cap, cur, rfl, _⟩
    · exact wind_none none 0 x y w hx hy
    · exact wind_none _ cap x y w hx hy
  · obtain ⟨g, cap, rfl, _, _⟩ := hp.form h0
    exact wind_cons es g 0 cap x y w h0 hlen hx hy (edges_own hp rfl h0) hnear
end Go.Proofs.Ytmgcbodlolnheaa
