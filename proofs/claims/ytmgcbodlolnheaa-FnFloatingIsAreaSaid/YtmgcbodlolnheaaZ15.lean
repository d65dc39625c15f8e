/- In the numbers of fixed point: a mask's bytes against the area. Each pixel of a mask is near the area: of closed paths in numbers of fixed point, and of rectangles in either kind. Floating numbers: an edge gone the other way adds the same, with the other sign; a path gone backward has the same edges, turned. Floating numbers: how far a mask's sums are from exact sums of what the edges add; a path -/
import Derived.Test.YtmgcbodlolnheaaZ08
import Derived.Test.YtmgcbodlolnheaaZ14
import Derived.Test.YtmgcbodlolnheaaZ09
import Derived.Test.YtmgcbodlolnheaaZ07
import Derived.Test.YtmgcbodlolnheaaZ06
import Derived.Test.YtmgcbodlolnheaaZ05
import Derived.Deep.AppendLies
namespace Go.Proofs.Ytmgcbodlolnheaa
open Flt Go.RowKit
set_option linter.unusedVariables false
theorem cap_near {a b e : Rat} (h : ab (a - b) <= e) : ab (capR a - capR b) <= e := by
 have h1 := ab_sub_le a (a - b)
 have h2 := ab_add_le b (a - b)
 have e1 : a - (a - b) = b := by grind
 have e2 : b + (a - b) = a := by grind
 rw [e1] at h1
 rw [e2] at h2
 have h3 := ab_nonneg (a - b)
 unfold capR
 split <;> split <;> exact ab_le (by grind) (by grind)
def NearAll (bs : List Int) (W H : Nat) (es : List (Pt × Pt)) (far : Nat) : Prop :=
 ∀ Y X : Nat, Y < H -> X < W -> ∃ b, bs[Y * W + X]? = some b /\ AreaOk es X Y /\ CloseOk b (areaW es X Y) far /\ closeB b (areaW es X Y) far = true
def rowsAll : List (Pt × Pt) -> Int -> Int
 | [], r => r
 | e :: t, r => rowsAll t (imax r (rowsE e))
theorem rowsAll_snoc : ∀ (l : List (Pt × Pt)) (e : Pt × Pt) (r : Int), rowsAll (l ++ [e]) r = imax (rowsAll l r) (rowsE e)
 | [], _, _ => rfl
 | a :: l, e, r => by rw [List.cons_append, rowsAll, rowsAll_snoc l e, rowsAll]
theorem rowsAll_ge : ∀ (l : List (Pt × Pt)) (r : Int), r <= rowsAll l r
 | [], _ => Int.le_refl _
 | a :: l, r => by
  have h := rowsAll_ge l (imax r (rowsE a))
  have h1 : r <= imax r (rowsE a) := by unfold imax; split <;> omega
  rw [rowsAll]
  omega
theorem rowsAll_mem : ∀ {l : List (Pt × Pt)} {r : Int} {e : Pt × Pt}, e ∈ l -> rowsE e <= rowsAll l r
 | a :: l, r, e, h => by
  rw [rowsAll]
  rcases List.mem_cons.1 h with rfl | h
  ·have h := rowsAll_ge l (imax r (rowsE e))
   have h1 : rowsE e <= imax r (rowsE e) := by unfold imax; split <;> omega
   omega
  ·exact rowsAll_mem h
theorem rowsAll_le {m : Int} : ∀ {l : List (Pt × Pt)} {r : Int}, r <= m -> (∀ e ∈ l, rowsE e <= m) -> rowsAll l r <= m
 | [], _, h, _ => h
 | a :: l, r, h, hl => by
  rw [rowsAll]
  refine rowsAll_le ?_ fun e he => hl e (by simp [he])
  have := hl a (by simp)
  unfold imax
  split <;> omega
def slackW (es : List (Pt × Pt)) : Nat := floatOfInt .f64 (4 + rowsAll es 0 * es.length)
def Edge17 (e : Pt × Pt) : Prop := (-16896 <= e.1.1 /\ e.1.1 <= 16896) /\ (-16896 <= e.1.2 /\ e.1.2 <= 16896) /\ (-16896 <= e.2.1 /\ e.2.1 <= 16896) /\ (-16896 <= e.2.2 /\ e.2.2 <= 16896)
theorem edge17_of {ps : List (List Pt)} (hf : ∀ p ∈ ps, Far p 16896) : ∀ e ∈ ps.flatMap edges, Edge17 e := by
 intro e he
 obtain ⟨p, hp, h1, h2⟩ := mem_several he
 have a := hf p hp _ h1
 have b := hf p hp _ h2
 exact ⟨a.1, a.2, b.1, b.2⟩
theorem rowsE_bd {e : Pt × Pt} (h : Edge17 e) : 1 <= rowsE e /\ rowsE e <= 529 /\ (e.1.2 ≠ e.2.2 -> 2 <= rowsE e) := by
 obtain ⟨_, h1, _, h2⟩ := h
 unfold rowsE imax
 split <;> omega
theorem rowsAll_bd {es : List (Pt × Pt)} (h : ∀ e ∈ es, Edge17 e) : 0 <= rowsAll es 0 /\ rowsAll es 0 <= 529 :=
 ⟨rowsAll_ge es 0, rowsAll_le (by omega) fun e he => (rowsE_bd (h e he)).2.1⟩
theorem slack_val {es : List (Pt × Pt)} (h : ∀ e ∈ es, Edge17 e) (hn : es.length <= 200) : F64 (slackW es) /\ VV (slackW es) = 4 + (rowsAll es 0 : Rat) * es.length := by
 obtain ⟨r0, r1⟩ := rowsAll_bd h
 have hb : 0 <= rowsAll es 0 * (es.length : Int) /\ rowsAll es 0 * (es.length : Int) <= 529 * 200 := ⟨Int.mul_nonneg r0 (by omega), by
  have a1 := Int.mul_le_mul_of_nonneg_right r1 (show (0 : Int) <= es.length by omega)
  omega⟩
 obtain ⟨f1, f2⟩ := int64w (n := 4 + rowsAll es 0 * es.length) (by omega) (by omega)
 refine ⟨f1, ?_⟩
 unfold slackW
 rw [f2]
 push_cast
 rfl
theorem byte_flo {c r : Rat} {q : Int} (h0 : 0 <= c) (h1 : c <= 1) (q1 : (q : Rat) <= r) (q2 : r < q + 1) (hr : ab (r - 16777215 / 65536 * c) <= 1 / 50000) : ab (255 * c - q) <= 1 + 1 / 50000 := by
 obtain ⟨a, b⟩ := ab_iff.1 hr
 exact ab_le (by grind) (by grind)
theorem floByte_near {a : Nat} (ha : F32 a) : 0 <= floByte a /\ floByte a <= 255 /\ ab (255 * capR (V a) - (floByte a : Int)) <= 1 + 1 / 50000 := by
 obtain ⟨_, r, h1, h2, h3, h4⟩ := floByte_ok ha
 have hp : V (fpart a) = capR (V a) := (fpart_ok ha).2
 rw [hp] at h1
 have cb := cap_bd (V a)
 obtain ⟨t1, t2, t3⟩ := truncR_pos_bd h3
 rw [<- h2] at t1 t2 t3
 refine ⟨t1, ?_, ?_⟩
 ·have u : ((floByte a : Int) : Rat) < ((256 : Int) : Rat) := by push_cast; grind
  have := Rat.intCast_lt_intCast.1 u
  omega
 ·refine byte_flo cb.1 cb.2 t2 t3 ?_
  obtain ⟨_, k⟩ := h1.near5
  have hx : ab (16777215 / 65536 * capR (V a)) <= 256 := ab_pos_le (Rat.mul_nonneg (by decide +kernel) cb.1) (by grind)
  grind
theorem rle_eq {a b : Rat} (h : a = b) : a <= b := by rw [h]; exact Rat.le_refl
theorem sumE_ab {α : Type} {f g : α -> Rat} : ∀ {s : List α}, (∀ e ∈ s, ab (f e) <= g e) -> ab (sumE f s) <= sumE g s
 | [], _ => by simp only [sumE]; decide +kernel
 | e :: s, h => by
  have h1 := sumE_ab (f := f) (g := g) (s := s) fun e he => h e (by simp [he])
  have h2 := h e (by simp)
  have h3 := ab_add_le (f e) (sumE f s)
  rw [sumE, sumE]
  grind
theorem sumE_le {α : Type} {f g : α -> Rat} : ∀ {s : List α}, (∀ e ∈ s, f e <= g e) -> sumE f s <= sumE g s
 | [], _ => Rat.le_refl
 | e :: s, h => by
  have h1 := sumE_le (f := f) (g := g) (s := s) fun e he => h e (by simp [he])
  have h2 := h e (by simp)
  rw [sumE, sumE]
  grind
theorem sumE_const {α : Type} (c : Rat) : ∀ (s : List α), sumE (fun _ => c) s = s.length * c
 | [] => by simp only [sumE, List.length_nil]; push_cast; grind
 | e :: s => by rw [sumE, sumE_const c s, List.length_cons]; push_cast; grind
theorem sumN_sumE {α : Type} (f : α -> Nat -> Rat) (n : Nat) : ∀ (s : List α), sumN (fun k => sumE (fun e => f e k) s) n = sumE (fun e => sumN (f e) n) s
 | [] => by
  simp only [sumE]
  rw [sumN_const]
  grind
 | e :: s => by
  simp only [sumE]
  rw [sumN_add, sumN_sumE f n s]
theorem ph_sum (t : Int) : ∀ n : Nat, sumN (fun k => ((ph k t : Int) : Rat)) n = ((imin (imax t 0) (64 * n) : Int) : Rat)
 | 0 => by
  have : imin (imax t 0) (64 * ((0 : Nat) : Int)) = 0 := by unfold imin imax; split <;> split <;> omega
  rw [this]
  rfl
 | n + 1 => by
  rw [sumN, ph_sum t n]
  have : imin (imax t 0) (64 * ((n + 1 : Nat) : Int)) = imin (imax t 0) (64 * (n : Int)) + ph n t := by
   have a1 := ph_cases n t
   unfold imin imax
   split <;> split <;> (try split) <;> (try split) <;> omega
  rw [this]
  push_cast
  rfl
theorem dph_le (r : Int) (e : Pt × Pt) : ab ((dph r e : Rat) / 64) <= 1 := by
 have h := dph_bd r e
 have h1 := castLe h.1
 have h2 := castLe h.2
 push_cast at h1 h2
 exact ab_le (by grind) (by grind)
end Go.Proofs.Ytmgcbodlolnheaa
namespace Go.Proofs.Ytmgcbodlolnheaa
open Go.ChangeShapes Go.WideShapes Go.ChangeAt Go.RowKit Go.Deep
set_option linter.unusedVariables false
section
variable {H : Type} {enc : TypeId × Value -> H} {w : World} {spare : Nat -> Bool} {held : Bool}
end
end Go.Proofs.Ytmgcbodlolnheaa
namespace Go.Proofs.Ytmgcbodlolnheaa
open Go.ChangeShapes Go.WideShapes Go.ChangeAt Go.RowKit
set_option linter.unusedVariables false
theorem OpsOwn.append {w : World} {D : Nat} : ∀ {ops : List (Int × List Int)} {xs : List Value}, OpsOwn w D ops xs -> ∀ {ops' : List (Int × List Int)} {xs' : List Value}, OpsOwn w D ops' xs' -> OpsOwn w D (ops ++ ops') (xs ++ xs')
 | [], [], _, _, _, h' => h'
 | o' :: t, [], h, _, _, _ => h.elim
 | o' :: t, [a], h, _, _, _ => h.elim
 | o' :: t, a :: c :: r, h, _, _, h' => ⟨h.1, h.2.1, OpsOwn.append h.2.2 h'⟩
 | [], a :: r, h, _, _, _ => h.elim
theorem OpsOwn.lower {w : World} {D D' : Nat} (hD : D' <= D) : ∀ {ops : List (Int × List Int)} {xs : List Value}, OpsOwn w D ops xs -> OpsOwn w D' ops xs
 | [], [], _ => trivial
 | o :: t, [], h => h.elim
 | o :: t, [a], h => h.elim
 | o :: t, a :: b :: r, h => ⟨h.1, (by rcases h.2.1 with h1 | ⟨g, h1, h2⟩; exact .inl h1; exact .inr ⟨g, Nat.le_trans hD h1, h2⟩), OpsOwn.lower hD h.2.2⟩
 | [], a :: r, h => h.elim
theorem path_endS {w wr w1 : World} {pts : List (Int × Int)} {v v' : Value} {xs : List Value} {t : TypeId} (hl : (lineOps pts).length = pts.length) (hlen : pts.length <= 1000000)
  (q1 : wr.ownsRow w.heap.size 31 2 v (lineOps pts).length xs) (q2 : OpsOwn wr w.heap.size (lineOps pts) xs) (q3 : Same w wr)
  (hown : w1.ownsRow w.heap.size 31 2 v' ((lineOps pts).length + 1) (xs ++ [.int .i64 4, .slice none 0 0]))
  (hg : (wr.alloc (.cells #[.int .i64 4, .slice none 0 0] t)).grownBy w1 v.ownBlock) : PathS w (pathOps pts) v' w1 := by
 exact PathS.next (o := (4, [])) (b := .slice none 0 0) (q1.alloc _) (OpsOwn.to (fun g cs _ h => h.alloc _) q2) (q3.alloc _) hown hg (.inl ⟨rfl, rfl⟩)
set_option maxHeartbeats 1000000 in
set_option maxRecDepth 100000 in
theorem path_consS (pts : List (Int × Int)) (g off cap : Nat) (w : World) (hpos : 0 < pts.length) (hlen : pts.length <= 1000000) (hp : PtsCells w w.heap.size g off pts) :
  Calls Try.prog 22 #[.slice (some ⟨g, off, none⟩) pts.length cap] w fun e w' => ∃ v, e = .returned v /\ PathS w (pathOps pts) v w' := by
 have HP := hid hp
 clear hp
 obtain ⟨i0, hi, hz0, hz1, hz2⟩ := info_parts info31
 go_enter Try.func22, Try.ntmps22
 go_wp2_with fail
 go_loopw [3, 9] (fun v i wr => ∃ k : Nat, k <= pts.length /\ i = .int .i64 k /\ PathS w (lineOps (pts.take k)) v wr) (fun _ i _ => pts.length - (intOf i).toNat)
 case atStart => exact ⟨0, Nat.zero_le _, rfl, [], World.ownsRow_nil _ _ _ _, trivial, Kept.refl _ _⟩
 case round =>
  obtain ⟨k, hk, rfl, xs, q1, q2, q3⟩ := hrel
  have hll : (lineOps (pts.take k)).length = k := by rw [length_lineOps, List.length_take, Nat.min_eq_left hk]
  by_cases hlt : k < pts.length
  ·have hpc := HP.out.kept q3 (Nat.le_refl _) (fun _ _ hf => hf)
   obtain ⟨c0, c1⟩ := hpc.2 k hlt
   have hg : g < wr.heap.size := Nat.lt_of_lt_of_le hpc.1 q3.size
   have hnext := lineOps_snoc hlt
   generalize hx : (pts[k]).1 = x at c0 hnext
   generalize hy : (pts[k]).2 = y at c1 hnext
   have HN := hid hnext
   have HLL := hid hll
   have Q1 := hid q1
   have Q2 := hid q2
   have Q3 := hid q3
   have hsz := q3.size
   clear hx hy hpc hnext hll q1 q2 q3
   obtain ⟨kd, hkd⟩ : ∃ kd : Int, kd = if k = 0 then 0 else 1 := ⟨_, rfl⟩
   rw [<- hkd] at HN
   by_cases h0 : k = 0
   ·rw [if_pos h0] at hkd
    subst hkd
    have h0' : ((k : Int) == 0) = true := by simp [h0]
    clear h0
    go_wp2_with (at_builtin; refine wpList_append_own _ rfl _ _ 25 rfl w.heap.size 31 i0 (.agg #[.int .i64 0, .slice none 0 0]) 2 32 Try.underlying25 hi hz0 hz1 hz2 rfl (by decide) _ _ _ rfl (((Q1.out.alloc _).alloc _).alloc _) ⟨wr.heap.size + 2, 0, none⟩ 1 1 [.int .i64 0, .slice (some ⟨wr.heap.size + 1, 0, none⟩) 2 2] rfl rfl ?c1 ?c2 ?c3 ?c4 ?c5 ?_)
    case c1 => exact cells_new3 _ _ _ _ _
    case c2 => intro u hu; simp at hu; rcases hu with rfl | rfl <;> rfl
    case c3 => rw [HLL.out]; unfold maxLen; omega
    case c4 => rw [HLL.out]; omega
    case c5 => simp; omega
    intro v' w1 hown' hgrow _
    have R := path_next (kd := 0) HN.out Q1.out Q2.out Q3.out hown' hgrow
    clear hown' hgrow
    go_wp2_with fail
    go_roundw
    case measure => simp [intOf]; omega
    case rel => exact ⟨k + 1, by omega, by go_num, R⟩
   ·rw [if_neg h0] at hkd
    subst hkd
    have h0' : ((k : Int) == 0) = false := by simp [h0]
    clear h0
    go_wp2_with (at_builtin; refine wpList_append_own _ rfl _ _ 25 rfl w.heap.size 31 i0 (.agg #[.int .i64 0, .slice none 0 0]) 2 32 Try.underlying25 hi hz0 hz1 hz2 rfl (by decide) _ _ _ rfl (((Q1.out.alloc _).alloc _).alloc _) ⟨wr.heap.size + 2, 0, none⟩ 1 1 [.int .i64 1, .slice (some ⟨wr.heap.size + 1, 0, none⟩) 2 2] rfl rfl ?c1 ?c2 ?c3 ?c4 ?c5 ?_)
    case c1 => exact cells_new3 _ _ _ _ _
    case c2 => intro u hu; simp at hu; rcases hu with rfl | rfl <;> rfl
    case c3 => rw [HLL.out]; unfold maxLen; omega
    case c4 => rw [HLL.out]; omega
    case c5 => simp; omega
    intro v' w1 hown' hgrow _
    have R := path_next (kd := 1) HN.out Q1.out Q2.out Q3.out hown' hgrow
    clear hown' hgrow
    go_wp2_with fail
    go_roundw
    case measure => simp [intOf]; omega
    case rel => exact ⟨k + 1, by omega, by go_num, R⟩
  ·obtain rfl : k = pts.length := by omega
   rw [List.take_of_length_le (Nat.le_refl _)] at q1 q2 hll
   have HLL := hid hll
   have Q1 := hid q1
   have Q2 := hid q2
   have Q3 := hid q3
   have hsz := q3.size
   clear q1 q2 q3 hll
   go_wp2_with (at_builtin; refine wpList_append_own _ rfl _ _ 25 rfl w.heap.size 31 i0 (.agg #[.int .i64 0, .slice none 0 0]) 2 32 Try.underlying25 hi hz0 hz1 hz2 rfl (by decide) _ _ _ rfl (Q1.out.alloc _) ⟨wr.heap.size, 0, none⟩ 1 1 [.int .i64 4, .slice none 0 0] rfl rfl ?c1 ?c2 ?c3 ?c4 ?c5 ?_)
   case c1 => exact cells_new1 _ _ _
   case c2 => intro u hu; simp at hu; rcases hu with rfl | rfl <;> rfl
   case c3 => rw [HLL.out]; unfold maxLen; omega
   case c4 => rw [HLL.out]; omega
   case c5 => simp; omega
   intro v' w1 hown' hgrow _
   have R := path_endS HLL.out (by omega) Q1.out Q2.out Q3.out hown' hgrow
   clear hown' hgrow
   have R2 := hid R
   clear R
   go_wp2_with fail
   go_ret
   exact ⟨_, rfl, R2.out⟩
end Go.Proofs.Ytmgcbodlolnheaa
namespace Go.Proofs.Ytmgcbodlolnheaa
open Go.ChangeShapes Go.WideShapes Go.ChangeAt Go.RowKit Go.Deep
set_option linter.unusedVariables false
structure TwoS (w : World) (D : Nat) (v : Value) (xs : List Int) (v' : Value) (ys : List Int) (wr : World) : Prop where
 x : wr.ownsRow D 3 1 v xs.length (xs.map (Value.int .i64))
 y : wr.ownsRow D 3 1 v' ys.length (ys.map (Value.int .i64))
 apart : v.ownBlock = none ∨ v.ownBlock ≠ v'.ownBlock
 apart' : v'.ownBlock = none ∨ v'.ownBlock ≠ v.ownBlock
 base : w.heap.size <= D
 top : D <= wr.heap.size
 same : Same w wr
section
variable {w wr w1 : World} {D : Nat} {v v' : Value} {xs ys : List Int}
theorem TwoS.alloc (h : TwoS w D v xs v' ys wr) (o : Obj) : TwoS w D v xs v' ys (wr.alloc o) := ⟨h.x.alloc o, h.y.alloc o, h.apart, h.apart', h.base, by have := h.top; simp; omega, h.same.alloc o⟩
end
theorem edgeCells_append (a b : List Edge) : edgeCells (a ++ b) = edgeCells a ++ edgeCells b := by simp [edgeCells]
theorem length_edgeCells (a : List Edge) : (edgeCells a).length = a.length * 4 := by
 induction a with
 | nil => rfl
 | cons e t ih => simp only [edgeCells, List.flatMap_cons, List.length_append, List.length_cons, List.length_nil] at ih ⊢; omega
theorem length_polyTo (pts : List (Int × Int)) (k : Nat) : (polyTo pts k).length = k := by simp [polyTo]
theorem length_pathOps (pts : List (Int × Int)) : (pathOps pts).length = pts.length + 1 := by simp [pathOps, length_lineOps]
theorem own_other {w w' : World} {D D' n n' k k' t t' : Nat} {v v' : Value} {xs xs' : List Value} (h : w.ownsRow D t k v n xs) (h' : w.ownsRow D' t' k' v' n' xs') (ht : t ≠ t') (hg : w.grownBy w' v'.ownBlock) : w'.ownsRow D t k v n xs := by
 refine h.kept hg ?_
 rcases h.2 with ⟨rfl, _⟩ | ⟨g, cap, cur, rfl, _, hb, _⟩
 ·exact .inl rfl
 ·right
  intro he
  rcases h'.2 with ⟨rfl, _⟩ | ⟨g', cap', cur', rfl, _, hb', _⟩
  ·simp [Value.ownBlock] at he
  ·simp only [Value.ownBlock, Option.some.injEq] at he
   subst he
   exact ht ((show Blk w g t cur from hb).eq_ (show Blk w g t' cur' from hb')).1
theorem grown_blk {w w' : World} {D n k t : Nat} {v : Value} {xs : List Value} {g t' : Nat} {cs : Array Value} (h : w.ownsRow D t k v n xs) (hg : w.grownBy w' v.ownBlock) (ht : t' ≠ t) (hb : Blk w g t' cs) : Blk w' g t' cs := by
 refine (hg.block g hb.lt fun he => ?_).trans hb
 rcases h.2 with ⟨rfl, _⟩ | ⟨g', cap, cur, rfl, _, hb', _⟩
 ·simp [Value.ownBlock] at he
 ·simp only [Value.ownBlock, Option.some.injEq] at he
  subst he
  exact ht (hb.eq_ (show Blk w g t cur from hb')).1
theorem opsOwn_cells {w : World} {D : Nat} : ∀ {ops : List (Int × List Int)} {xs : List Value}, OpsOwn w D ops xs -> ∀ u ∈ xs, u.oneCell' = true
 | [], [], _, u, hu => by simp at hu
 | o :: t, [], h, _, _ => h.elim
 | o :: t, [a], h, _, _ => h.elim
 | o :: t, a :: b :: r, h, u, hu => by
  rcases List.mem_cons.1 hu with rfl | hu
  ·rw [h.1]; rfl
  ·rcases List.mem_cons.1 hu with rfl | hu
   ·rcases h.2.1 with ⟨_, rfl⟩ | ⟨g, _, _, rfl, _⟩ <;> rfl
   ·exact opsOwn_cells h.2.2 u hu
 | [], a :: r, h, _, _ => h.elim
theorem edgeCells_one (l : List Edge) : ∀ u ∈ edgeCells l, u.oneCell' = true := by
 intro u hu
 simp only [edgeCells, List.mem_flatMap] at hu
 obtain ⟨e, _, hu⟩ := hu
 simp only [List.mem_cons, List.not_mem_nil, or_false] at hu
 rcases hu with rfl | rfl | rfl | rfl <;> rfl
theorem own_sameW {w w' : World} {D n k t : Nat} {v : Value} {xs : List Value} (h : w.ownsRow D t k v n xs) (hs : Same w w') : w'.ownsRow D t k v n xs := by
 refine h.kept (row := none) ⟨hs.os, hs.tape, hs.output, hs.size, fun k hk _ => hs.block k hk fun h => h⟩ ?_
 cases v.ownBlock with
 | none => exact .inl rfl
 | some g => exact .inr (by simp)
theorem opsOwn_same {w w' : World} {D : Nat} {ops : List (Int × List Int)} {xs : List Value} (h : OpsOwn w D ops xs) (hs : Same w w') : OpsOwn w' D ops xs := h.to fun g cs _ hb => hs.blk hb fun h => h
theorem stS_ops {w2 w3 : World} {D n n2 : Nat} {v : Value} {xs xs2 : List Value} {ops ops2 : List (Int × List Int)} (hD : D <= n2)
  (h1 : w2.ownsRow D 31 2 v n xs) (h2 : OpsOwn w2 D ops xs) (k2 : OpsOwn w2 n2 ops2 xs2) (hg : w2.grownBy w3 v.ownBlock) : OpsOwn w3 D (ops ++ ops2) (xs ++ xs2) :=
 (h2.append (k2.lower hD)).to fun g cs _ hb => grown_blk h1 hg (by decide) hb
theorem grown_same {w0 w w' : World} {D t k n : Nat} {v : Value} {xs : List Value} (h : w.ownsRow D t k v n xs) (hD : w0.heap.size <= D) (hs : Same w0 w) (hg : w.grownBy w' v.ownBlock) : Same w0 w' :=
 hs.grown hg fun k hk => .inl (Nat.le_trans hD (h.lt k hk).1)
theorem edgeCells_get : ∀ (l : List Edge) (j : Nat), (h : j < l.length) -> (edgeCells l)[j * 4]? = some (.int .i64 (l[j]).1.1) /\ (edgeCells l)[j * 4 + 1]? = some (.int .i64 (l[j]).1.2) /\
  (edgeCells l)[j * 4 + 2]? = some (.int .i64 (l[j]).2.1) /\ (edgeCells l)[j * 4 + 3]? = some (.int .i64 (l[j]).2.2)
 | [], j, h => by simp at h
 | e :: t, 0, h => by simp [edgeCells]
 | e :: t, j + 1, h => by
  obtain ⟨a, b, c, d⟩ := edgeCells_get t j (by simpa using h)
  have e0 : edgeCells (e :: t) = [.int .i64 e.1.1, .int .i64 e.1.2, .int .i64 e.2.1, .int .i64 e.2.2] ++ edgeCells t := by simp [edgeCells]
  rw [e0, List.getElem?_append_right (by simp; omega), List.getElem?_append_right (by simp; omega), List.getElem?_append_right (by simp; omega), List.getElem?_append_right (by simp; omega)]
  simp only [List.length_cons, List.length_nil, List.getElem_cons_succ]
  rw [show (j + 1) * 4 - 4 = j * 4 by omega, show (j + 1) * 4 + 1 - 4 = j * 4 + 1 by omega, show (j + 1) * 4 + 2 - 4 = j * 4 + 2 by omega, show (j + 1) * 4 + 3 - 4 = j * 4 + 3 by omega]
  exact ⟨a, b, c, d⟩
theorem edges_own {w : World} {D n g cap : Nat} {es : List Edge} (h : w.ownsRow D 78 4 (.slice (some ⟨g, 0, none⟩) n cap) n (edgeCells es)) (hn : es.length = n) (hpos : 0 < n) : EdgesCells w w.heap.size g 0 es := by
 obtain ⟨g', cap', e, _, hlt⟩ := h.form hpos
 simp only [Value.slice.injEq, Option.some.injEq, Addr.mk.injEq, and_true, true_and] at e
 obtain ⟨rfl, rfl⟩ := e
 refine ⟨hlt, fun j hj => ?_⟩
 obtain ⟨a, b, c, d⟩ := edgeCells_get es j hj
 rw [Nat.zero_add, h.cellAt _ (by omega), h.cellAt _ (by omega), h.cellAt _ (by omega), h.cellAt _ (by omega)]
 exact ⟨a, b, c, d⟩
def RowsCells (w : World) (B g off : Nat) (ls : List (List (Int × Int))) : Prop :=
 g < B /\ ∀ j, (h : j < ls.length) -> ∃ pv, w.cell? ⟨g, off + j, none⟩ = some pv /\ PtsAt w B pv ls[j]
def RowsAt (w : World) (B : Nat) (v : Value) (ls : List (List (Int × Int))) : Prop :=
 ∃ (A : Option Addr) (cap : Nat), v = .slice A ls.length cap /\ ls.length <= 9223372036854775807 /\ (0 < ls.length -> ∃ g off, A = some ⟨g, off, none⟩ /\ RowsCells w B g off ls)
def fitRows (ls : List (List (Int × Int))) : Bool := ls.all fun o => decide (o.length <= 2147483647)
theorem fitRows_take {ls : List (List (Int × Int))} {k : Nat} (h : k < ls.length) (a : fitRows (ls.take k) = true) (b : (ls[k]).length <= 2147483647) : fitRows (ls.take (k + 1)) = true := by
 unfold fitRows at *
 rw [List.take_succ_eq_append_getElem h, List.all_append, a]
 simpa using b
theorem fitRows_far {ls : List (List (Int × Int))} {k : Nat} (h : k < ls.length) (b : ¬ (ls[k]).length <= 2147483647) : fitRows ls = false := by
 unfold fitRows
 rw [List.all_eq_false]
 exact ⟨ls[k], List.getElem_mem h, by simpa using b⟩
set_option maxHeartbeats 1000000 in
set_option maxRecDepth 100000 in
theorem fits2_cons (ls : List (List (Int × Int))) (g off cap : Nat) (w : World) (hpos : 0 < ls.length) (hfit : ls.length <= 2147483647) (hp : RowsCells w w.heap.size g off ls) :
  Calls Try.prog 26 #[.slice (some ⟨g, off, none⟩) ls.length cap] w fun e w' => e = .returned (.bool (fitRows ls)) /\ w = w' := by
 have HP := hid hp
 have h0 : ¬ (2147483647 : Int) < ls.length := by omega
 clear hp
 go_enter Try.func26, Try.ntmps26
 go_wp2_with fail
 go_loop [10] (fun i => ∃ k : Nat, k <= ls.length /\ i = .int .i64 k /\ fitRows (ls.take k) = true) (fun i => ls.length - (intOf i).toNat)
 case atStart => exact ⟨0, Nat.zero_le _, rfl, rfl⟩
 case round =>
  obtain ⟨k, hk, rfl, hn⟩ := hrel
  have HN := hid hn
  clear hn
  by_cases hlt : k < ls.length
  ·obtain ⟨pv, c1, c2⟩ := HP.out.2 k hlt
   have hg : g < w.heap.size := HP.out.1
   have hnear := fun b => fitRows_take hlt HN.out b
   have hfar := fun b => fitRows_far hlt b
   generalize ls[k] = op at c2 hnear hfar
   obtain ⟨A, pcap, rfl, hl, _⟩ := id c2
   have HNE := hid hnear
   have HFA := hid hfar
   clear c2 hnear hfar
   by_cases hb : op.length <= 2147483647
   ·have HNX := hid (HNE.out hb)
    have hb' : ¬ (2147483647 : Int) < op.length := by omega
    clear hb
    go_wp2_with fail
    go_round
    case measure => simp [intOf]; omega
    case rel => exact ⟨k + 1, by omega, by go_num, HNX.out⟩
   ·have HF := hid (HFA.out hb)
    have hb' : (2147483647 : Int) < op.length := by omega
    clear hb
    go_wp2_with fail
    go_ret
    exact ⟨by rw [HF.out]; rfl, rfl⟩
  ·obtain rfl : k = ls.length := by omega
   rw [List.take_of_length_le (Nat.le_refl _)] at HN
   go_wp2_with fail
   go_ret
   exact ⟨by rw [HN.out]; rfl, rfl⟩
theorem fits2_long (A : Option Addr) (n cap : Nat) (w : World) (h : (2147483647 : Int) < n) :
  Calls Try.prog 26 #[.slice A n cap] w fun e w' => e = .returned (.bool false) /\ w = w' := by
 go_enter Try.func26, Try.ntmps26
 go_wp2_with fail
 go_ret
 exact ⟨rfl, rfl⟩
theorem fits2_none (A : Option Addr) (cap : Nat) (w : World) :
  Calls Try.prog 26 #[.slice A 0 cap] w fun e w' => e = .returned (.bool true) /\ w = w' := by
 go_enter Try.func26, Try.ntmps26
 go_wp2_with fail
 go_loop [10] (fun i => i = .int .i64 0) (fun i => 0)
 case atStart => rfl
 case round =>
  subst hrel
  go_wp2_with fail
  go_ret
  exact ⟨rfl, rfl⟩
def fits2B (ls : List (List (Int × Int))) : Bool := decide (ls.length <= 2147483647) && fitRows ls
theorem fits2_any (ls : List (List (Int × Int))) (v : Value) (w : World) (h : RowsAt w w.heap.size v ls) : Calls Try.prog 26 #[v] w fun e w' => e = .returned (.bool (fits2B ls)) /\ w = w' := by
 obtain ⟨A, cap, rfl, hl, ha⟩ := h
 unfold fits2B
 by_cases hb : ls.length <= 2147483647
 ·rw [decide_eq_true hb, Bool.true_and]
  cases ls with
  | nil => exact fits2_none A cap w
  | cons a t =>
   obtain ⟨g, off, rfl, hc⟩ := ha (by simp)
   exact fits2_cons (a :: t) g off cap w (by simp) hb hc
 ·rw [decide_eq_false hb, Bool.false_and]
  exact fits2_long A ls.length cap w (by omega)
section
variable {H : Type} {enc : TypeId × Value -> H} {w : World} {spare : Nat -> Bool} {held : Bool}
set_option maxRecDepth 100000 in
theorem open_rowsT {r : Reach} {b0 : Nat} {v : Value} {d : DataW H} {p : List MemPlace} (hv : Value.okWide Try.prog w r b0 45 v) (h0 : DataW.Trod enc Try.prog w 0 spare held 45 v d p) : ∃ ls, RowsAt w w.heap.size v ls := by
 obtain ⟨a0, len0, cap0, rfl⟩ := okWide_slice Try.underlying45 hv
 obtain ⟨fuel, hf0⟩ := h0
 have h : DataW.trod enc Try.prog w 0 spare held fuel 45 [.slice a0 len0 cap0] = some (d, p) := by simpa [Value.cells] using hf0
 rcases open_slice1 Try.underlying45 cellsOf27 h with ⟨hcs, _⟩ | ⟨a, len, cap, m, n, V, D, Pl, hcs, hb, hl, hm, hmm, hx, hi⟩
 ·simp only [List.cons.injEq, and_true] at hcs
  exact ⟨[], none, 0, hcs, by simp, fun h => by simp at h⟩
 ·simp only [List.cons.injEq, and_true] at hcs
  rw [hcs]
  have hlm : len <= m := by rw [hmm]; split <;> omega
  have hel : ∀ i, i < len -> ∃ ps : List (Int × Int), w.cell? (a.add i) = some (V i) /\ PtsAt w w.heap.size (V i) ps := by
   intro i hil
   obtain ⟨hc, ht⟩ := hi i (by omega)
   obtain ⟨ps, hps⟩ := open_pts ht
   exact ⟨ps, hc, hps⟩
  obtain ⟨f, hfa⟩ := choose_lt (α := List (Int × Int)) hel
  refine ⟨(List.range len).map f, some a, cap, by simp, by simp; unfold maxLen at hm; omega, fun hp => ?_⟩
  have hp' : 0 < len := by simpa using hp
  have h00 := (hfa 0 hp').1
  obtain ⟨b, off, rfl⟩ := addr_plain h00
  rw [add_plain] at h00
  refine ⟨b, off, rfl, block_lt h00, fun j hj => ?_⟩
  have hj' : j < len := by simpa using hj
  obtain ⟨x0, x2⟩ := hfa j hj'
  rw [add_plain] at x0
  simp only [List.getElem_map, List.getElem_range]
  exact ⟨V j, x0, x2⟩
end
@[local go_sem ↓] theorem run_minS {P : Program} {w : World} (ts : Array TypeId) (t : TypeId) (k k1 : IntKind) (x y : Int) : (Builtin.min_ ts t #[.int k x, .int k1 y]).run P w = .ok (.int k (imin x y)) w := by
 have e : imin x y = if y < x then y else x := by unfold imin; split <;> split <;> omega
 rw [e]
 simp [Builtin.min_, Builtin.min2]
def rowOk (W H : Int) (p : List (Int × Int)) : Bool := withinB p (64 * (64 + imin W H)) && decide (p.length <= 12)
def sevTest (W H : Int) (ls : List (List (Int × Int))) : Bool := ls.all (rowOk W H)
def sevOps (ls : List (List (Int × Int))) : List (Int × List Int) := ls.flatMap pathOps
def sevEdges (ls : List (List (Int × Int))) : List Edge := ls.flatMap fun p => polyTo p p.length
theorem sevOps_snoc (ls : List (List (Int × Int))) (l : List (Int × Int)) : sevOps (ls ++ [l]) = sevOps ls ++ pathOps l := by simp [sevOps]
theorem sevEdges_snoc (ls : List (List (Int × Int))) (l : List (Int × Int)) : sevEdges (ls ++ [l]) = sevEdges ls ++ polyTo l l.length := by simp [sevEdges]
theorem sevTest_snoc (W H : Int) (ls : List (List (Int × Int))) (l : List (Int × Int)) : sevTest W H (ls ++ [l]) = (sevTest W H ls && rowOk W H l) := by simp [sevTest]
theorem sevTest_false {W H : Int} {ls : List (List (Int × Int))} {l : List (Int × Int)} (hm : l ∈ ls) (h : rowOk W H l = false) : sevTest W H ls = false := by
 unfold sevTest
 rw [List.all_eq_false]
 exact ⟨l, hm, by simp [h]⟩
theorem sev_len {W H : Int} : ∀ {ls : List (List (Int × Int))}, sevTest W H ls = true -> (sevOps ls).length <= 13 * ls.length /\ (sevEdges ls).length <= 12 * ls.length
 | [], _ => by simp [sevOps, sevEdges]
 | l :: t, h => by
  have h1 : rowOk W H l = true /\ sevTest W H t = true := by simpa [sevTest] using h
  obtain ⟨i1, i2⟩ := sev_len h1.2
  have h2 : l.length <= 12 := by have := h1.1; unfold rowOk at this; rw [Bool.and_eq_true, decide_eq_true_eq] at this; exact this.2
  simp only [sevOps, sevEdges, List.flatMap_cons, List.length_append, length_pathOps, length_polyTo, List.length_cons] at i1 i2 ⊢
  omega
structure SevS (w : World) (ls : List (List (Int × Int))) (v v' : Value) (wr : World) : Prop where
 ops : ∃ xs, wr.ownsRow w.heap.size 31 2 v (sevOps ls).length xs /\ OpsOwn wr w.heap.size (sevOps ls) xs
 edges : wr.ownsRow w.heap.size 78 4 v' (sevEdges ls).length (edgeCells (sevEdges ls))
 same : Same w wr
theorem SevS.start (w : World) {wr : World} (h : Same w wr) : SevS w [] (.slice none 0 0) (.slice none 0 0) wr := ⟨⟨[], World.ownsRow_nil _ _ _ _, trivial⟩, World.ownsRow_nil _ _ _ _, h⟩
def SevRes (w : World) (W H : Int) (ls : List (List (Int × Int))) (e : Ending) (w' : World) : Prop :=
 ∃ v v', e = .returned (.tuple #[v, v', .bool (sevTest W H ls)]) /\ (sevTest W H ls = true -> SevS w ls v v' w') /\ Same w w'
theorem PtsCells.up {w : World} {B C g off : Nat} {pts : List (Int × Int)} (h : PtsCells w B g off pts) (hB : B <= C) : PtsCells w C g off pts := ⟨Nat.lt_of_lt_of_le h.1 hB, h.2⟩
set_option maxHeartbeats 4000000 in
set_option maxRecDepth 100000 in
theorem several_cons (W H : Int) (ls : List (List (Int × Int))) (g off cap : Nat) (w : World) (hpos : 0 < ls.length) (hlen : ls.length <= 4) (hs : sizedB W H = true) (hW : W <= 200) (hH : H <= 200) (hp : RowsCells w w.heap.size g off ls) :
  Calls Try.prog 28 #[.int .i64 W, .int .i64 H, .slice (some ⟨g, off, none⟩) ls.length cap] w (SevRes w W H ls) := by
 obtain ⟨s1, s2, s3, s4, s5⟩ := sizedB_iff.1 hs
 have hm1 : 1 <= imin W H := by unfold imin; split <;> omega
 have hm2 : imin W H <= 200 := by unfold imin; split <;> omega
 have HS := hid hs
 have HP := hid hp
 clear hp hs s5
 obtain ⟨i31, hi31, hz310, hz311, hz312⟩ := info_parts info31
 obtain ⟨i78, hi78, hz780, hz781, hz782⟩ := info_parts info78
 go_enter Try.func28, Try.ntmps28
 go_wp2_with fail
 refine (sized_any W H w).mono ?_
 rintro e w' ⟨rfl, rfl⟩
 rw [HS.out]
 go_wp2_with fail
 go_loopw [6, 7, 30] (fun v v' i wr => ∃ k : Nat, k <= ls.length /\ i = .int .i64 k /\ sevTest W H (ls.take k) = true /\ SevS w (ls.take k) v v' wr) (fun _ _ i _ => ls.length - (intOf i).toNat)
 case atStart => exact ⟨0, Nat.zero_le _, rfl, rfl, SevS.start _ (Kept.refl _ _)⟩
 case round =>
  obtain ⟨k, hk, rfl, htest, hst⟩ := hrel
  by_cases hlt : k < ls.length
  ·obtain ⟨pv, c1, c2⟩ := HP.out.2 k hlt
   have hg0 : g < w.heap.size := HP.out.1
   have hc1 := (hst.same.cell (p := ⟨g, off + k, none⟩) hg0 (fun hf => hf)).trans c1
   have hg : g < wr.heap.size := Nat.lt_of_lt_of_le hg0 hst.same.size
   have htk : ls.take (k + 1) = ls.take k ++ [ls[k]] := List.take_succ_eq_append_getElem hlt
   have hmem : ls[k] ∈ ls := List.getElem_mem hlt
   generalize ls[k] = l at c2 htk hmem
   have hin := within_any l (64 * (64 + imin W H)) pv wr (by omega) (by omega) ((c2.kept hst.same (Nat.le_refl _) (fun _ _ hf => hf)).mono hst.same.size)
   obtain ⟨A, pcap, rfl, hl, hA⟩ := id c2
   have HTK := hid htk
   have HMEM := hid hmem
   have HTE := hid htest
   have HST := hid hst
   have HA := hid hA
   have HIN := hid hin
   have hsz := hst.same.size
   clear c1 c2 htk hmem htest hst hA hin
   by_cases hw : withinB l (64 * (64 + imin W H)) = true
   ·by_cases h12 : 12 < l.length
    ·have HF := hid (sevTest_false (W := W) (H := H) HMEM.out (by unfold rowOk; rw [decide_eq_false (by omega), Bool.and_false]))
     have HWI := hid hw
     have h12' : (12 : Int) < l.length := by omega
     clear hw h12
     go_wp2_with fail
     refine HIN.out.mono ?_
     rintro e w1 ⟨rfl, t1⟩
     rw [HWI.out]
     have T1 := hid (HST.out.same.trans t1)
     clear t1
     go_wp2_with fail
     refine bodyPost_ret (v := .tuple #[.slice none 0 0, .slice none 0 0, .bool false]) (by simp [results, Try.results28, go_sem]) rfl ?_
     exact ⟨_, _, by rw [HF.out], fun h => (by rw [HF.out] at h; cases h), T1.out⟩
    ·have hrow : rowOk W H l = true := by unfold rowOk; rw [hw, decide_eq_true (by omega), Bool.true_and]
     have HNX := hid (show sevTest W H (ls.take (k + 1)) = true by rw [HTK.out, sevTest_snoc, HTE.out, hrow]; rfl)
     obtain ⟨_, hl3, _⟩ := withinB_iff.1 hw
     obtain ⟨g13, o13, rfl, hpc⟩ := HA.out (by omega)
     have HWI := hid hw
     have h12' : (l.length : Int) <= 12 := by omega
     have HPC := hid hpc
     obtain ⟨hlo, hle⟩ := sev_len HTE.out
     rw [List.length_take] at hlo hle
     clear hw h12 hrow hpc
     go_wp2_with fail
     refine HIN.out.mono ?_
     rintro e w1 ⟨rfl, t1⟩
     rw [HWI.out]
     have S1 := hid (HST.out.same.trans t1)
     have T1 := hid t1
     have hsz1 : w.heap.size <= w1.heap.size := S1.out.size
     have hsz2 : wr.heap.size <= w1.heap.size := t1.size
     have HPC1 := hid ((HPC.out.kept S1.out (Nat.le_refl _) (fun _ _ hf => hf)).up hsz1)
     clear t1
     go_wp2_with fail
     refine (path_consS l g13 o13 pcap w1 (by omega) (by omega) HPC1.out).mono ?_
     rintro e w2 ⟨vp, rfl, xs2, t1, t2, t3⟩
     have S2 := hid (S1.out.trans t3)
     have S2r := hid (T1.out.trans t3)
     obtain ⟨xs1, r1, r2⟩ := HST.out.ops
     have R1 := hid (own_sameW r1 S2r.out)
     have R2 := hid (opsOwn_same r2 S2r.out)
     have R3 := hid (own_sameW HST.out.edges S2r.out)
     have T3s := t3.size
     have hnews : ∀ u ∈ xs2, u.oneCell' = true := opsOwn_cells t2
     have hxl := t1.1
     have hol : (pathOps l).length = l.length + 1 := length_pathOps l
     rw [hol] at t1 hxl
     obtain ⟨gp, cp, rfl, hgp1, hgp2⟩ := t1.form (by omega)
     have hcells := t1.cells (g := gp) rfl
     have T2 := hid t2
     have NEWS := hid hnews
     have CELLS := hid hcells
     clear r1 r2 t1 t2 t3 hnews hcells
     go_wp2_with (at_builtin; go_loud (refine wpList_append_own _ rfl _ _ 25 rfl w.heap.size 31 i31 (.agg #[.int .i64 0, .slice none 0 0]) 2 32 Try.underlying25 hi31 hz310 hz311 hz312 rfl (by decide) _ _ _ rfl R1.out ⟨gp, 0, none⟩ (l.length + 1) cp xs2 rfl hxl CELLS.out NEWS.out ?c3 ?c4 ?c5 ?_))
     case c3 => unfold maxLen; omega
     case c4 => omega
     case c5 => omega
     intro v3 w3 hown3 hgrow3 _
     have E3 := hid (own_other R3.out R1.out (by decide) hgrow3)
     have O3 := hid (stS_ops (by omega) R1.out R2.out T2.out hgrow3)
     have S3 := hid (grown_same R1.out (Nat.le_refl _) S2.out hgrow3)
     have hown3' : w3.ownsRow w.heap.size 31 2 v3 (sevOps (ls.take k) ++ pathOps l).length (xs1 ++ xs2) := by
      rw [List.length_append, length_pathOps]
      exact hown3
     have R4 := hid hown3'
     have hsz3 : w.heap.size <= w3.heap.size := S3.out.size
     have HPC3 := hid ((HPC.out.kept S3.out (Nat.le_refl _) (fun _ _ hf => hf)).up hsz3)
     clear hown3 hown3' hgrow3
     go_wp2_with fail
     refine (poly_cons l g13 o13 pcap w3 (by omega) (by omega) HPC3.out).mono ?_
     rintro e w4 ⟨v4, rfl, t1, t2⟩
     have S4 := hid (S3.out.trans t2)
     have E4 := hid (own_sameW E3.out t2)
     have R5 := hid (own_sameW R4.out t2)
     have O4 := hid (opsOwn_same O3.out t2)
     have hel : (polyTo l l.length).length = l.length := by rw [length_polyTo]
     have hxl2 : (edgeCells (polyTo l l.length)).length = l.length * 4 := by rw [length_edgeCells, hel]
     have hones := edgeCells_one (polyTo l l.length)
     obtain ⟨g4, c4, rfl, hg41, hg42⟩ := t1.form (by omega)
     have hcells4 := t1.cells (g := g4) rfl
     generalize hECs : edgeCells (polyTo l l.length) = ecs at hxl2 hones hcells4
     have ECS := hid hECs
     have EL := hid hel
     have CELLS4 := hid hcells4
     have ONES := hid hones
     have hszw : w.heap.size <= w4.heap.size := S4.out.size
     clear t1 t2 hcells4 hones hECs hel
     go_wp2_with (at_builtin; go_loud (refine wpList_append_own _ rfl _ _ 40 rfl w.heap.size 78 i78 (.agg #[.int .i64 0, .int .i64 0, .int .i64 0, .int .i64 0]) 4 32 Try.underlying40 hi78 hz780 hz781 hz782 rfl (by decide) _ _ _ rfl E4.out ⟨g4, 0, none⟩ l.length c4 ecs rfl hxl2 CELLS4.out ONES.out ?c3 ?c4 ?c5 ?_))
     case c3 => unfold maxLen; omega
     case c4 => omega
     case c5 => omega
     intro v5 w5 hown5 hgrow5 _
     have R : SevS w (ls.take (k + 1)) v3 v5 w5 := by
      refine ⟨⟨xs1 ++ xs2, ?_, ?_⟩, ?_, grown_same E4.out (Nat.le_refl _) S4.out hgrow5⟩
      ·rw [HTK.out, sevOps_snoc]
       exact own_other R5.out E4.out (by decide) hgrow5
      ·rw [HTK.out, sevOps_snoc]
       exact O4.out.to fun g cs _ hb => grown_blk E4.out hgrow5 (by decide) hb
      ·rw [HTK.out, sevEdges_snoc, edgeCells_append, List.length_append, EL.out, ECS.out]
       exact hown5
     have RR := hid R
     clear R hown5 hgrow5
     go_wp2_with fail
     go_roundw
     case measure => simp [intOf]; omega
     case rel => exact ⟨k + 1, by omega, by go_num, HNX.out, RR.out⟩
   ·have hw' := Bool.eq_false_iff.2 hw
    have HF := hid (sevTest_false (W := W) (H := H) HMEM.out (by unfold rowOk; rw [hw', Bool.false_and]))
    have HWI := hid hw'
    clear hw hw'
    go_wp2_with fail
    refine HIN.out.mono ?_
    rintro e w1 ⟨rfl, t1⟩
    rw [HWI.out]
    have T1 := hid (HST.out.same.trans t1)
    clear t1
    go_wp2_with fail
    refine bodyPost_ret (v := .tuple #[.slice none 0 0, .slice none 0 0, .bool false]) (by simp [results, Try.results28, go_sem]) rfl ?_
    exact ⟨_, _, by rw [HF.out], fun h => (by rw [HF.out] at h; cases h), T1.out⟩
  ·obtain rfl : k = ls.length := by omega
   rw [List.take_of_length_le (Nat.le_refl _)] at hst htest
   have HST := hid hst
   have HTE := hid htest
   clear hst htest
   go_wp2_with fail
   refine bodyPost_ret (v := .tuple #[u6, u7, .bool true]) (by simp [results, Try.results28, go_sem]) rfl ?_
   exact ⟨_, _, by rw [HTE.out], fun _ => HST.out, HST.out.same⟩
def sevB (W H : Int) (ls : List (List (Int × Int))) : Bool := sizedB W H && decide (W <= 200) && decide (H <= 200) && decide (ls.length <= 4) && sevTest W H ls
def SevAns (w : World) (W H : Int) (ls : List (List (Int × Int))) (e : Ending) (w' : World) : Prop :=
 ∃ v v', e = .returned (.tuple #[v, v', .bool (sevB W H ls)]) /\ (sevB W H ls = true -> SevS w ls v v' w') /\ Same w w'
set_option maxRecDepth 100000 in
theorem several_none (W H : Int) (A : Option Addr) (cap : Nat) (w : World) (hs : sizedB W H = true) (hW : W <= 200) (hH : H <= 200) :
  Calls Try.prog 28 #[.int .i64 W, .int .i64 H, .slice A 0 cap] w fun e w' => e = .returned (.tuple #[.slice none 0 0, .slice none 0 0, .bool true]) /\ Same w w' := by
 have HS := hid hs
 clear hs
 go_enter Try.func28, Try.ntmps28
 go_wp2_with fail
 refine (sized_any W H w).mono ?_
 rintro e w' ⟨rfl, rfl⟩
 rw [HS.out]
 go_wp2_with fail
 go_loop [6, 7, 30] (fun v2 v3 i => i = .int .i64 0 /\ v2 = .slice none 0 0 /\ v3 = .slice none 0 0) (fun _ _ i => 0)
 case atStart => exact ⟨rfl, rfl, rfl⟩
 case round =>
  obtain ⟨rfl, rfl, rfl⟩ := hrel
  go_wp2_with fail
  exact bodyPost_ret (v := .tuple #[.slice none 0 0, .slice none 0 0, .bool true]) (by simp [results, Try.results28, go_sem]) rfl ⟨rfl, Kept.refl _ _⟩
set_option maxRecDepth 100000 in
theorem several_not (W H : Int) (A : Option Addr) (n cap : Nat) (w : World) (h : sizedB W H = false ∨ (sizedB W H = true /\ 200 < W) ∨ (sizedB W H = true /\ W <= 200 /\ 200 < H) ∨ (sizedB W H = true /\ W <= 200 /\ H <= 200 /\ (4 : Int) < n)) :
  Calls Try.prog 28 #[.int .i64 W, .int .i64 H, .slice A n cap] w fun e w' => e = .returned (.tuple #[.slice none 0 0, .slice none 0 0, .bool false]) /\ Same w w' := by
 rcases h with hs | ⟨hs, h1⟩ | ⟨hs, h1, h2⟩ | ⟨hs, h1, h2, h3⟩
 all_goals
  have HS := hid hs
  clear hs
  go_enter Try.func28, Try.ntmps28
  go_wp2_with fail
  refine (sized_any W H w).mono ?_
  rintro e w' ⟨rfl, rfl⟩
  rw [HS.out]
  go_wp2_with fail
  exact bodyPost_ret (v := .tuple #[.slice none 0 0, .slice none 0 0, .bool false]) (by simp [results, Try.results28, go_sem]) rfl ⟨rfl, Kept.refl _ _⟩
theorem several_any (W H : Int) (ls : List (List (Int × Int))) (v : Value) (w : World) (h : RowsAt w w.heap.size v ls) : Calls Try.prog 28 #[.int .i64 W, .int .i64 H, v] w (SevAns w W H ls) := by
 obtain ⟨A, cap, rfl, hl, ha⟩ := h
 by_cases hc : sizedB W H = false ∨ (sizedB W H = true /\ 200 < W) ∨ (sizedB W H = true /\ W <= 200 /\ 200 < H) ∨ (sizedB W H = true /\ W <= 200 /\ H <= 200 /\ (4 : Int) < ls.length)
 ·have e : sevB W H ls = false := by
   unfold sevB
   rcases hc with h | ⟨_, h⟩ | ⟨_, _, h⟩ | ⟨_, _, _, h⟩
   ·simp [h]
   ·rw [decide_eq_false (show ¬ W <= 200 by omega)]; simp
   ·rw [decide_eq_false (show ¬ H <= 200 by omega)]; simp
   ·rw [decide_eq_false (show ¬ ls.length <= 4 by omega)]; simp
  refine (several_not W H A ls.length cap w hc).mono ?_
  rintro e' w' ⟨rfl, hs⟩
  exact ⟨_, _, by rw [e], fun h => (by rw [e] at h; cases h), hs⟩
 ·have hs : sizedB W H = true := by
   cases h : sizedB W H
   ·exact absurd (.inl h) hc
   ·rfl
  have hW : W <= 200 := by rcases Int.lt_or_le 200 W with h | h; exact absurd (.inr (.inl ⟨hs, h⟩)) hc; exact h
  have hH : H <= 200 := by rcases Int.lt_or_le 200 H with h | h; exact absurd (.inr (.inr (.inl ⟨hs, hW, h⟩))) hc; exact h
  have h4 : ls.length <= 4 := by
   rcases Int.lt_or_le 4 (ls.length : Int) with h | h
   ·exact absurd (.inr (.inr (.inr ⟨hs, hW, hH, h⟩))) hc
   ·omega
  have e : sevB W H ls = sevTest W H ls := by
   unfold sevB
   rw [hs, decide_eq_true hW, decide_eq_true hH, decide_eq_true h4]
   rfl
  cases ls with
  | nil =>
   refine (several_none W H A cap w hs hW hH).mono ?_
   rintro e' w' ⟨rfl, hsm⟩
   exact ⟨_, _, by rw [e]; rfl, fun _ => SevS.start _ hsm, hsm⟩
  | cons a t =>
   obtain ⟨g, off, rfl, hc⟩ := ha (by simp)
   refine (several_cons W H (a :: t) g off cap w (by simp) h4 hs hW hH hc).mono ?_
   rintro e' w' ⟨v, v', rfl, hst, hsm⟩
   exact ⟨v, v', by rw [e], fun h => hst (by rw [<- e]; exact h), hsm⟩
@[local go_sem ↓] theorem run_maxS {P : Program} {w : World} (ts : Array TypeId) (t : TypeId) (k k1 : IntKind) (x y : Int) : (Builtin.max_ ts t #[.int k x, .int k1 y]).run P w = .ok (.int k (imax x y)) w := by
 have e : imax x y = if x < y then y else x := by unfold imax; split <;> split <;> omega
 rw [e]
 simp [Builtin.max_, Builtin.max2]
set_option maxHeartbeats 1000000 in
set_option maxRecDepth 100000 in
theorem slack_cons (l : List Edge) (g off cap : Nat) (w : World) (hpos : 0 < l.length) (hlen : l.length <= 1000) (hp : EdgesCells w w.heap.size g off l) (hnear : ∀ e ∈ l, Edge17 e) :
  Calls Try.prog 30 #[.slice (some ⟨g, off, none⟩) l.length cap] w fun e w' => e = .returned (.float .f64 (slackW l)) /\ Same w w' := by
 have HP := hid hp
 have HNE := hid hnear
 have hbw : 0 <= rowsAll l 0 * (l.length : Int) /\ rowsAll l 0 * (l.length : Int) <= 529 * 1000 := by
  obtain ⟨r0, r1⟩ := rowsAll_bd hnear
  refine ⟨Int.mul_nonneg r0 (by omega), ?_⟩
  have a1 := Int.mul_le_mul_of_nonneg_right r1 (show (0 : Int) <= l.length by omega)
  omega
 obtain ⟨hb1, hb2⟩ := hbw
 clear hp hnear
 go_enter Try.func30, Try.ntmps30
 go_wp2_with fail
 go_loopw [3, 8] (fun r i wr => ∃ k : Nat, k <= l.length /\ i = .int .i64 k /\ r = .int .i64 (rowsAll (l.take k) 0) /\ Same w wr) (fun _ i _ => l.length - (intOf i).toNat)
 case atStart => exact ⟨0, Nat.zero_le _, rfl, rfl, Kept.refl _ _⟩
 case round =>
  obtain ⟨k, hk, rfl, rfl, q2⟩ := hrel
  by_cases hlt : k < l.length
  ·have hpc := HP.out.kept q2 (Nat.le_refl _) (fun _ _ hf => hf)
   obtain ⟨c0, c1, c2, c3⟩ := hpc.2 k hlt
   have hg : g < wr.heap.size := Nat.lt_of_lt_of_le hpc.1 q2.size
   have hN := HNE.out _ (List.getElem_mem hlt)
   have hnext : rowsAll (l.take (k + 1)) 0 = imax (rowsAll (l.take k) 0) (rowsE l[k]) := by rw [List.take_succ_eq_append_getElem hlt, rowsAll_snoc]
   have hbd := rowsAll_bd (es := l.take k) fun e he => HNE.out e (List.mem_of_mem_take he)
   generalize l[k] = e at c0 c1 c2 c3 hN hnext
   generalize rowsAll (l.take k) 0 = r at hnext hbd
   obtain ⟨⟨x0, y0⟩, ⟨x1, y1⟩⟩ := e
   obtain ⟨⟨n1, n2⟩, ⟨n3, n4⟩, ⟨n5, n6⟩, ⟨n7, n8⟩⟩ := hN
   simp only at c0 c1 c2 c3 n1 n2 n3 n4 n5 n6 n7 n8
   have hm0 : 0 <= imax (y0 - y1) (y1 - y0) /\ imax (y0 - y1) (y1 - y0) <= 33792 := by unfold imax; split <;> omega
   obtain ⟨m1, m2⟩ := hm0
   have htd : (imax (y0 - y1) (y1 - y0) + 63).tdiv 64 = (imax (y0 - y1) (y1 - y0) + 63) / 64 := Int.tdiv_eq_ediv_of_nonneg (by omega)
   have hN2 : rowsAll (l.take (k + 1)) 0 = imax r ((imax (y0 - y1) (y1 - y0) + 63).tdiv 64 + 1) := by rw [htd]; exact hnext
   have htb : 0 <= (imax (y0 - y1) (y1 - y0) + 63).tdiv 64 /\ (imax (y0 - y1) (y1 - y0) + 63).tdiv 64 <= 600 := by rw [htd]; omega
   obtain ⟨b1, b2⟩ := htb
   obtain ⟨r1, r2⟩ := hbd
   have HN := hid hN2
   have Q2 := hid q2
   clear hpc hnext q2 hN2 htd
   go_wp2_with fail
   go_roundw
   case measure => simp [intOf]; omega
   case rel => exact ⟨k + 1, by omega, by go_num, by rw [HN.out], Q2.out.alloc _⟩
  ·obtain rfl : k = l.length := by omega
   rw [List.take_of_length_le (Nat.le_refl _)]
   have Q2 := hid q2
   clear q2
   go_wp2_with fail
   go_ret
   exact ⟨rfl, Q2.out⟩
set_option maxRecDepth 100000 in
theorem slack_none (A : Option Addr) (cap : Nat) (w : World) :
  Calls Try.prog 30 #[.slice A 0 cap] w fun e w' => e = .returned (.float .f64 (slackW [])) /\ Same w w' := by
 have e : slackW [] = floatOfInt .f64 4 := rfl
 rw [e]
 go_enter Try.func30, Try.ntmps30
 go_wp2_with fail
 go_loopw [3, 8] (fun r i wr => i = .int .i64 0 /\ r = .int .i64 0 /\ Same w wr) (fun _ i _ => 0)
 case atStart => exact ⟨rfl, rfl, Kept.refl _ _⟩
 case round =>
  obtain ⟨rfl, rfl, hs⟩ := hrel
  go_wp2_with fail
  go_ret
  exact ⟨rfl, hs⟩
theorem slack_own (es : List Edge) (v : Value) {D : Nat} (w : World) (hlen : es.length <= 1000) (hp : w.ownsRow D 78 4 v es.length (edgeCells es)) (hnear : ∀ e ∈ es, Edge17 e) :
  Calls Try.prog 30 #[v] w fun e w' => e = .returned (.float .f64 (slackW es)) /\ Same w w' := by
 rcases Nat.eq_zero_or_pos es.length with h0 | h0
 ·have he := List.length_eq_zero_iff.1 h0
  subst he
  rcases hp.2 with ⟨rfl, _⟩ | ⟨g, cap, cur, rfl, _⟩
  ·exact slack_none none 0 w
  ·exact slack_none _ cap w
 ·obtain ⟨g, cap, rfl, _, _⟩ := hp.form h0
  exact slack_cons es g 0 cap w h0 hlen (edges_own hp rfl h0) hnear
theorem near_yes {b : Int} {area far : Nat} (w : World) (h : CloseOk b area far) (hb : closeB b area far = true) :
  Calls Try.prog 45 #[.int .u8 b, .float .f64 area, .float .f64 far] w fun e w' => e = .returned (.bool true) /\ w = w' := by
 have := near_any b area far w h
 rwa [hb] at this
theorem idx_in2 {W H x y : Nat} (hy : y < H) (hx : x < W) : y * W + x < W * H := by
 have h1 : (y + 1) * W <= H * W := Nat.mul_le_mul_right W hy
 rw [Nat.add_mul, Nat.one_mul, Nat.mul_comm H W] at h1
 omega
set_option maxHeartbeats 4000000 in
set_option maxRecDepth 100000 in
theorem nearMask (bs : List Int) (d dcap W H : Nat) (es : List Edge) (v : Value) (far : Nat) (w : World) (hW : W <= 600) (hH : H <= 600) (hbs : bs.length = W * H) (hd : Blk w d 5 (byteCells bs)) (hall : NearAll bs W H es far)
  (harea : ∀ (X Y : Nat) (wr : World), X < W -> Y < H -> Same w wr -> AreaOk es X Y -> Calls Try.prog 46 #[v, .int .i64 X, .int .i64 Y, .int .i64 64] wr fun e w' => e = .returned (.float .f64 (areaW es X Y)) /\ Same wr w') :
  Calls Try.prog 29 #[.slice (some ⟨d, 0, none⟩) (W * H) dcap, .int .i64 W, .int .i64 H, v, .int .i64 64, .float .f64 far] w fun e w' => e = .returned (.bool true) /\ Same w w' := by
 have HD := hid hd
 have HALL := hid hall
 have HAR := hid harea
 have HBS := hid hbs
 have hn : W * H <= 360000 := Nat.mul_le_mul hW hH
 have hn2 : (W : Int) * (H : Int) <= 360000 := by rw [<- Int.natCast_mul]; omega
 have hn0 : 0 <= (W : Int) * (H : Int) := Int.mul_nonneg (by omega) (by omega)
 have hne : (((W * H : Nat) : Int) != (W : Int) * (H : Int)) = false := by rw [Int.natCast_mul]; simp
 clear hd hall harea hbs
 go_enter Try.func29, Try.ntmps29
 go_wp2_with fail
 go_loopw [22] (fun i wr => ∃ y : Nat, y <= H /\ i = .int .i64 y /\ Same w wr) (fun i _ => H - (intOf i).toNat)
 case atStart => exact ⟨0, Nat.zero_le _, rfl, Kept.refl _ _⟩
 case round =>
  obtain ⟨y, hy, rfl, hsy⟩ := hrel
  have HSY := hid hsy
  clear hsy
  by_cases hyl : y < H
  ·obtain ⟨wo, rfl⟩ : ∃ wo : World, wo = wr := ⟨_, rfl⟩
   have hyi : (y : Int) < (H : Int) := by omega
   go_wp2_with fail
   go_loopw [26] (fun i wr => ∃ x : Nat, x <= W /\ i = .int .i64 x /\ Same w wr) (fun i _ => W - (intOf i).toNat)
   case atStart => exact ⟨0, Nat.zero_le _, rfl, HSY.out⟩
   case round =>
    obtain ⟨x, hx, rfl, hsx⟩ := hrel
    have HSX := hid hsx
    clear hsx
    by_cases hxl : x < W
    ·have hidx := idx_in2 hyl hxl
     obtain ⟨b, f1, f2, f3, f4⟩ := HALL.out y x hyl hxl
     have e1 : IntKind.i64.wrap ((y : Int) * (W : Int)) = (y : Int) * (W : Int) := by
      rw [<- Int.natCast_mul]
      exact IntWalk.i64_in _ (by omega)
     obtain ⟨k, hk⟩ : ∃ k, k = y * W + x := ⟨_, rfl⟩
     have e2 : IntKind.i64.wrap ((y : Int) * (W : Int) + (x : Int)) = (k : Int) := by rw [hk]; push_cast; exact IntWalk.i64_in _ (by rw [<- Int.natCast_mul]; omega)
     rw [<- hk] at f1 hidx
     have c1 : wr.cell? ⟨d, k, none⟩ = some (.int .u8 b) := by
      rw [byte_cell (HSX.out.blk HD.out id) (by rw [HBS.out]; omega)]
      simp [List.getD, f1]
     have hdl : d < wr.heap.size := World.block_lt_of_cell? wr ⟨d, k, none⟩ c1
     have C1 := hid c1
     have hki : (k : Int) < ((W * H : Nat) : Int) := by omega
     have hki2 : (k : Int) < (W : Int) * (H : Int) := by rw [<- Int.natCast_mul]; exact hki
     have hkn : k < W * H := hidx
     have AR := hid (HAR.out x y wr.drew hxl hyl HSX.out.drew f2)
     have NR := hid (fun wz => near_yes wz f3 f4)
     have hxi : (x : Int) < (W : Int) := by omega
     generalize areaW es x y = area at AR NR
     clear f1 f2 f3 f4 hk hidx
     go_wp2_with fail
     go_region_held3 (fun w' => w'.cell? ⟨d, k, none⟩ = some (.int .u8 b))
      (first
       | exact C1.out
       | exact (T1.out.cell (p := ⟨d, k, none⟩) hdl (fun hf => hf)).trans C1.out)
      (first
       | (go_at_call 46; refine AR.out.mono ?_; rintro e w1 ⟨rfl, t1⟩; have T1 := hid t1; clear t1)
       | (go_at_call 45; refine (NR.out _).mono ?_; rintro e w2 ⟨rfl, rfl⟩))
     go_wp2_with fail
     go_roundw
     case measure => simp [intOf]; omega
     case rel => exact ⟨x + 1, by omega, by go_num, HSX.out.drew.trans T1.out⟩
    ·obtain rfl : x = W := by omega
     go_wp2_with fail
     go_roundw
     case measure => simp [intOf]; omega
     case rel => exact ⟨y + 1, by omega, by go_num, HSX.out⟩
  ·obtain rfl : y = H := by omega
   go_wp2_with fail
   go_ret
   exact ⟨rfl, HSY.out⟩
end Go.Proofs.Ytmgcbodlolnheaa
namespace Go.Proofs.Ytmgcbodlolnheaa
open Flt
open Go.ChangeShapes Go.WideShapes Go.ChangeAt Go.RowKit Go.Deep
set_option linter.unusedVariables false
theorem R64.ofIntEq {x : Rat} {r : Nat} (h : R64 x r) {n : Int} (hx : x = n) (h1 : -4503599627370496 <= n) (h2 : n <= 4503599627370496) : VV r = n := by
 have hr : Rep Ieee.double x := ⟨n, 0, by rw [p2_zero, hx, Rat.mul_one], by rw [binade_double]; omega, by rw [binade_double]; omega, by rw [least_double]; decide⟩
 have := Rounds.exact h hr
 rw [hx] at this
 exact this
theorem R64.geInt {x : Rat} {r : Nat} (h : R64 x r) {n : Int} (hx : (n : Rat) <= x) (h1 : -4503599627370496 <= n) (h2 : n <= 4503599627370496) : (n : Rat) <= VV r :=
 Rounds.dn h _ ⟨n, 0, by rw [p2_zero, Rat.mul_one], by rw [binade_double]; omega, by rw [binade_double]; omega, by rw [least_double]; decide⟩ hx
theorem c4d : F64 4616189618054758400 /\ VV 4616189618054758400 = 4 := by
 obtain ⟨h1, h2⟩ := read_VV (a := 4616189618054758400) (s := false) (m := 4503599627370496) (e := -50) (by decide)
 refine ⟨h1, ?_⟩
 rw [h2]
 have := p2_neg 50
 simp only [sgn]
 push_cast at this ⊢
 grind
theorem c100d : F64 4636737291354636288 /\ VV 4636737291354636288 = 100 := by
 obtain ⟨h1, h2⟩ := read_VV (a := 4636737291354636288) (s := false) (m := 7036874417766400) (e := -46) (by decide)
 refine ⟨h1, ?_⟩
 rw [h2]
 have := p2_neg 46
 simp only [sgn]
 push_cast at this ⊢
 grind
def driftW (es : List (Pt × Pt)) : Nat := fop64 .add 4611686018427387904 (fop64 .quo (fop64 .sub (slackW es) 4616189618054758400) 4636737291354636288)
structure DriftOk (es : List (Pt × Pt)) : Prop where
 o1 : Fok64 .sub (slackW es) 4616189618054758400
 o2 : Fok64 .quo (fop64 .sub (slackW es) 4616189618054758400) 4636737291354636288
 o3 : Fok64 .add 4611686018427387904 (fop64 .quo (fop64 .sub (slackW es) 4616189618054758400) 4636737291354636288)
theorem drift_num {es : List (Pt × Pt)} (h : ∀ e ∈ es, Edge17 e) (hn : es.length <= 200) : DriftOk es /\ F64 (driftW es) /\
  ab (VV (driftW es) - (2 + (rowsAll es 0 : Rat) * es.length / 100)) <= 1 / 100000000000 /\ ((2 + rowsAll es 0 * es.length / 100 : Int) : Rat) <= VV (driftW es) := by
 obtain ⟨s1, s2⟩ := slack_val h hn
 obtain ⟨r0, r1⟩ := rowsAll_bd h
 obtain ⟨M, hM⟩ : ∃ M : Int, M = rowsAll es 0 * es.length := ⟨_, rfl⟩
 have hM0 : 0 <= M := by rw [hM]; exact Int.mul_nonneg r0 (by omega)
 have hM1 : M <= 105800 := by
  rw [hM]
  have a1 := Int.mul_le_mul_of_nonneg_right r1 (show (0 : Int) <= es.length by omega)
  omega
 have hMR : (rowsAll es 0 : Rat) * es.length = (M : Rat) := by rw [hM]; push_cast; rfl
 rw [hMR] at s2 ⊢
 rw [<- hM]
 have hc0 := castLe hM0
 have hc1 := castLe hM1
 rw [cast_zero] at hc0
 push_cast at hc1
 obtain ⟨c1, c2⟩ := c4d
 obtain ⟨d1, d2⟩ := c100d
 obtain ⟨t1, t2⟩ := two64
 have h1022 : (1000000000000000000000000000000 : Rat) <= p2 1022 := big1022 Rat.le_refl
 have h1021 : (1000000000000000000000000000000 : Rat) <= p2 1021 := big1021 Rat.le_refl
 obtain ⟨o1, q1⟩ := fsub64_ok s1 c1 (by rw [s2, c2]; exact Rat.le_trans (ab_le (y := 1000000) (by grind) (by grind)) (by grind))
 rw [s2, c2] at q1
 have e1 : 4 + (M : Rat) - 4 = (M : Rat) := by grind
 rw [e1] at q1
 have v1 := q1.ofIntEq rfl (by omega) (by omega)
 have hq1 := q1.fin
 obtain ⟨o2, q2⟩ := fquo64_ok hq1 d1 (by rw [d2]; decide) (by
  rw [d2, v1, ab_of_nonneg hc0]
  have e : ab (100 : Rat) = 100 := ab_of_nonneg (by grind)
  rw [e]
  grind)
 rw [v1, d2] at q2
 have hF := castLe (show 100 * (M / 100) <= M by omega)
 push_cast at hF
 have g2 := q2.geInt (n := M / 100) (by grind) (by omega) (by omega)
 have n2 := q2.near2 (M := 2000) (ab_le (by grind) (by grind))
 have hq2 := q2.fin
 obtain ⟨o3, q3⟩ := fadd64_ok t1 hq2 (by
  rw [t2]
  obtain ⟨a, b⟩ := ab_iff.1 n2
  exact Rat.le_trans (ab_le (y := 10000) (by grind) (by grind)) (by grind))
 rw [t2] at q3
 have g3 := q3.geInt (n := 2 + M / 100) (by push_cast; grind) (by omega) (by omega)
 have n3 := q3.near2 (M := 3000) (by obtain ⟨a, b⟩ := ab_iff.1 n2; exact ab_le (by grind) (by grind))
 refine ⟨⟨o1, o2, o3⟩, q3.fin, ?_, g3⟩
 obtain ⟨a, b⟩ := ab_iff.1 n2
 obtain ⟨a2, b2⟩ := ab_iff.1 n3
 unfold driftW
 exact ab_le (by grind) (by grind)
set_option maxRecDepth 100000 in
theorem drift_own (es : List Edge) (v : Value) {D : Nat} (w : World) (hlen : es.length <= 1000) (hp : w.ownsRow D 78 4 v es.length (edgeCells es)) (hnear : ∀ e ∈ es, Edge17 e) (hok : DriftOk es) :
  Calls Try.prog 31 #[v] w fun e w' => e = .returned (.float .f64 (driftW es)) /\ Same w w' := by
 have HS := hid (slack_own es v w hlen hp hnear)
 obtain ⟨o1, o2, o3⟩ := hok
 unfold driftW
 clear hp hnear hlen
 generalize slackW es = s at *
 go_enter Try.func31, Try.ntmps31
 go_wp2_with fail
 refine HS.out.mono ?_
 rintro e w' ⟨rfl, t⟩
 have T := hid t
 clear t
 go_wp2_with fail
 go_ret
 exact ⟨rfl, T.out⟩
@[local go_sem ↓] theorem run_maxD {P : Program} {w : World} (ts : Array TypeId) (t : TypeId) (k k1 : IntKind) (x y : Int) : (Builtin.max_ ts t #[.int k x, .int k1 y]).run P w = .ok (.int k (imax x y)) w := by
 have e : imax x y = if x < y then y else x := by unfold imax; split <;> split <;> omega
 rw [e]
 simp [Builtin.max_, Builtin.max2]
end Go.Proofs.Ytmgcbodlolnheaa
