/-
  With floating numbers, of a closed path of at most four curves no pixel is covered that is out of the box of all their points. No condition beyond the statement's own.
-/
import Derived.Test.YtmgcbodlolnheaaZCLaw
import Derived.Test.YtmgcbodlolnheaaZNearLaw
import Derived.Test.YtmgcbodlolnheaaZEqual
namespace Go.Proofs.Ytmgcbodlolnheaa.fnCur
open Go.ChangeShapes Go.WideShapes Go.ChangeAt Go.RowKit Go.Deep
set_option linter.unusedVariables false

/-! ### calls whose coordinates lie in rows of their own -/
def OpsG (w : World) (D : Nat) : List (Int × List Int) → List Value → Prop
  | [], [] => True
  | o :: t, a :: b :: r => a = .int .i64 o.1 ∧ w.ownsRow D 3 1 b o.2.length (o.2.map (Value.int .i64)) ∧ OpsG w D t r
  | _, _ => False
theorem row_to {w w' : World} {D n : Nat} {v : Value} {xs : List Value} (h : w.ownsRow D 3 1 v n xs) (hk : ∀ g cs, D ≤ g → Blk w g 3 cs → Blk w' g 3 cs) : w'.ownsRow D 3 1 v n xs := by
  refine ⟨h.1, ?_⟩
  rcases h.2 with hn | ⟨g, cap, cur, rfl, h1, h2, h3⟩
  · exact .inl hn
  · exact .inr ⟨g, cap, cur, rfl, h1, hk g cur h1 h2, h3⟩
theorem OpsG.to {w w' : World} {D : Nat} (hk : ∀ g cs, D ≤ g → Blk w g 3 cs → Blk w' g 3 cs) : ∀ {ops : List (Int × List Int)} {xs : List Value}, OpsG w D ops xs → OpsG w' D ops xs
  | [], [], _ => trivial
  | o :: t, [], h => h.elim
  | o :: t, [a], h => h.elim
  | o :: t, a :: b :: r, h => ⟨h.1, row_to h.2.1 hk, OpsG.to hk h.2.2⟩
  | [], a :: r, h => h.elim
theorem OpsG.snoc {w : World} {D : Nat} {o : Int × List Int} {b : Value} (hb : w.ownsRow D 3 1 b o.2.length (o.2.map (Value.int .i64))) : ∀ {ops : List (Int × List Int)} {xs : List Value}, OpsG w D ops xs → OpsG w D (ops ++ [o]) (xs ++ [.int .i64 o.1, b])
  | [], [], _ => ⟨rfl, hb, trivial⟩
  | o' :: t, [], h => h.elim
  | o' :: t, [a], h => h.elim
  | o' :: t, a :: c :: r, h => ⟨h.1, h.2.1, OpsG.snoc hb h.2.2⟩
  | [], a :: r, h => h.elim
theorem OpsG.at {w : World} {D : Nat} : ∀ {ops : List (Int × List Int)} {xs : List Value}, OpsG w D ops xs → ∀ j, (h : j < ops.length) → ∃ b, xs[j * 2]? = some (.int .i64 (ops[j]).1) ∧ xs[j * 2 + 1]? = some b ∧ w.ownsRow D 3 1 b (ops[j]).2.length ((ops[j]).2.map (Value.int .i64))
  | [], _, _, j, h => by simp at h
  | o :: t, [], h, _, _ => h.elim
  | o :: t, [a], h, _, _ => h.elim
  | o :: t, a :: b :: r, h, 0, _ => ⟨b, by simp [h.1], by simp, h.2.1⟩
  | o :: t, a :: b :: r, h, j + 1, hj => by
    obtain ⟨c, h1, h2, h3⟩ := OpsG.at h.2.2 j (by simpa using hj)
    have e1 : (j + 1) * 2 = j * 2 + 1 + 1 := by omega
    refine ⟨c, ?_, ?_, by simpa using h3⟩
    · rw [e1]; simpa using h1
    · rw [e1]; simpa using h2
theorem row_ints {w : World} {D : Nat} {v : Value} {ps : List Int} (hl : ps.length ≤ 9223372036854775807) (h : w.ownsRow D 3 1 v ps.length (ps.map (Value.int .i64))) : IntsAt w w.heap.size v ps := by
  have hlt := h.lt
  rcases id h.2 with ⟨rfl, h0⟩ | ⟨g, cap, cur, rfl, h1, h2, h3⟩
  · exact ⟨none, 0, by rw [h0], by omega, fun hp => by omega⟩
  · refine ⟨_, cap, rfl, hl, fun _ => ⟨g, 0, rfl, (hlt g rfl).2, fun j p hj => ?_⟩⟩
    have hc := h.cells (g := g) rfl
    have ha : (⟨g, 0, none⟩ : Addr).add j = ⟨g, 0 + j, none⟩ := by unfold Addr.add; split <;> simp_all
    have := hc j (.int .i64 p) (by rw [List.getElem?_map, hj]; rfl)
    rw [ha] at this
    exact this
theorem opsAt_G {w : World} {D D' n : Nat} {v : Value} {xs : List Value} {ops : List (Int × List Int)} (hn : ops.length = n) (hlen : n ≤ 9223372036854775807) (h : w.ownsRow D 31 2 v n xs) (ho : OpsG w D' ops xs) (hs : ∀ o ∈ ops, o.2.length ≤ 1000) : OpsAt w w.heap.size v ops := by
  rcases h.2 with ⟨rfl, rfl⟩ | ⟨g, cap, cur, rfl, hg, hb, hnc, hcm, hcs, htake⟩
  · exact ⟨none, 0, by rw [hn], by omega, fun hp => by omega⟩
  · refine ⟨_, cap, by rw [hn], by omega, fun hp => ⟨g, 0, rfl, ?_, fun j hj => ?_⟩⟩
    · exact (show Blk w g 31 cur from hb).lt
    · obtain ⟨b, h1, h2, h3⟩ := ho.at j hj
      have hc := h.cellAt (g := g) (cap := cap)
      refine ⟨b, ?_, ?_, row_ints (by have := hs _ (List.getElem_mem hj); omega) h3⟩
      · rw [Nat.zero_add, hc (j * 2) (by omega), h1]
      · rw [Nat.zero_add, hc (j * 2 + 1) (by omega), h2]
theorem cells_new {w : World} (n : Nat) (hn : n = w.heap.size) (t : TypeId) (a b : Value) : ∀ (j : Nat) (u : Value), [a, b][j]? = some u → (w.alloc (.cells #[a, b] t)).cell? ((⟨n, 0, none⟩ : Addr).add j) = some u := by
  subst hn
  exact cells_new1 t a b
def allC (b : Int × Int) (ls : List (List (Int × Int))) : List (Int × Int) := b :: ls.flatMap id
theorem allC_snoc (b : Int × Int) (ls : List (List (Int × Int))) (c : List (Int × Int)) : allC b (ls ++ [c]) = allC b ls ++ c := by simp [allC]
/-- What holds of the calls and the points so far. -/
structure CurS (w : World) (b : Int × Int) (ls : List (List (Int × Int))) (v v' : Value) (wr : World) : Prop where
  ops : ∃ xs, wr.ownsRow w.heap.size 31 2 v (ls.length + 1) xs ∧ OpsG wr w.heap.size ((0, [b.1, b.2]) :: ls.map crvOp) xs
  all : wr.ownsRow w.heap.size 28 2 v' (allC b ls).length (ptCells (allC b ls))
  same : Same w wr
theorem row_base {w : World} {D D' n : Nat} {v : Value} {xs : List Value} (h : w.ownsRow D 3 1 v n xs) (hD : D' ≤ D) : w.ownsRow D' 3 1 v n xs := by
  refine ⟨h.1, ?_⟩
  rcases h.2 with hn | ⟨g, cap, cur, rfl, h1, h2, h3⟩
  · exact .inl hn
  · exact .inr ⟨g, cap, cur, rfl, by omega, h2, h3⟩
theorem CurS.next {w wo wr w3 w5 : World} {b : Int × Int} {ls : List (List (Int × Int))} {c : List (Int × Int)} {v v' v3 v5 vP : Value} {xs : List Value} (h : CurS w b ls v v' wo) (hsm : Same wo wr)
    (hP : wr.ownsRow wo.heap.size 3 1 vP (flatPts c).length ((flatPts c).map (Value.int .i64))) (hx : wo.ownsRow w.heap.size 31 2 v (ls.length + 1) xs) (ho : OpsG wo w.heap.size ((0, [b.1, b.2]) :: ls.map crvOp) xs)
    (hown3 : w3.ownsRow w.heap.size 31 2 v3 (ls.length + 1 + 1) (xs ++ [.int .i64 (c.length : Int), vP])) (hgrow3 : (wr.alloc (Obj.cells #[.int .i64 (c.length : Int), vP] 31)).grownBy w3 v.ownBlock)
    (hown5 : w5.ownsRow w.heap.size 28 2 v5 ((allC b ls).length + c.length) (ptCells (allC b ls) ++ ptCells c)) (hgrow5 : w3.grownBy w5 v'.ownBlock) : CurS w b (ls ++ [c]) v3 v5 w5 := by
  have x1 := (own_sameW hx hsm).alloc (Obj.cells #[.int .i64 (c.length : Int), vP] 31)
  have a1 := own_other ((own_sameW h.all hsm).alloc (Obj.cells #[.int .i64 (c.length : Int), vP] 31)) x1 (by decide) hgrow3
  have k3 : ∀ g cs, Blk wr g 3 cs → Blk w5 g 3 cs := fun g cs hb => grown_blk a1 hgrow5 (by decide) (grown_blk x1 hgrow3 (by decide) (hb.alloc _))
  refine ⟨⟨xs ++ [.int .i64 (c.length : Int), vP], ?_, ?_⟩, ?_, ?_⟩
  · rw [List.length_append]
    exact own_other hown3 a1 (by decide) hgrow5
  · rw [List.map_append, ← List.cons_append]
    refine OpsG.snoc (o := crvOp c) ?_ (OpsG.to (fun g cs _ hb => k3 g cs (hsm.blk hb id)) ho)
    exact row_base (row_to hP fun g cs _ hb => k3 g cs hb) h.same.size
  · rw [allC_snoc, List.length_append]
    have e : ptCells (allC b ls ++ c) = ptCells (allC b ls) ++ ptCells c := by simp [ptCells]
    rw [e]
    exact hown5
  · exact grown_same a1 (Nat.le_refl _) (grown_same x1 (Nat.le_refl _) ((h.same.trans hsm).alloc _) hgrow3) hgrow5
theorem allC_len {b : Int × Int} : ∀ {ls : List (List (Int × Int))}, (∀ c ∈ ls, Two3 c) → (allC b ls).length ≤ 1 + 3 * ls.length
  | [], _ => by simp [allC]
  | c :: t, h => by
    have ih := allC_len (b := b) (ls := t) fun c hc => h c (by simp [hc])
    have h1 := h c (by simp)
    have h2 : c.length ≤ 3 := by rcases h1 with h | h <;> omega
    simp only [allC, List.flatMap_cons, List.length_cons, List.length_append, id] at ih ⊢
    omega
theorem pts_news {w : World} {B g off : Nat} {c : List (Int × Int)} (h : PtsCells w B g off c) : ∀ i u, (ptCells c)[i]? = some u → w.cell? ((⟨g, off, none⟩ : Addr).add i) = some u := by
  intro i u hu
  have hi : i < (ptCells c).length := (List.getElem?_eq_some_iff.1 hu).1
  rw [length_ptCells] at hi
  have ha : ∀ i, (⟨g, off, none⟩ : Addr).add i = ⟨g, off + i, none⟩ := by intro i; unfold Addr.add; split <;> simp_all
  rw [ha]
  have hj : i / 2 < c.length := by omega
  obtain ⟨c0, c1⟩ := h.2 (i / 2) hj
  obtain ⟨d0, d1⟩ := ptCells_at c (i / 2) hj
  rcases Nat.mod_two_eq_zero_or_one i with e | e
  · have e2 : i / 2 * 2 = i := by omega
    rw [e2] at c0 d0
    rw [c0, ← hu, d0]
  · have e2 : i / 2 * 2 + 1 = i := by omega
    rw [e2] at d1
    rw [Nat.add_assoc, e2] at c1
    rw [c1, ← hu, d1]
theorem ptCells_one (c : List (Int × Int)) : ∀ u ∈ ptCells c, u.oneCell' = true := by
  intro u hu
  unfold ptCells at hu
  obtain ⟨q, _, hq⟩ := List.mem_flatMap.1 hu
  simp only [List.mem_cons, List.not_mem_nil, or_false] at hq
  rcases hq with rfl | rfl <;> rfl
@[local go_sem ↓] theorem run_minC {P : Program} {w : World} (ts : Array TypeId) (t : TypeId) (k k1 : IntKind) (x y : Int) : (Builtin.min_ ts t #[.int k x, .int k1 y]).run P w = .ok (.int k (imin x y)) w := by
  have e : imin x y = if y < x then y else x := by unfold imin; split <;> split <;> omega
  rw [e]
  simp [Builtin.min_, Builtin.min2]
@[local go_sem ↓] theorem run_maxC {P : Program} {w : World} (ts : Array TypeId) (t : TypeId) (k k1 : IntKind) (x y : Int) : (Builtin.max_ ts t #[.int k x, .int k1 y]).run P w = .ok (.int k (imax x y)) w := by
  have e : imax x y = if x < y then y else x := by unfold imax; split <;> split <;> omega
  rw [e]
  simp [Builtin.max_, Builtin.max2]
theorem imin_le (x y : Int) : imin x y ≤ x ∧ imin x y ≤ y := by unfold imin; split <;> omega
theorem imax_ge (x y : Int) : x ≤ imax x y ∧ y ≤ imax x y := by unfold imax; split <;> omega
/-- All points are in a box. -/
def BoxB (x0 y0 x1 y1 : Int) (pts : List (Int × Int)) : Prop := ∀ q ∈ pts, x0 ≤ q.1 ∧ q.1 ≤ x1 ∧ y0 ≤ q.2 ∧ q.2 ≤ y1
theorem BoxB.next {x0 y0 x1 y1 x y : Int} {pts : List (Int × Int)} (h : BoxB x0 y0 x1 y1 pts) : BoxB (imin x0 x) (imin y0 y) (imax x1 x) (imax y1 y) (pts ++ [(x, y)]) := by
  intro q hq
  have a1 := imin_le x0 x; have a2 := imin_le y0 y; have a3 := imax_ge x1 x; have a4 := imax_ge y1 y
  rw [List.mem_append, List.mem_singleton] at hq
  rcases hq with hq | rfl
  · have := h q hq; omega
  · simp only; omega
theorem nearB_far {pts : List (Int × Int)} {W H : Nat} (hW : W ≤ 64) (h : nearB pts (64 * (64 + imin W H)) = true) : ∀ q ∈ pts, Far64 q := by
  intro q hq
  unfold nearB at h
  rw [List.all_eq_true] at h
  have h1 := h q hq
  have hm := (imin_le (W : Int) (H : Int)).1
  simp only [Bool.and_eq_true, Bool.not_eq_true', beyondB, decide_eq_false_iff_not, not_or, Int.not_lt] at h1
  unfold Far64 In128
  omega
theorem cur_len {W H : Nat} (hW : 0 < W) (hH : H ≤ 64) {a : Pt} {l : List (List Pt)} (ha : Far64 a) (hl : ∀ c ∈ l, Two3 c ∧ ∀ q ∈ c, Far64 q) : (maskR true W H (curOps a l)).length = W * H := by
  rw [(mask_C hW hH (x0 := -128) (x1 := 128) (y0 := -128) (y1 := 128) (by decide) (by decide) (by decide) (by decide) ha.wide fun c hc => ⟨(hl c hc).1, fun q hq => ((hl c hc).2 q hq).wide⟩).1, length_floBytes, length_fadds]
  simp
theorem ops_short {b : Int × Int} {ls : List (List (Int × Int))} (h : ∀ c ∈ ls, Two3 c) : ∀ o ∈ curOps b ls, o.2.length ≤ 1000 := by
  intro o ho
  unfold curOps at ho
  rw [List.mem_cons, List.mem_append, List.mem_singleton, List.mem_map] at ho
  rcases ho with rfl | ⟨c, hc, rfl⟩ | rfl
  · simp
  · rcases (h c hc).cases with ⟨p, q, rfl⟩ | ⟨p, q, r, rfl⟩ <;> simp [crvOp, flatPts]
  · simp
/-- What the mask is to the law. -/
structure CurM (W H : Nat) (b : Int × Int) (ls : List (List (Int × Int))) (x0 y0 x1 y1 : Int) (m : List Int) : Prop where
  len : m.length = W * H
  out : ∀ X Y : Nat, X < W → Y < H → (x1 ≤ 64 * X ∨ 64 * (X : Int) + 64 ≤ x0 ∨ y1 ≤ 64 * Y ∨ 64 * (Y : Int) + 64 ≤ y0) → m[Y * W + X]? = some 0
theorem CurM.of {W H : Nat} (hW : 0 < W) (hW2 : W ≤ 64) (hH : H ≤ 64) {b : Int × Int} {ls : List (List (Int × Int))} {x0 y0 x1 y1 : Int} (h4 : ls.length ≤ 4) (h23 : ∀ c ∈ ls, Two3 c) (hfar : ∀ q ∈ allC b ls, Far64 q) (hbox : BoxB x0 y0 x1 y1 (allC b ls)) :
    MaskROk true W H (curOps b ls) ∧ CurM W H b ls x0 y0 x1 y1 (maskR true W H (curOps b ls)) := by
  have ha : Far64 b := hfar b (by simp [allC])
  have hl : ∀ c ∈ ls, Two3 c ∧ ∀ q ∈ c, Far64 q := fun c hc => ⟨h23 c hc, fun q hq => hfar q (List.mem_cons_of_mem _ (List.mem_flatMap.2 ⟨c, hc, hq⟩))⟩
  obtain ⟨k1, k2⟩ := cur_all hW hW2 hH h4 ha hl
  refine ⟨k1, cur_len hW hH ha hl, fun X Y hX hY ho => k2 X Y hX hY ?_⟩
  rcases ho with ho | ho | ho | ho
  · exact .inl fun q hq => by have := hbox q hq; omega
  · exact .inr (.inl fun q hq => by have := hbox q hq; omega)
  · exact .inr (.inr (.inl fun q hq => by have := hbox q hq; omega))
  · exact .inr (.inr (.inr fun q hq => by have := hbox q hq; omega))
theorem CurS.ops_end {w wo wr w5 : World} {b : Int × Int} {ls : List (List (Int × Int))} {v v1 : Value} {xs : List Value} (h23 : ∀ c ∈ ls, Two3 c) (h4 : ls.length ≤ 4) (hsm : Same wo wr)
    (hx : wo.ownsRow w.heap.size 31 2 v (ls.length + 1) xs) (ho : OpsG wo w.heap.size ((0, [b.1, b.2]) :: ls.map crvOp) xs)
    (hown : w5.ownsRow w.heap.size 31 2 v1 (ls.length + 1 + 1) (xs ++ [.int .i64 4, .slice none 0 0])) (hgrow : (wr.alloc (Obj.cells #[.int .i64 4, .slice none 0 0] 31)).grownBy w5 v.ownBlock) : OpsAt w5 w5.heap.size v1 (curOps b ls) := by
  have x1 := (own_sameW hx hsm).alloc (Obj.cells #[.int .i64 4, .slice none 0 0] 31)
  have k3 : ∀ g cs, Blk wo g 3 cs → Blk w5 g 3 cs := fun g cs hb => grown_blk x1 hgrow (by decide) ((hsm.blk hb id).alloc _)
  have e : curOps b ls = ((0, [b.1, b.2]) :: ls.map crvOp) ++ [(4, [])] := rfl
  refine opsAt_G (D' := w.heap.size) (n := ls.length + 1 + 1) ?_ (by omega) hown ?_ (ops_short h23)
  · rw [e]; simp
  · rw [e]
    exact OpsG.snoc (o := (4, [])) (World.ownsRow_nil _ _ _ _) (OpsG.to (fun g cs _ hb => k3 g cs hb) ho)
theorem CurS.start (w : World) (b0 b1 : Int) : CurS w (b0, b1) [] (.slice (some ⟨w.heap.size + 1, 0, none⟩) 1 1) (.slice (some ⟨w.heap.size + 1 + 1, 0, none⟩) 1 1)
    (((w.alloc (Obj.cells #[.int .i64 b0, .int .i64 b1] 3)).alloc (Obj.cells #[.int .i64 0, .slice (some ⟨w.heap.size, 0, none⟩) 2 2] 31)).alloc (Obj.cells #[.int .i64 b0, .int .i64 b1] 28)) := by
  have a0 := ((Blk.new w 3 #[.int .i64 b0, .int .i64 b1]).alloc (Obj.cells #[.int .i64 0, .slice (some ⟨w.heap.size, 0, none⟩) 2 2] 31)).alloc (Obj.cells #[.int .i64 b0, .int .i64 b1] 28)
  have a1 := (Blk.new (w.alloc (Obj.cells #[.int .i64 b0, .int .i64 b1] 3)) 31 #[.int .i64 0, .slice (some ⟨w.heap.size, 0, none⟩) 2 2]).alloc (Obj.cells #[.int .i64 b0, .int .i64 b1] 28)
  have a2 := Blk.new ((w.alloc (Obj.cells #[.int .i64 b0, .int .i64 b1] 3)).alloc (Obj.cells #[.int .i64 0, .slice (some ⟨w.heap.size, 0, none⟩) 2 2] 31)) 28 #[.int .i64 b0, .int .i64 b1]
  have e1 : (w.alloc (Obj.cells #[.int .i64 b0, .int .i64 b1] 3)).heap.size = w.heap.size + 1 := by simp
  have e2 : ((w.alloc (Obj.cells #[.int .i64 b0, .int .i64 b1] 3)).alloc (Obj.cells #[.int .i64 0, .slice (some ⟨w.heap.size, 0, none⟩) 2 2] 31)).heap.size = w.heap.size + 1 + 1 := by simp
  rw [e1] at a1
  rw [e2] at a2
  refine ⟨⟨[.int .i64 0, .slice (some ⟨w.heap.size, 0, none⟩) 2 2], ?_, rfl, ?_, trivial⟩, ?_, (((Kept.refl _ w).alloc _).alloc _).alloc _⟩
  · exact ⟨by simp, .inr ⟨w.heap.size + 1, 1, #[.int .i64 0, .slice (some ⟨w.heap.size, 0, none⟩) 2 2], rfl, by omega, a1, Nat.le_refl _, by unfold maxLen; omega, by simp, by simp⟩⟩
  · exact ⟨by simp, .inr ⟨w.heap.size, 2, #[.int .i64 b0, .int .i64 b1], rfl, Nat.le_refl _, a0, Nat.le_refl _, by unfold maxLen; omega, by simp, by simp⟩⟩
  · exact ⟨by simp [allC, ptCells], .inr ⟨w.heap.size + 1 + 1, 1, #[.int .i64 b0, .int .i64 b1], rfl, by omega, a2, Nat.le_refl _, by unfold maxLen; omega, by simp, by simp [allC, ptCells]⟩⟩
set_option maxHeartbeats 4000000 in
set_option maxRecDepth 100000 in
theorem walk_good (W H : Nat) (b0 b1 : Int) (ls : List (List (Int × Int))) (A : Option Addr) (cap : Nat) (w : World) (hW : W ≤ 64) (hH : H ≤ 64) (hs : sizedB (W : Int) (H : Int) = true) (hlen : ls.length ≤ 4) (hfit : fits2B ls = true) (hp : 0 < ls.length → ∃ g off, A = some ⟨g, off, none⟩ ∧ RowsCells w w.heap.size g off ls) :
    Calls Try.prog 7 #[.int .i64 W, .int .i64 H, .agg #[.int .i64 b0, .int .i64 b1], .slice A ls.length cap] w fun e w' => e = .returned (.bool true) ∧ Same w w' := by
  obtain ⟨s1, s2, s3, s4, s5⟩ := sizedB_iff.1 hs
  have HS := hid hs
  have HF := hid hfit
  obtain ⟨i31, hi31, hz310, hz311, hz312⟩ := info_parts info31
  obtain ⟨i28, hi28, hz280, hz281, hz282⟩ := info_parts info28
  obtain ⟨i3, hi3, hz30, hz31, hz32⟩ := info_parts info3
  have hn : W * H ≤ 65536 := by
    have : ((W * H : Nat) : Int) ≤ 65536 := by push_cast; exact s5
    omega
  clear hs hfit s5
  -- the variable begin
  have hB0 : Same w (w.alloc (Obj.cells #[.int .i64 b0, .int .i64 b1] 28)) := (Kept.refl _ w).alloc _
  have hB1 : Blk (w.alloc (Obj.cells #[.int .i64 b0, .int .i64 b1] 28)) w.heap.size 28 #[.int .i64 b0, .int .i64 b1] := Blk.new w 28 _
  have hB2 : (w.alloc (Obj.cells #[.int .i64 b0, .int .i64 b1] 28)).heap.size = w.heap.size + 1 := by simp
  go_enter Try.func7, Try.ntmps7
  go_wp2_with fail
  generalize w.alloc (Obj.cells #[.int .i64 b0, .int .i64 b1] 28) = wB at hB0 hB1 hB2 ⊢
  have hpB : 0 < ls.length → ∃ g off, A = some ⟨g, off, none⟩ ∧ RowsCells wB wB.heap.size g off ls := fun hpos => by
    obtain ⟨g, off, hA, hp⟩ := hp hpos
    have h1 := hp.kept hB0 (Nat.le_refl _) (fun _ _ h => h)
    have h2 := h1.1
    exact ⟨g, off, hA, by omega, fun j hj => by
      obtain ⟨pv, a, b⟩ := h1.2 j hj
      exact ⟨pv, a, b.mono (by omega)⟩⟩
  have HP := hid hpB
  have HB0 := hid hB0
  have HB1 := hid hB1
  have q0 : wB.cell? ⟨w.heap.size, 0, none⟩ = some (.int .i64 b0) := hB1.cell 0
  have q1 : wB.cell? ⟨w.heap.size, 1, none⟩ = some (.int .i64 b1) := hB1.cell 1
  have hbl : w.heap.size < wB.heap.size := by omega
  generalize w.heap.size = gb at HB1 q0 q1 hbl ⊢
  clear hB0 hB1 hB2 hp hpB
  refine (fits2_any ls _ _ ⟨_, cap, rfl, by omega, HP.out⟩).mono ?_
  rintro e w' ⟨rfl, rfl⟩
  rw [HF.out]
  go_wp2_with fail
  refine (sized_any W H _).mono ?_
  rintro e w' ⟨rfl, rfl⟩
  rw [HS.out]
  have st0 := hid (CurS.start wB b0 b1)
  go_wp2_with fail
  go_loopw [9, 10, 56] (fun v v' i wr => ∃ k : Nat, k ≤ ls.length ∧ i = .int .i64 k ∧ (∀ c ∈ ls.take k, Two3 c) ∧ CurS wB (b0, b1) (ls.take k) v v' wr) (fun _ _ i _ => ls.length - (intOf i).toNat)
  case atStart => exact ⟨0, Nat.zero_le _, rfl, fun c hc => by simp at hc, st0.out⟩
  case round =>
    obtain ⟨k, hk, rfl, h23, hst⟩ := hrel
    have H23 := hid h23
    have HST := hid hst
    clear h23 hst
    by_cases hlt : k < ls.length
    · obtain ⟨g, off, rfl, hpr⟩ := HP.out (by omega)
      have hgB : g < wB.heap.size := hpr.1
      obtain ⟨pv, c1, c2⟩ := hpr.2 k hlt
      have hc1 := (HST.out.same.cell (p := ⟨g, off + k, none⟩) hgB (fun hf => hf)).trans c1
      have hsz := HST.out.same.size
      have hg : g < wr.heap.size := by omega
      have htk : ls.take (k + 1) = ls.take k ++ [ls[k]] := List.take_succ_eq_append_getElem hlt
      generalize ls[k] = c at c2 htk
      obtain ⟨A, pcap, rfl, hl, hA⟩ := id c2
      have HTK := hid htk
      have HA := hid hA
      clear c1 c2 htk hA hpr
      by_cases t23 : Two3 c
      · have hcl : 0 < c.length := by rcases t23 with h | h <;> omega
        obtain ⟨gc, oc, rfl, hpc⟩ := HA.out hcl
        have HPC := hid hpc
        have hgc : gc < wB.heap.size := hpc.1
        have hgcr : gc < wr.heap.size := by omega
        have T23 := hid t23
        have n2 : (2 : Int) ≤ c.length := by rcases t23 with h | h <;> omega
        have n3 : (c.length : Int) ≤ 3 := by rcases t23 with h | h <;> omega
        have n4 : c.length ≤ 3 := by rcases t23 with h | h <;> omega
        obtain ⟨wo, rfl⟩ : ∃ wo : World, wo = wr := ⟨_, rfl⟩
        have hB : Blk (wo.alloc (Obj.cells #[.int .i64 (c.length : Int), .slice none 0 0] 31)) wo.heap.size 31 #[.int .i64 (c.length : Int), .slice none 0 0] := Blk.new wo 31 _
        clear t23 hpc HA
        go_wp2_with fail
        rw [show (2 : Int) + (c.length : Int) - 2 = (c.length : Int) by omega]
        go_loopw [75] (fun i wx => ∃ j : Nat, j ≤ c.length ∧ i = .int .i64 j ∧ ∃ vP, Blk wx wo.heap.size 31 #[.int .i64 (c.length : Int), vP] ∧ wx.ownsRow wo.heap.size 3 1 vP (2 * j) ((flatPts (c.take j)).map (Value.int .i64)) ∧ Same wo wx) (fun i _ => c.length - (intOf i).toNat)
        case atStart => exact ⟨0, Nat.zero_le _, rfl, _, hB, World.ownsRow_nil _ _ _ _, (Kept.refl _ wo).alloc _⟩
        case round =>
          obtain ⟨j, hj, rfl, vP, hbo, hrow, hsm⟩ := hrel
          have HBO := hid hbo
          have HRW := hid hrow
          have HSM := hid hsm
          have hszx := hsm.size
          have hol : wo.heap.size < wr.heap.size := hbo.lt
          have o0 : wr.cell? ⟨wo.heap.size, 0, none⟩ = some (.int .i64 (c.length : Int)) := hbo.cell 0
          have o1 : wr.cell? ⟨wo.heap.size, 1, none⟩ = some vP := hbo.cell 1
          have of1 := hbo.frozen 1
          clear hbo hrow hsm hB
          by_cases hjl : j < c.length
          · have hpc := HPC.out.kept (HST.out.same.trans HSM.out) (Nat.le_refl _) (fun _ _ hf => hf)
            obtain ⟨p0, p1⟩ := hpc.2 j hjl
            have hgcx : gc < wr.heap.size := by omega
            have htj : c.take (j + 1) = c.take j ++ [c[j]] := List.take_succ_eq_append_getElem hjl
            generalize c[j] = q at p0 p1 htj
            obtain ⟨x, y⟩ := q
            simp only at p0 p1
            have HTJ := hid htj
            have hji : (j : Int) < c.length := by omega
            clear htj hpc
            go_wp2_with (at_builtin; refine wpList_append_own _ rfl _ _ 29 rfl wo.heap.size 3 i3 (.int .i64 0) 1 8 Try.underlying29 hi3 hz30 hz31 hz32 rfl (by decide) _ _ _ rfl ((HRW.out.alloc _).alloc _) ⟨wr.heap.size + 1, 0, none⟩ 2 2 [.int .i64 x, .int .i64 y] rfl rfl ?c1 ?c2 ?c3 ?c4 ?c5 ?_)
            case c1 => exact cells_new _ (by simp) _ _ _
            case c2 => intro u hu; simp at hu; rcases hu with rfl | rfl <;> rfl
            case c3 => unfold maxLen; omega
            case c4 => omega
            case c5 => simp; omega
            intro v1 w5 hown hgrow _
            have hb5 := grown_blk ((HRW.out.alloc (Obj.cells #[.int .i64 x, .int .i64 y] 28)).alloc (Obj.cells #[.int .i64 x, .int .i64 y] 3)) hgrow (by decide) ((HBO.out.alloc _).alloc _)
            have hk5 : Same wo w5 := ((HSM.out.alloc _).alloc _).grown hgrow fun k hk => .inl (HRW.out.lt k hk).1
            have hrow5 : w5.ownsRow wo.heap.size 3 1 v1 (2 * (j + 1)) ((flatPts (c.take (j + 1))).map (Value.int .i64)) := by
              rw [HTJ.out]
              have e : (flatPts (c.take j ++ [(x, y)])).map (Value.int .i64) = (flatPts (c.take j)).map (Value.int .i64) ++ [.int .i64 x, .int .i64 y] := by simp [flatPts]
              rw [e, show 2 * (j + 1) = 2 * j + 2 by omega]
              exact hown
            obtain ⟨gv, cv, rfl, _, _⟩ := hrow5.form (by omega)
            have HB5 := hid hb5
            have HK5 := hid hk5
            have HR5 := hid hrow5
            have p5 : (w5.cell? ⟨wo.heap.size, 1, none⟩) = some vP := hb5.cell 1
            have f5 := hb5.frozen 1
            have l5 : wo.heap.size < w5.heap.size := hb5.lt
            clear hb5 hk5 hrow5 hown hgrow p0 p1
            go_wp2_with fail
            go_roundw
            case measure => simp [intOf]; omega
            case rel =>
              refine ⟨j + 1, by omega, by go_num, _, HB5.out.set_ 1 _, row_to HR5.out fun g cs _ hb => ?_, HK5.out.set_new (Nat.le_refl _)⟩
              exact hb.far (p := ⟨wo.heap.size, 1, none⟩) (by rintro rfl; exact absurd (hb.eq_ HB5.out).1 (by decide)) _
          · obtain rfl : j = c.length := by omega
            have hP : wr.ownsRow wo.heap.size 3 1 vP (flatPts c).length ((flatPts c).map (Value.int .i64)) := by
              have h9 := HRW.out
              rw [List.take_of_length_le (Nat.le_refl _)] at h9
              have e : (flatPts c).length = 2 * c.length := by
                have := h9.1
                simpa using this
              rw [e]
              exact h9
            have HPP := hid hP
            have hfl : 0 < (flatPts c).length := by
              have h9 := HRW.out.1
              rw [List.take_of_length_le (Nat.le_refl _)] at h9
              simp at h9
              omega
            obtain ⟨gv, cv, rfl, _, _⟩ := hP.form hfl
            have hxs := HST.out.ops
            obtain ⟨xs, r1, r2⟩ := hxs
            have R1 := hid (own_sameW r1 HSM.out)
            have R1o := hid r1
            have R2 := hid r2
            have A1 := hid (own_sameW HST.out.all HSM.out)
            have hkl : (ls.take k).length = k := by rw [List.length_take]; omega
            have HKL := hid hkl
            have hal : (allC (b0, b1) (ls.take k)).length ≤ 1 + 3 * k := by
              have h9 := allC_len (b := (b0, b1)) H23.out
              rw [hkl] at h9
              exact h9
            have hszo : wB.heap.size ≤ wo.heap.size := HST.out.same.size
            have hszr : wB.heap.size ≤ wr.heap.size := by omega
            rw [hkl] at R1
            clear hP r1 r2 hkl o0
            have o0 : wr.cell? ⟨wo.heap.size, 0, none⟩ = some (.int .i64 (c.length : Int)) := HBO.out.cell 0
            go_wp2_with (at_builtin; refine wpList_append_own _ rfl _ _ 25 rfl wB.heap.size 31 i31 (.agg #[.int .i64 0, .slice none 0 0]) 2 32 Try.underlying25 hi31 hz310 hz311 hz312 rfl (by decide) _ _ _ rfl (R1.out.alloc _) ⟨wr.heap.size, 0, none⟩ 1 1 [.int .i64 (c.length : Int), .slice (some ⟨gv, 0, none⟩) (flatPts c).length cv] rfl rfl ?d1 ?d2 ?d3 ?d4 ?d5 ?_)
            case d2 => first | exact ⟨rfl, rfl⟩ | (intro u hu; simp at hu; rcases hu with rfl | rfl <;> rfl)
            case d3 => unfold maxLen; omega
            case d4 => omega
            case d5 => first | omega | (simp; omega)
            intro v3 w3 hown3 hgrow3 _
            have a3 := own_other (A1.out.alloc (Obj.cells #[.int .i64 (c.length : Int), .slice (some ⟨gv, 0, none⟩) (flatPts c).length cv] 31)) (R1.out.alloc _) (by decide) hgrow3
            have A3 := hid a3
            have S3 := hid (grown_same (R1.out.alloc (Obj.cells #[.int .i64 (c.length : Int), .slice (some ⟨gv, 0, none⟩) (flatPts c).length cv] 31)) (Nat.le_refl _) ((HST.out.same.trans HSM.out).alloc _) hgrow3)
            have HO3 := hid hown3
            have HG3 := hid hgrow3
            have hsz3 : wB.heap.size ≤ w3.heap.size := S3.out.size
            have hpc3 := HPC.out.kept S3.out (Nat.le_refl _) (fun _ _ hf => hf)
            have hcells := pts_news hpc3
            have CELLS := hid hcells
            have ONES := hid (ptCells_one c)
            clear a3 hown3 hgrow3 hpc3 hcells
            go_wp2_with (at_builtin; go_loud (refine wpList_append_own _ rfl _ _ 27 rfl wB.heap.size 28 i28 (.agg #[.int .i64 0, .int .i64 0]) 2 16 Try.underlying27 hi28 hz280 hz281 hz282 rfl (by decide) _ _ _ rfl A3.out ⟨gc, oc, none⟩ c.length pcap (ptCells c) rfl (length_ptCells c) CELLS.out ONES.out ?f3 ?f4 ?f5 ?_))
            case f3 => unfold maxLen; omega
            case f4 => omega
            case f5 => omega
            intro v5 w5 hown5 hgrow5 _
            have R : CurS wB (b0, b1) (ls.take k ++ [c]) v3 v5 w5 := CurS.next HST.out HSM.out HPP.out R1o.out R2.out (by rw [HKL.out]; exact HO3.out) HG3.out hown5 hgrow5
            have RR := hid R
            clear R hown5 hgrow5
            go_wp2_with fail
            go_roundw
            case measure => simp [intOf]; omega
            case rel =>
              refine ⟨k + 1, by omega, by go_num, fun c' hc' => ?_, by rw [HTK.out]; exact RR.out⟩
              rw [HTK.out, List.mem_append, List.mem_singleton] at hc'
              rcases hc' with hc' | rfl
              · exact H23.out c' hc'
              · exact T23.out
      · have hS := hid (HB0.out.trans HST.out.same)
        rcases (show (c.length : Int) < 2 ∨ (3 : Int) < c.length by unfold Two3 at t23; omega) with h1 | h1
        · clear t23
          go_wp2_with fail
          go_ret
          exact ⟨rfl, hS.out⟩
        · have h2 : ¬ (c.length : Int) < 2 := by omega
          clear t23
          go_wp2_with fail
          go_ret
          exact ⟨rfl, hS.out⟩
    · obtain rfl : k = ls.length := by omega
      have hcur : CurS wB (b0, b1) ls u9 u10 wr := by
        have h9 := HST.out
        rw [List.take_of_length_le (Nat.le_refl _)] at h9
        exact h9
      have H23' := hid (show ∀ c ∈ ls, Two3 c by
        have h9 := H23.out
        rw [List.take_of_length_le (Nat.le_refl _)] at h9
        exact h9)
      have CUR := hid hcur
      have c0 := (hcur.same.cell (p := ⟨gb, 0, none⟩) hbl (fun hf => hf)).trans q0
      have c1 := (hcur.same.cell (p := ⟨gb, 1, none⟩) hbl (fun hf => hf)).trans q1
      have hszw : wB.heap.size ≤ wr.heap.size := hcur.same.size
      have hgbr : gb < wr.heap.size := by omega
      obtain ⟨pts, hpts⟩ : ∃ pts, pts = allC (b0, b1) ls := ⟨_, rfl⟩
      have hal : pts.length ≤ 1 + 3 * ls.length := by rw [hpts]; exact allC_len H23'.out
      have hp0 : 0 < pts.length := by rw [hpts]; simp [allC]
      have hrow : wr.ownsRow wB.heap.size 28 2 u10 pts.length (ptCells pts) := by rw [hpts]; exact hcur.all
      have hpa := ptsAt_own rfl (by omega) hrow
      have hb0 : (b0, b1) ∈ pts := by rw [hpts]; simp [allC]
      obtain ⟨A, ca, hA1, hl, hA2⟩ := hpa
      obtain ⟨ga, oa, rfl, hpc⟩ := hA2 hp0
      have PT := hid hpts
      have HPC := hid hpc
      have HB := hid hb0
      clear hpts hrow hpc hA2 hb0 hcur HST H23
      subst hA1
      go_wp2_with fail
      go_region
      obtain ⟨wo, rfl⟩ : ∃ wo : World, wo = wr := ⟨_, rfl⟩
      have hm1 : 1 ≤ imin (W : Int) (H : Int) := by unfold imin; split <;> omega
      have hm2 : imin (W : Int) (H : Int) ≤ 64 := by unfold imin; split <;> omega
      go_wp2_with fail
      go_loopw [16, 17, 18, 19, 107] (fun a0 a1 a2 a3 i wx => ∃ (k : Nat) (x0 y0 x1 y1 : Int), k ≤ pts.length ∧ i = .int .i64 k ∧ a0 = .int .i64 x0 ∧ a1 = .int .i64 y0 ∧ a2 = .int .i64 x1 ∧ a3 = .int .i64 y1 ∧ BoxB x0 y0 x1 y1 (pts.take k) ∧ nearB (pts.take k) (64 * (64 + imin W H)) = true ∧ Same wo wx) (fun _ _ _ _ i _ => pts.length - (intOf i).toNat)
      case atStart => exact ⟨0, b0, b1, b0, b1, Nat.zero_le _, rfl, rfl, rfl, rfl, rfl, fun q hq => by simp at hq, rfl, (Kept.refl _ wo).drew⟩
      case round =>
        obtain ⟨k, x0, y0, x1, y1, hk, rfl, rfl, rfl, rfl, rfl, hbox, hnr, hsm⟩ := hrel
        have HBX := hid hbox
        have HN := hid hnr
        have HSM := hid hsm
        have hszx := hsm.size
        clear hbox hnr
        by_cases hkl : k < pts.length
        · have hpc := HPC.out.kept hsm (Nat.le_refl _) (fun _ _ hf => hf)
          obtain ⟨p0, p1⟩ := hpc.2 k hkl
          have hga : ga < wr.heap.size := Nat.lt_of_lt_of_le hpc.1 hszx
          have hnear := fun a b => nearB_take (far := 64 * (64 + imin (W : Int) (H : Int))) hkl HN.out a b
          have htk : pts.take (k + 1) = pts.take k ++ [pts[k]] := List.take_succ_eq_append_getElem hkl
          generalize hq : pts[k] = q at p0 p1 hnear htk
          obtain ⟨x, y⟩ := q
          simp only at p0 p1 hnear
          have HTK := hid htk
          have HNE := hid hnear
          have hS := hid (HB0.out.trans (CUR.out.same.trans HSM.out))
          clear hq hpc hsm hnear htk
          have hfar0 : (0 : Int) ≤ 64 * (64 + imin (W : Int) (H : Int)) := by omega
          have hfar1 : 64 * (64 + imin (W : Int) (H : Int)) ≤ 1000000000 := by omega
          by_cases b1' : beyondB x (64 * (64 + imin (W : Int) (H : Int))) = true
          · have B1 := hid b1'
            clear b1'
            go_wp2_with fail
            refine (beyond_is _ hfar0 hfar1 B1.out).mono ?_
            rintro e w' ⟨rfl, rfl⟩
            go_wp2_with fail
            go_ret
            exact ⟨rfl, hS.out.alloc _⟩
          · have b1'' : beyondB x (64 * (64 + imin (W : Int) (H : Int))) = false := by simpa using b1'
            have B1 := hid b1''
            clear b1' b1''
            by_cases b2' : beyondB y (64 * (64 + imin (W : Int) (H : Int))) = true
            · have B2 := hid b2'
              clear b2'
              go_wp2_with fail
              refine (beyond_is _ hfar0 hfar1 B1.out).mono ?_
              rintro e w' ⟨rfl, rfl⟩
              go_wp2_with fail
              refine (beyond_is _ hfar0 hfar1 B2.out).mono ?_
              rintro e w' ⟨rfl, rfl⟩
              go_wp2_with fail
              go_ret
              exact ⟨rfl, hS.out.alloc _⟩
            · have b2'' : beyondB y (64 * (64 + imin (W : Int) (H : Int))) = false := by simpa using b2'
              have B2 := hid b2''
              clear b2' b2''
              go_wp2_with fail
              refine (beyond_is _ hfar0 hfar1 B1.out).mono ?_
              rintro e w' ⟨rfl, rfl⟩
              go_wp2_with fail
              refine (beyond_is _ hfar0 hfar1 B2.out).mono ?_
              rintro e w' ⟨rfl, rfl⟩
              go_wp2_with fail
              have hgq : wr.heap.size < (wr.alloc (Obj.cells #[.int .i64 x, .int .i64 y] 28)).heap.size := by simp
              have d0 : (wr.alloc (Obj.cells #[.int .i64 x, .int .i64 y] 28)).cell? ⟨wr.heap.size, 0, none⟩ = some (.int .i64 x) := (Blk.new wr 28 _).cell 0
              have d1 : (wr.alloc (Obj.cells #[.int .i64 x, .int .i64 y] 28)).cell? ⟨wr.heap.size, 1, none⟩ = some (.int .i64 y) := (Blk.new wr 28 _).cell 1
              have HSA := hid (HSM.out.alloc (Obj.cells #[.int .i64 x, .int .i64 y] 28))
              clear p0 p1 hS
              generalize wr.alloc (Obj.cells #[.int .i64 x, .int .i64 y] 28) = wq at d0 d1 hgq HSA ⊢
              generalize wr.heap.size = gq at d0 d1 hgq ⊢
              go_quiet (fail)
              go_wp2_with fail
              go_roundw
              case measure => simp [intOf]; omega
              case rel =>
                exact ⟨k + 1, imin x0 x, imin y0 y, imax x1 x, imax y1 y, by omega, by go_num, rfl, rfl, rfl, rfl, by rw [HTK.out]; exact HBX.out.next, HNE.out B1.out B2.out, HSA.out.drewN _⟩
        · obtain rfl : k = pts.length := by omega
          have hbox : BoxB x0 y0 x1 y1 pts := by
            have h9 := HBX.out
            rwa [List.take_of_length_le (Nat.le_refl _)] at h9
          have hfar : ∀ q ∈ pts, Far64 q := nearB_far hW (by
            have h9 := HN.out
            rwa [List.take_of_length_le (Nat.le_refl _)] at h9)
          rw [PT.out] at hbox hfar
          have FM := hid (CurM.of (W := W) (H := H) (by omega) hW hH hlen H23'.out hfar hbox)
          obtain ⟨xs, r1, r2⟩ := CUR.out.ops
          have R1o := hid r1
          have R1 := hid (own_sameW r1 HSM.out)
          have R2 := hid r2
          have S1 := hid (CUR.out.same.trans HSM.out)
          have hszr : wB.heap.size ≤ wr.heap.size := S1.out.size
          clear hbox hfar r1 r2 hsm
          go_wp2_with (at_builtin; refine wpList_append_own _ rfl _ _ 25 rfl wB.heap.size 31 i31 (.agg #[.int .i64 0, .slice none 0 0]) 2 32 Try.underlying25 hi31 hz310 hz311 hz312 rfl (by decide) _ _ _ rfl (R1.out.alloc _) ⟨wr.heap.size, 0, none⟩ 1 1 [.int .i64 4, .slice none 0 0] rfl rfl ?e1 ?e2 ?e3 ?e4 ?e5 ?_)
          case e2 => first | exact ⟨rfl, rfl⟩ | (intro u hu; simp at hu; rcases hu with rfl | rfl <;> rfl)
          case e3 => unfold maxLen; omega
          case e4 => omega
          case e5 => first | omega | (simp; omega)
          intro v1 w5 hown5 hgrow5 _
          have OPS := hid (CurS.ops_end (b := (b0, b1)) H23'.out hlen HSM.out R1o.out R2.out hown5 hgrow5)
          have S5 := hid (grown_same (R1.out.alloc _) (Nat.le_refl _) (S1.out.alloc _) hgrow5)
          clear hown5 hgrow5
          go_wp2_with fail
          refine (maskBy_any W H (curOps (b0, b1) ls) v1 w5 (by omega) (by omega) (by omega) (by omega) hn true OPS.out FM.out.1).mono ?_
          rintro e w6 ⟨d, rfl, hd, t1, t2⟩
          have BA := hid t1
          have T6 := hid (HB0.out.trans (S5.out.trans t2))
          have HM := hid FM.out.2
          clear t1 t2 hd FM OPS
          generalize maskR true W H (curOps (b0, b1) ls) = m at BA HM
          have hWH : IntKind.i64.wrap ((W : Int) * (H : Int)) = (W : Int) * (H : Int) := by rw [← Int.natCast_mul]; exact IntWalk.i64_in _ (by omega)
          have hWHn : ((W * H : Nat) : Int) = (W : Int) * (H : Int) := Int.natCast_mul W H
          go_wp2_with fail
          go_loopw [160] (fun i wx => ∃ y : Nat, y ≤ H ∧ i = .int .i64 y ∧ Same w6 wx) (fun i _ => H - (intOf i).toNat)
          case atStart => exact ⟨0, Nat.zero_le _, rfl, Kept.refl _ _⟩
          case round =>
            obtain ⟨y, hy, rfl, hsy⟩ := hrel
            have HSY := hid hsy
            clear hsy
            by_cases hyl : y < H
            · obtain ⟨wo2, rfl⟩ : ∃ wo2 : World, wo2 = wr := ⟨_, rfl⟩
              go_wp2_with fail
              go_loopw [164] (fun i wx => ∃ x : Nat, x ≤ W ∧ i = .int .i64 x ∧ Same w6 wx) (fun i _ => W - (intOf i).toNat)
              case atStart => exact ⟨0, Nat.zero_le _, rfl, HSY.out⟩
              case round =>
                obtain ⟨x, hx, rfl, hsx⟩ := hrel
                have HSX := hid hsx
                clear hsx
                by_cases hxl : x < W
                · have hidx := idx_in2 hyl hxl
                  have hout := HM.out.out x y hxl hyl
                  have e1 : IntKind.i64.wrap ((y : Int) * (W : Int)) = (y : Int) * (W : Int) := by rw [← Int.natCast_mul]; exact IntWalk.i64_in _ (by omega)
                  obtain ⟨k, hk⟩ : ∃ k, k = y * W + x := ⟨_, rfl⟩
                  have e2 : IntKind.i64.wrap ((y : Int) * (W : Int) + (x : Int)) = (k : Int) := by rw [hk]; push_cast; exact IntWalk.i64_in _ (by rw [← Int.natCast_mul]; omega)
                  rw [← hk] at hout hidx
                  have hkn : k < W * H := hidx
                  have c1 : (x1 ≤ 64 * (x : Int) ∨ 64 * (x : Int) + 64 ≤ x0 ∨ y1 ≤ 64 * (y : Int) ∨ 64 * (y : Int) + 64 ≤ y0) → wr.cell? ⟨d, k, none⟩ = some (.int .u8 0) := fun ho => by
                    rw [byte_cell (HSX.out.blk BA.out id) (by rw [HM.out.len]; omega)]
                    simp [List.getD, hout ho]
                  have hdl : d < wr.heap.size := (HSX.out.blk BA.out id).lt
                  have hki : (k : Int) < ((W * H : Nat) : Int) := by omega
                  have hki2 : (k : Int) < (W : Int) * (H : Int) := by rw [← Int.natCast_mul]; exact hki
                  have C1 := hid c1
                  clear hout hk c1 hidx
                  by_cases o1 : x1 ≤ 64 * (x : Int)
                  · have c1 := C1.out (.inl o1)
                    go_wp2_with fail
                    go_roundw
                    case measure => simp [intOf]; omega
                    case rel => exact ⟨x + 1, by omega, by go_num, HSX.out⟩
                  · by_cases o2 : 64 * (x : Int) + 64 ≤ x0
                    · have c1 := C1.out (.inr (.inl o2))
                      go_wp2_with fail
                      go_roundw
                      case measure => simp [intOf]; omega
                      case rel => exact ⟨x + 1, by omega, by go_num, HSX.out⟩
                    · by_cases o3 : y1 ≤ 64 * (y : Int)
                      · have c1 := C1.out (.inr (.inr (.inl o3)))
                        go_wp2_with fail
                        go_roundw
                        case measure => simp [intOf]; omega
                        case rel => exact ⟨x + 1, by omega, by go_num, HSX.out⟩
                      · by_cases o4 : 64 * (y : Int) + 64 ≤ y0
                        · have c1 := C1.out (.inr (.inr (.inr o4)))
                          go_wp2_with fail
                          go_roundw
                          case measure => simp [intOf]; omega
                          case rel => exact ⟨x + 1, by omega, by go_num, HSX.out⟩
                        · go_wp2_with fail
                          go_roundw
                          case measure => simp [intOf]; omega
                          case rel => exact ⟨x + 1, by omega, by go_num, HSX.out⟩
                · obtain rfl : x = W := by omega
                  go_wp2_with fail
                  go_roundw
                  case measure => simp [intOf]; omega
                  case rel => exact ⟨y + 1, by omega, by go_num, HSX.out⟩
            · obtain rfl : y = H := by omega
              go_wp2_with fail
              go_ret
              exact ⟨rfl, T6.out.trans HSY.out⟩
set_option maxHeartbeats 2000000 in
set_option maxRecDepth 100000 in
theorem walk_unfit (W H b0 b1 : Int) (ls : List (List (Int × Int))) (v : Value) (w : World) (hv : RowsAt w w.heap.size v ls) (hf : fits2B ls = false) :
    Calls Try.prog 7 #[.int .i64 W, .int .i64 H, .agg #[.int .i64 b0, .int .i64 b1], v] w fun e w' => e = .returned (.bool true) ∧ Same w w' := by
  have hB0 : Same w (w.alloc (Obj.cells #[.int .i64 b0, .int .i64 b1] 28)) := (Kept.refl _ w).alloc _
  have hvB : RowsAt (w.alloc (Obj.cells #[.int .i64 b0, .int .i64 b1] 28)) (w.alloc (Obj.cells #[.int .i64 b0, .int .i64 b1] 28)).heap.size v ls := by
    obtain ⟨A, cap, rfl, hl, hA⟩ := hv
    refine ⟨A, cap, rfl, hl, fun hpos => ?_⟩
    obtain ⟨g, off, rfl, hp⟩ := hA hpos
    have h1 := hp.kept hB0 (Nat.le_refl _) (fun _ _ h => h)
    exact ⟨g, off, rfl, by have := h1.1; simp; omega, fun j hj => by
      obtain ⟨pv, a, b⟩ := h1.2 j hj
      exact ⟨pv, a, b.mono (by simp)⟩⟩
  have HF := hid hf
  have HV := hid hvB
  clear hf hv hvB
  go_enter Try.func7, Try.ntmps7
  go_wp2_with fail
  refine (fits2_any ls v _ HV.out).mono ?_
  rintro e w' ⟨rfl, rfl⟩
  rw [HF.out]
  go_wp2_with fail
  go_ret
  exact ⟨rfl, hB0⟩
set_option maxHeartbeats 2000000 in
set_option maxRecDepth 100000 in
theorem walk_not (W H b0 b1 : Int) (ls : List (List (Int × Int))) (v : Value) (w : World) (hv : RowsAt w w.heap.size v ls) (hf : fits2B ls = true)
    (h : sizedB W H = false ∨ (sizedB W H = true ∧ 64 < W) ∨ (sizedB W H = true ∧ W ≤ 64 ∧ 64 < H) ∨ (sizedB W H = true ∧ W ≤ 64 ∧ H ≤ 64 ∧ (4 : Int) < ls.length)) :
    Calls Try.prog 7 #[.int .i64 W, .int .i64 H, .agg #[.int .i64 b0, .int .i64 b1], v] w fun e w' => e = .returned (.bool true) ∧ Same w w' := by
  have hB0 : Same w (w.alloc (Obj.cells #[.int .i64 b0, .int .i64 b1] 28)) := (Kept.refl _ w).alloc _
  have hvB : RowsAt (w.alloc (Obj.cells #[.int .i64 b0, .int .i64 b1] 28)) (w.alloc (Obj.cells #[.int .i64 b0, .int .i64 b1] 28)).heap.size v ls := by
    obtain ⟨A, cap, rfl, hl, hA⟩ := hv
    refine ⟨A, cap, rfl, hl, fun hpos => ?_⟩
    obtain ⟨g, off, rfl, hp⟩ := hA hpos
    have h1 := hp.kept hB0 (Nat.le_refl _) (fun _ _ h => h)
    exact ⟨g, off, rfl, by have := h1.1; simp; omega, fun j hj => by
      obtain ⟨pv, a, b⟩ := h1.2 j hj
      exact ⟨pv, a, b.mono (by simp)⟩⟩
  obtain ⟨A, cap, rfl, hl, hA⟩ := hv
  have HF := hid hf
  have HV := hid hvB
  clear hf hvB hA
  rcases h with hs | ⟨hs, h1⟩ | ⟨hs, h1, h2⟩ | ⟨hs, h1, h2, h3⟩
  all_goals
    have HS := hid hs
    clear hs
    go_enter Try.func7, Try.ntmps7
    go_wp2_with fail
    refine (fits2_any ls _ _ HV.out).mono ?_
    rintro e w' ⟨rfl, rfl⟩
    rw [HF.out]
    go_wp2_with fail
    refine (sized_any W H _).mono ?_
    rintro e w' ⟨rfl, rfl⟩
    rw [HS.out]
    go_wp2_with fail
    go_ret
    exact ⟨rfl, hB0⟩
theorem walk (W H b0 b1 : Int) (ls : List (List (Int × Int))) (v : Value) (w : World) (hv : RowsAt w w.heap.size v ls) :
    Calls Try.prog 7 #[.int .i64 W, .int .i64 H, .agg #[.int .i64 b0, .int .i64 b1], v] w fun e w' => e = .returned (.bool true) ∧ Same w w' := by
  cases hf : fits2B ls
  · exact walk_unfit W H b0 b1 ls v w hv hf
  by_cases hc : sizedB W H = false ∨ (sizedB W H = true ∧ 64 < W) ∨ (sizedB W H = true ∧ W ≤ 64 ∧ 64 < H) ∨ (sizedB W H = true ∧ W ≤ 64 ∧ H ≤ 64 ∧ (4 : Int) < ls.length)
  · exact walk_not W H b0 b1 ls v w hv hf hc
  · have hs : sizedB W H = true := by
      cases h : sizedB W H
      · exact absurd (.inl h) hc
      · rfl
    have hW : W ≤ 64 := by rcases Int.lt_or_le 64 W with h | h; exact absurd (.inr (.inl ⟨hs, h⟩)) hc; exact h
    have hH : H ≤ 64 := by rcases Int.lt_or_le 64 H with h | h; exact absurd (.inr (.inr (.inl ⟨hs, hW, h⟩))) hc; exact h
    have h4 : ls.length ≤ 4 := by
      rcases Int.lt_or_le 4 (ls.length : Int) with h | h
      · exact absurd (.inr (.inr (.inr ⟨hs, hW, hH, h⟩))) hc
      · omega
    obtain ⟨s1, s2, s3, s4, s5⟩ := sizedB_iff.1 hs
    obtain ⟨Wn, rfl⟩ : ∃ n : Nat, W = n := ⟨W.toNat, by omega⟩
    obtain ⟨Hn, rfl⟩ : ∃ n : Nat, H = n := ⟨H.toNat, by omega⟩
    obtain ⟨A, cap, rfl, hl, hA⟩ := hv
    exact walk_good Wn Hn b0 b1 ls A cap w (by omega) (by omega) hs h4 hf hA

/-- A point as an argument. -/
theorem open_pt {H : Type} {enc : TypeId × Value → H} {w : World} {spare : Nat → Bool} {held : Bool} {cs : Array Value} {d : DataW H} {p : List MemPlace} (hsz : cs.size = 2) (h : DataW.Trod enc Try.prog w 0 spare held 28 (.agg cs) d p) :
    ∃ b0 b1 : Int, cs = #[.int .i64 b0, .int .i64 b1] := by
  obtain ⟨fuel, hf⟩ := h
  obtain ⟨xs, m, _, _, hlen, hxl, hel⟩ := DataW.trod_array Try.underlying28 hf
  rw [cellsOf3] at hel
  obtain ⟨l⟩ := cs
  have hlen2 : l.length = 2 := hsz
  clear hsz hf hlen
  match l, hlen2, xs, hxl with
  | [c0, c1], _, [y0, y1], _ =>
    have f0 := hel 0 (by omega)
    have f1 := hel 1 (by omega)
    simp [Value.cells] at f0 f1
    obtain ⟨e0, g0, _⟩ := DataW.trod_int Try.underlying3 f0
    obtain ⟨e1, g1, _⟩ := DataW.trod_int Try.underlying3 f1
    simp only [List.cons.injEq, and_true] at g0 g1
    exact ⟨e0, e1, by rw [g0, g1]⟩
theorem own : ownKnob Try.prog.godebug = none := by kernel_rfl
theorem readable : ∀ t ∈ Try.f7.params.toList, Try.prog.readableRec t = true ∧ t < Try.prog.types.size := by
  rw [Try.params7]
  intro t ht
  simp only [List.mem_cons, List.not_mem_nil, or_false] at ht
  rcases ht with rfl | rfl | rfl | rfl
  all_goals exact ⟨by kernel_rfl, of_decide_eq_true (by kernel_rfl)⟩

set_option maxHeartbeats 4000000 in
set_option maxRecDepth 100000 in
theorem lifted (os : Os) (started : os.Started) (H : Type) (enc : TypeId × Value → H) :
    ReturnsInHanded {} Try.checked os 7 .any (Rows.fnCurvesStayInTheirBoxSpec.pre6 enc Try.prog Try.f7 Rows.fnCurvesStayInTheirBoxRow.domain false) (Rows.fnCurvesStayInTheirBoxSpec.post enc Try.prog Try.f7 false true false false) := by
  refine returnsInHanded_of_change (C := Try.checked) own started (by kernel_rfl) Try.func7
    (ChangeSpec.witness6 (enc := enc) (C := Try.checked) false ⟨#[], #[.int .i64 0, .int .i64 0, .agg #[.int .i64 0, .int .i64 0], .slice none 0 0], []⟩ 8 (by kernel_rfl) (by kernel_rfl) (by kernel_rfl) (by kernel_rfl)) ?_
  intro W base args ds gs before hval0 hW hcnd _
  have hval : ∀ (j : Nat) t v, Try.f7.params[j]? = some t → args[j]? = some v → Value.okWide Try.prog W .any base t v := hval0
  have hW' := hW
  obtain ⟨p, q, hA0, hV, rfl, hfz, hnd⟩ := hW
  have hA : DataW.TrodAll enc Try.prog W 0 (fun _ => true) true Try.f7.params.toList args.toList ds p := hA0
  rw [Try.params7] at hA hval
  obtain ⟨v0, vs0, d0, ds0, p0, q0, hargs, rfl, rfl, h0, r0⟩ := trodAll_cons hA
  obtain ⟨v1, vs1, d1, ds1, p1, q1, rfl, rfl, rfl, h1, r1⟩ := trodAll_cons r0
  obtain ⟨v2, vs2, d2, ds2, p2, q2, rfl, rfl, rfl, h2, r2⟩ := trodAll_cons r1
  obtain ⟨v3, vs3, d3, ds3, p3, q3, rfl, rfl, rfl, h3, r3⟩ := trodAll_cons r2
  obtain ⟨rfl, rfl, rfl⟩ := trodAll_nil r3
  obtain rfl : args = #[v0, v1, v2, v3] := by cases args; simp_all
  obtain ⟨rfl, rfl⟩ := trodVars_none hV
  obtain ⟨a0, rfl, rfl, rfl, w0⟩ := open_int Try.underlying3 (hval 0 3 v0 rfl rfl) h0
  obtain ⟨a1, rfl, rfl, rfl, w1⟩ := open_int Try.underlying3 (hval 1 3 v1 rfl rfl) h1
  obtain ⟨cs, rfl, hsz, _⟩ : ∃ cs, v2 = .agg cs ∧ cs.size = Try.prog.cellsOf 28 ∧ Row.okWide Try.prog W .any base 28 cs := by
    have := hval 2 28 v2 rfl rfl
    simpa [Value.okWide, Try.underlying28] using this
  obtain ⟨b0, b1, rfl⟩ := open_pt (by rw [cellsOf28] at hsz; exact hsz) h2
  obtain ⟨ls, hls⟩ := open_rowsT (hval 3 45 v3 rfl rfl) h3
  clear hA0 hval0
  simp only [List.append_nil] at hW'
  refine (walk a0 a1 b0 b1 ls v3 W hls).mono fun e W' ⟨he, hg⟩ => ?_
  subst he
  exact ⟨_, rfl, law_post readable rfl rfl rfl hW' hg.toBelow⟩

theorem over : Rows.fnCurvesStayInTheirBoxRow.holds Try.pinned (OpenSpec.ofChange Rows.fnCurvesStayInTheirBoxSpec) :=
  OpenClaim.holds_of_wide 7 Try.f7 rfl rfl rfl rfl rfl rfl rfl ⟨rfl, rfl, rfl, rfl, rfl⟩ rfl rfl rfl rfl rfl (by kernel_rfl) Try.func7 (by kernel_rfl)
    (of_decide_eq_true (by kernel_rfl)) (by unfold Func.isWrapper; first | (rw [if_pos (by decide +kernel)]; kernel_rfl) | (rw [if_neg (by decide +kernel)]; exact ⟨rfl, rfl⟩))
    (fun os started H enc _ => lifted os started H enc)

/-- The statement. -/
theorem proved : Rows.FnCurvesStayInTheirBoxSaid :=
  over
#print axioms proved
end Go.Proofs.Ytmgcbodlolnheaa.fnCur
