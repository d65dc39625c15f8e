/-
  With floating numbers, a closed path of curves whose points stand evenly on lines covers the area that the lines go round, but for 2 of 255, and a fiftieth for each edge in each row that the longest edge has. No condition beyond the statement's own.
-/
import Derived.Test.YtmgcbodlolnheaaZStrLaw
import Derived.Test.YtmgcbodlolnheaaZEqual
import Derived.Test.YtmgcbodlolnheaaZArea
namespace Go.Proofs.Ytmgcbodlolnheaa.fnStr
open Go.ChangeShapes Go.WideShapes Go.ChangeAt Go.RowKit Go.Deep
set_option linter.unusedVariables false

@[local go_sem ↓] theorem run_store31 (w : World) (g : Nat) (a : Int) (b m : Nat) (n : Nat) (h0 : (w.cell? ⟨g, 0, none⟩).isSome = true) (h1 : (w.cell? ⟨g, 1, none⟩).isSome = true) (f0 : w.frozen? ⟨g, 0, none⟩ = false) (f1 : w.frozen? ⟨g, 1, none⟩ = false) :
    (Instr.storeAt 31 (.pointer (some ⟨g, 0, none⟩)) (.agg #[.int .i64 a, .slice (some ⟨b, 0, none⟩) n m])).run Try.prog w = .ok () ((w.setCell ⟨g, 0, none⟩ (.int .i64 a)).setCell ⟨g, 1, none⟩ (.slice (some ⟨b, 0, none⟩) n m)) := by
  have := Go.run_storeAt_mid (P := Try.prog) w g 0 31 #[.int .i64 a, .slice (some ⟨b, 0, none⟩) n m] (by
    intro j hj
    match j, hj with
    | 0, _ => exact ⟨by simpa using h0, by simpa using f0⟩
    | 1, _ => exact ⟨by simpa using h1, by simpa using f1⟩) (by kernel_rfl) (by simp [Value.oneCell'])
  simpa [World.setCells] using this
theorem own_other {w w' : World} {D D' n n' k k' t t' : Nat} {v v' : Value} {xs xs' : List Value} (h : w.ownsRow D t k v n xs) (h' : w.ownsRow D' t' k' v' n' xs') (ht : t ≠ t') (hg : w.grownBy w' v'.ownBlock) : w'.ownsRow D t k v n xs := by
  refine h.kept hg ?_
  rcases h.2 with ⟨rfl, _⟩ | ⟨g, cap, cur, rfl, _, hb, _⟩
  · exact .inl rfl
  · right
    intro he
    rcases h'.2 with ⟨rfl, _⟩ | ⟨g', cap', cur', rfl, _, hb', _⟩
    · simp [Value.ownBlock] at he
    · simp only [Value.ownBlock, Option.some.injEq] at he
      subst he
      exact ht ((show Blk w g t cur from hb).eq_ (show Blk w g t' cur' from hb')).1
theorem grown_blk {w w' : World} {D n k t : Nat} {v : Value} {xs : List Value} {g t' : Nat} {cs : Array Value} (h : w.ownsRow D t k v n xs) (hg : w.grownBy w' v.ownBlock) (ht : t' ≠ t) (hb : Blk w g t' cs) : Blk w' g t' cs := by
  refine (hg.block g hb.lt fun he => ?_).trans hb
  rcases h.2 with ⟨rfl, _⟩ | ⟨g', cap, cur, rfl, _, hb', _⟩
  · simp [Value.ownBlock] at he
  · simp only [Value.ownBlock, Option.some.injEq] at he
    subst he
    exact ht (hb.eq_ (show Blk w g t cur from hb')).1
set_option maxRecDepth 100000 in
theorem area_none (A : Option Addr) (cap : Nat) (X Y : Int) (w : World) (hok : AreaOk [] X Y) :
    Calls Try.prog 46 #[.slice A 0 cap, .int .i64 X, .int .i64 Y, .int .i64 64] w fun e w' => e = .returned (.float .f64 (areaW [] X Y)) ∧ Same w w' := by
  have hq : Fok64 .quo 0 (floatOfInt .f64 4096) := hok.o1
  clear hok
  go_enter Try.func46, Try.ntmps46
  go_wp2_with fail
  go_loopw [9, 30] (fun s i wr => i = .int .i64 0 ∧ s = .float .f64 0 ∧ Same w wr) (fun _ i _ => 0)
  case atStart => exact ⟨rfl, rfl, Kept.refl _ _⟩
  case round =>
    obtain ⟨rfl, rfl, hs⟩ := hrel
    go_wp2_with fail
    go_ret
    exact ⟨rfl, hs⟩
theorem area_own (es : List Edge) (v : Value) (X Y : Int) {D : Nat} (w : World) (hlen : es.length ≤ 1000000) (hx : 0 ≤ X ∧ X ≤ 100000) (hy : 0 ≤ Y ∧ Y ≤ 100000) (hp : w.ownsRow D 78 4 v es.length (edgeCells es)) (hnear : ∀ e ∈ es, ENear e) (hok : AreaOk es X Y) :
    Calls Try.prog 46 #[v, .int .i64 X, .int .i64 Y, .int .i64 64] w fun e w' => e = .returned (.float .f64 (areaW es X Y)) ∧ Same w w' := by
  rcases Nat.eq_zero_or_pos es.length with h0 | h0
  · have he := List.length_eq_zero_iff.1 h0
    subst he
    rcases hp.2 with ⟨rfl, _⟩ | ⟨g, cap, cur, rfl, _⟩
    · exact area_none none 0 X Y w hok
    · exact area_none _ cap X Y w hok
  · obtain ⟨g, cap, rfl, _, _⟩ := hp.form h0
    exact area_cons es g 0 cap X Y w h0 hlen hx hy (edges_own hp rfl h0) hnear hok
theorem edge31_near {e : Edge} (h : Edge31 e) : ENear e := by unfold Edge31 at h; unfold ENear; omega
/-- The plain law's words for the walk. -/
structure StrFacts (c : Bool) (W H : Nat) (pts : List (Int × Int)) (es : List Edge) : Prop where
  ok : MaskROk true W H (strOps c pts)
  len : (maskR true W H (strOps c pts)).length = W * H
  near : NearAll (maskR true W H (strOps c pts)) W H es (farS es)
  e31 : ∀ e ∈ es, Edge31 e
  dok : DriftOk es
  fok : FarOk es
  el : es.length = (pts.map (scP (kS c))).length
  poly : polyTo (pts.map (scP (kS c))) (pts.map (scP (kS c))).length = es
theorem strFacts (c : Bool) {W H : Nat} (hW : 0 < W) (hW2 : W ≤ 200) (hH : H ≤ 200) {pts : List (Int × Int)} (hne : pts ≠ []) (h12 : pts.length ≤ 12) (hin : withinB pts 10240 = true) : StrFacts c W H pts (edges (pts.map (scP (kS c)))) := by
  have hp : ∀ q ∈ pts, In160P q := by
    intro q hq
    have := (withinB_iff.1 hin).1 q hq
    exact ⟨⟨this.1.1, this.1.2⟩, ⟨this.2.1, this.2.2⟩⟩
  obtain ⟨m1, m2⟩ := maskR_str c hW hH hne hp
  have h31 : ∀ e ∈ edges (pts.map (scP (kS c))), Edge31 e := by
    intro e he
    rw [edges_map] at he
    obtain ⟨f, hf, rfl⟩ := List.mem_map.1 he
    have hm := mem_several (ps := [pts]) (by simpa using hf)
    obtain ⟨p, hp1, h1, h2⟩ := hm
    rw [List.mem_singleton] at hp1
    subst hp1
    obtain ⟨⟨a1, a2⟩, a3, a4⟩ := hp _ h1
    obtain ⟨⟨b1, b2⟩, b3, b4⟩ := hp _ h2
    unfold Edge31
    cases c <;> simp only [scP, kS, if_true, if_false, Bool.false_eq_true] <;> omega
  have hel : (edges (pts.map (scP (kS c)))).length = (pts.map (scP (kS c))).length := length_edges _
  obtain ⟨f1, f2, _, _⟩ := far_num h31 (by rw [hel]; simp; omega)
  exact ⟨m2, by rw [m1, length_floBytes, length_fadds]; simp, str_all c hW hW2 hH hne hp h12, h31, f1, f2, hel, polyTo_edges _⟩
/-- What holds of the points and the calls made so far. -/
structure StrS (w : World) (c : Bool) (pts : List (Int × Int)) (k : Nat) (v v' : Value) (wr : World) : Prop where
  great : wr.ownsRow w.heap.size 28 2 v k (ptCells ((pts.map (scP (kS c))).take k))
  ops : ∃ xs, wr.ownsRow w.heap.size 31 2 v' (k + 1) xs ∧ OpsOwn wr w.heap.size ((0, [kS c * (pts.getD 0 (0, 0)).1, kS c * (pts.getD 0 (0, 0)).2]) :: ((edges pts).map (strOp c)).take k) xs
  same : Same w wr
theorem StrS.start {w w2 : World} {c : Bool} {pts : List (Int × Int)} {x0 y0 : Int} (hs : Same w w2) (h0 : pts.getD 0 (0, 0) = (x0, y0)) :
    StrS w c pts 0 (.slice none 0 0) (.slice (some ⟨w2.heap.size + 1, 0, none⟩) 1 1) ((w2.alloc (Obj.cells #[.int .i64 (kS c * x0), .int .i64 (kS c * y0)] 3)).alloc (Obj.cells #[.int .i64 0, .slice (some ⟨w2.heap.size, 0, none⟩) 2 2] 31)).drew := by
  have hsz := hs.size
  have b0 : Blk (w2.alloc (Obj.cells #[.int .i64 (kS c * x0), .int .i64 (kS c * y0)] 3)) w2.heap.size 3 #[.int .i64 (kS c * x0), .int .i64 (kS c * y0)] := Blk.new w2 3 _
  have b1 := b0.alloc (Obj.cells #[.int .i64 0, .slice (some ⟨w2.heap.size, 0, none⟩) 2 2] 31)
  have b2 := Blk.new (w2.alloc (Obj.cells #[.int .i64 (kS c * x0), .int .i64 (kS c * y0)] 3)) 31 #[.int .i64 0, .slice (some ⟨w2.heap.size, 0, none⟩) 2 2]
  refine ⟨World.ownsRow_nil _ _ _ _, ⟨[.int .i64 0, .slice (some ⟨w2.heap.size, 0, none⟩) 2 2], ?_, ?_⟩, (((hs.alloc _).alloc _).drew)⟩
  · refine ⟨by simp, .inr ⟨w2.heap.size + 1, 1, #[.int .i64 0, .slice (some ⟨w2.heap.size, 0, none⟩) 2 2], rfl, by omega, ?_, Nat.le_refl _, by unfold maxLen; omega, by simp, by simp⟩⟩
    have e : (w2.alloc (Obj.cells #[.int .i64 (kS c * x0), .int .i64 (kS c * y0)] 3)).heap.size = w2.heap.size + 1 := by simp
    rw [e] at b2
    exact b2
  · refine ⟨rfl, .inr ⟨w2.heap.size, hsz, by simp, rfl, ?_⟩, trivial⟩
    rw [h0]
    exact b1
theorem edges_at {pts : List (Int × Int)} {k q : Nat} (hk : k < pts.length) (hq : q < pts.length) (he : q = (k + 1) % pts.length) : (edges pts).take (k + 1) = (edges pts).take k ++ [(pts[k], pts[q])] := by
  have hl : k < (edges pts).length := by rw [length_edges]; exact hk
  rw [List.take_succ_eq_append_getElem hl]
  congr 2
  have h1 : (edges pts)[k]? = some (pts[k], pts[q]) := by
    rw [← polyTo_edges pts]
    unfold polyTo
    rw [List.getElem?_map, List.getElem?_range hk]
    simp only [Option.map_some]
    rw [← he, show pts.getD k (0, 0) = pts[k] by simp [List.getD, hk], show pts.getD q (0, 0) = pts[q] by simp [List.getD, hq]]
  rw [List.getElem?_eq_getElem hl] at h1
  exact Option.some.inj h1
theorem pts_take {pts : List (Int × Int)} {k : Nat} (h : k < pts.length) : pts.take (k + 1) = pts.take k ++ [pts[k]] := by rw [List.take_succ_eq_append_getElem h]
/-- One point more; the calls as before. -/
structure StrG (w : World) (c : Bool) (pts : List (Int × Int)) (k : Nat) (v v' : Value) (wr : World) : Prop where
  great : wr.ownsRow w.heap.size 28 2 v (k + 1) (ptCells ((pts.map (scP (kS c))).take (k + 1)))
  ops : ∃ xs, wr.ownsRow w.heap.size 31 2 v' (k + 1) xs ∧ OpsOwn wr w.heap.size ((0, [kS c * (pts.getD 0 (0, 0)).1, kS c * (pts.getD 0 (0, 0)).2]) :: ((edges pts).map (strOp c)).take k) xs
  same : Same w wr
theorem StrS.toG {w wr wG : World} {c : Bool} {pts : List (Int × Int)} {k : Nat} {v v' vG : Value} {x y : Int} {A B C : Obj} (ht : pts.take (k + 1) = pts.take k ++ [(x, y)]) (h : StrS w c pts k v v' wr)
    (hown : wG.ownsRow w.heap.size 28 2 vG (k + 1) (ptCells ((pts.map (scP (kS c))).take k) ++ [.int .i64 (kS c * x), .int .i64 (kS c * y)])) (hg : (((wr.alloc A).alloc B).alloc C).grownBy wG v.ownBlock) : StrG w c pts k vG v' wG := by
  have q1 := ((h.great.alloc A).alloc B).alloc C
  obtain ⟨xs, q2, q3⟩ := h.ops
  refine ⟨?_, ⟨xs, own_other (((q2.alloc A).alloc B).alloc C) q1 (by decide) hg, OpsOwn.to (fun g cs _ hb => grown_blk q1 hg (by decide) (((hb.alloc A).alloc B).alloc C)) q3⟩, own_same28 q1 (Nat.le_refl _) (((h.same.alloc A).alloc B).alloc C) hg⟩
  have e : (pts.map (scP (kS c))).take (k + 1) = (pts.map (scP (kS c))).take k ++ [scP (kS c) (x, y)] := by
    rw [← List.map_take, ht, List.map_append, List.map_take]
    rfl
  rw [e, ptCells_snoc]
  exact hown
/-- The two points are kept. -/
theorem two_kept {w wr wG : World} {v : Value} {k : Nat} {xs : List Value} {a b : Array Value} {C : Obj} (h : wr.ownsRow w.heap.size 28 2 v k xs) (hg : (((wr.alloc (.cells a 28)).alloc (.cells b 28)).alloc C).grownBy wG v.ownBlock) :
    Blk wG wr.heap.size 28 a ∧ Blk wG (wr.heap.size + 1) 28 b := by
  have b1 : Blk (((wr.alloc (.cells a 28)).alloc (.cells b 28)).alloc C) wr.heap.size 28 a := ((Blk.new wr 28 a).alloc _).alloc _
  have b2 : Blk (((wr.alloc (.cells a 28)).alloc (.cells b 28)).alloc C) (wr.heap.size + 1) 28 b := by
    have := (Blk.new (wr.alloc (.cells a 28)) 28 b).alloc C
    simpa using this
  constructor
  · refine (hg.block _ b1.lt fun he => ?_).trans b1
    have := (h.lt _ he.symm).2
    omega
  · refine (hg.block _ b2.lt fun he => ?_).trans b2
    have := (h.lt _ he.symm).2
    omega
theorem grown_alloc {w w' : World} (h : w.grownBy w' none) (o : Obj) : w.grownBy (w'.alloc o) none :=
  ⟨h.os, h.tape, h.output, by have := h.size; simp; omega, fun k hk hr => (heap_alloc_old w' o (Nat.lt_of_lt_of_le hk h.size)).trans (h.block k hk hr)⟩
theorem StrG.next {w wG wS w1 : World} {c : Bool} {pts : List (Int × Int)} {k g6 : Nat} {v v' v1 : Value} {xs : List Value} {e : (Int × Int) × (Int × Int)} {m : Int} {ps : List Int} (he : (edges pts).take (k + 1) = (edges pts).take k ++ [e]) (ho : strOp c e = (m, ps)) (hl : ps.length ≤ 1000) (h : StrG w c pts k v v' wG)
    (q1 : wG.ownsRow w.heap.size 31 2 v' (k + 1) xs) (q2 : OpsOwn wG w.heap.size ((0, [kS c * (pts.getD 0 (0, 0)).1, kS c * (pts.getD 0 (0, 0)).2]) :: ((edges pts).map (strOp c)).take k) xs)
    (hG : wG.grownBy wS none) (hg6 : w.heap.size ≤ g6) (hb : Blk wS g6 3 (ps.map (Value.int .i64)).toArray)
    (hown : w1.ownsRow w.heap.size 31 2 v1 (k + 1 + 1) (xs ++ [.int .i64 m, .slice (some ⟨g6, 0, none⟩) ps.length ps.length])) (hg : wS.grownBy w1 v'.ownBlock) : StrS w c pts (k + 1) v v1 w1 := by
  have q1' := q1.kept hG (by cases hv : v'.ownBlock <;> simp)
  have hk := own_keeps q1' hg
  have hkG : ∀ g cs, Blk wG g 3 cs → Blk wS g 3 cs := fun g cs hb => (hG.block g hb.lt (by simp)).trans hb
  refine ⟨own_other (h.great.kept hG (by cases hv : v.ownBlock <;> simp)) q1' (by decide) hg, ⟨_, hown, ?_⟩, own_same q1' (Nat.le_refl _) (h.same.grown hG (by simp)) hg⟩
  have e1 : ((edges pts).map (strOp c)).take (k + 1) = ((edges pts).map (strOp c)).take k ++ [(m, ps)] := by
    rw [← List.map_take, he, List.map_append, List.map_take, List.map_cons, ho]
    rfl
  rw [e1, ← List.cons_append]
  exact OpsOwn.snoc (o := (m, ps)) (.inr ⟨g6, hg6, hl, rfl, hk _ _ hb⟩) (OpsOwn.to (fun g cs _ hb => hk g cs (hkG g cs hb)) q2)
theorem StrS.end_ {w wr w1 : World} {c : Bool} {pts : List (Int × Int)} {v v' v1 : Value} {xs : List Value} {t : TypeId} (hne : pts ≠ []) (hlen : pts.length ≤ 1000000) (h : StrS w c pts pts.length v v' wr)
    (q1 : wr.ownsRow w.heap.size 31 2 v' (pts.length + 1) xs) (q2 : OpsOwn wr w.heap.size ((0, [kS c * (pts.getD 0 (0, 0)).1, kS c * (pts.getD 0 (0, 0)).2]) :: ((edges pts).map (strOp c)).take pts.length) xs)
    (hown : w1.ownsRow w.heap.size 31 2 v1 (pts.length + 1 + 1) (xs ++ [.int .i64 4, .slice none 0 0]))
    (hg : (wr.alloc (.cells #[.int .i64 4, .slice none 0 0] t)).grownBy w1 v'.ownBlock) :
    OpsAt w1 w1.heap.size v1 (strOps c pts) ∧ PtsAt w1 w1.heap.size v (pts.map (scP (kS c))) ∧ Same w w1 := by
  have hk := own_keeps (q1.alloc (.cells #[.int .i64 4, .slice none 0 0] t)) hg
  refine ⟨?_, ?_, own_same (q1.alloc _) (Nat.le_refl _) (h.same.alloc _) hg⟩
  · have e : strOps c pts = ((0, [kS c * (pts.getD 0 (0, 0)).1, kS c * (pts.getD 0 (0, 0)).2]) :: ((edges pts).map (strOp c)).take pts.length) ++ [(4, [])] := by
      cases pts with
      | nil => exact absurd rfl hne
      | cons a t =>
        rw [List.take_of_length_le (by rw [List.length_map, length_edges]; omega)]
        rfl
    refine opsAt_own (D' := w.heap.size) (n := pts.length + 1 + 1) ?_ (by omega) hown ?_
    · rw [e]
      simp [length_edges]
    · rw [e]
      exact OpsOwn.snoc (o := (4, [])) (.inl ⟨rfl, rfl⟩) (OpsOwn.to (fun g cs _ hb => hk g cs (hb.alloc _)) q2)
  · have q3 := own_other (h.great.alloc (.cells #[.int .i64 4, .slice none 0 0] t)) (q1.alloc _) (by decide) hg
    rw [List.take_of_length_le (by simp)] at q3
    exact ptsAt_own (by simp) (by omega) q3
theorem cells_new {w : World} (n : Nat) (hn : n = w.heap.size) (t : TypeId) (a b : Value) : ∀ (j : Nat) (u : Value), [a, b][j]? = some u → (w.alloc (.cells #[a, b] t)).cell? ((⟨n, 0, none⟩ : Addr).add j) = some u := by
  subst hn
  exact cells_new1 t a b
theorem sevB_one {W H : Int} {p : List (Int × Int)} : sevB W H [p] = true ↔ (sizedB W H = true ∧ W ≤ 200 ∧ H ≤ 200 ∧ withinB p (64 * (64 + imin W H)) = true ∧ p.length ≤ 12) := by
  unfold sevB sevTest rowOk
  simp only [List.all_cons, List.all_nil, Bool.and_true, Bool.and_eq_true, decide_eq_true_eq, List.length_cons, List.length_nil, and_assoc]
  constructor
  · rintro ⟨a, b, c, _, d, e⟩
    exact ⟨a, b, c, d, e⟩
  · rintro ⟨a, b, c, d, e⟩
    exact ⟨a, b, c, by decide, d, e⟩
/-- A row of one row. -/
theorem rows_one {w : World} {g : Nat} {t : TypeId} {v : Value} {p : List (Int × Int)} {B : Nat} (h : Blk w g t #[v]) (hv : PtsAt w B v p) (hB : B ≤ w.heap.size) : RowsAt w w.heap.size (.slice (some ⟨g, 0, none⟩) 1 1) [p] := by
  refine ⟨_, 1, rfl, by simp, fun _ => ⟨g, 0, rfl, h.lt, fun j hj => ?_⟩⟩
  obtain rfl : j = 0 := by simpa using hj
  exact ⟨v, by rw [h.cell]; rfl, hv.mono hB⟩
set_option maxHeartbeats 4000000 in
set_option maxRecDepth 100000 in
theorem walk_true (W H : Nat) (pts : List (Int × Int)) (g off cap : Nat) (w : World) (hs : sevB (W : Int) (H : Int) [pts] = true) (hin : withinB pts 10240 = true) (hp : PtsCells w w.heap.size g off pts) (h3 : 3 ≤ pts.length) (h12 : pts.length ≤ 12) :
    Calls Try.prog 11 #[.int .i64 W, .int .i64 H, .slice (some ⟨g, off, none⟩) pts.length cap, .bool true] w fun e w' => e = .returned (.bool true) ∧ Same w w' := by
  obtain ⟨z1, z2, z3, z4, z5⟩ := sevB_one.1 hs
  obtain ⟨s1, s2, s3, s4, s5⟩ := sizedB_iff.1 z1
  have HS := hid hs
  have HP := hid hp
  have HIN := hid hin
  obtain ⟨i0, hi, hz0, hz1, hz2⟩ := info_parts info28
  obtain ⟨j0, hj, jz0, jz1, jz2⟩ := info_parts info31
  have hgl := hp.1
  have hn : W * H ≤ 65536 := by
    have : ((W * H : Nat) : Int) ≤ 65536 := by push_cast; exact s5
    omega
  have HF := hid (strFacts true (W := W) (H := H) (by omega) (by omega) (by omega) (pts := pts) (by rintro rfl; simp at h3) h12 hin)
  clear hs hp hin z1 z4
  go_enter Try.func11, Try.ntmps11
  go_wp2_with fail
  have hv0 : PtsAt w w.heap.size (.slice (some ⟨g, off, none⟩) pts.length cap) pts := ⟨_, cap, rfl, by omega, fun _ => ⟨g, off, rfl, HP.out⟩⟩
  have HV0 := hid hv0
  have hrows : RowsAt (w.alloc (.cells #[.slice (some ⟨g, off, none⟩) pts.length cap] 27)) (w.alloc (.cells #[.slice (some ⟨g, off, none⟩) pts.length cap] 27)).heap.size (.slice (some ⟨w.heap.size, 0, none⟩) 1 1) [pts] :=
    rows_one (Blk.new w 27 _) (HV0.out.kept (Kept.alloc (Kept.refl (fun _ => False) w) _) (Nat.le_refl _) (fun _ _ hf => hf)) (by simp)
  have HR := hid hrows
  have T0 := hid (show Same w (w.alloc (.cells #[.slice (some ⟨g, off, none⟩) pts.length cap] 27)) from (Kept.refl _ _).alloc _)
  clear hv0 hrows
  generalize w.alloc (.cells #[.slice (some ⟨g, off, none⟩) pts.length cap] 27) = w0 at HR T0 ⊢
  refine (several_any (W : Int) (H : Int) [pts] _ w0 HR.out).mono ?_
  rintro e w1 ⟨v7, v8, rfl, _, t2⟩
  rw [HS.out]
  have T1 := hid (T0.out.trans t2)
  clear t2
  have HP1 := hid (HP.out.kept T1.out (Nat.le_refl _) (fun _ _ hf => hf))
  have hsz1 := T1.out.size
  have hg1 : g < w1.heap.size := Nat.lt_of_lt_of_le HP1.out.1 hsz1
  go_wp2_with fail
  refine (within_cons pts 10240 g off cap w1 (by omega) (by omega) (by omega) (by omega) ⟨hg1, HP1.out.2⟩).mono ?_
  rintro e w2 ⟨rfl, t1⟩
  rw [HIN.out]
  have T2 := hid (T1.out.trans t1)
  clear t1
  have HP2 := hid (HP.out.kept T2.out (Nat.le_refl _) (fun _ _ hf => hf))
  have hsz2 := T2.out.size
  have hg2 : g < w2.heap.size := Nat.lt_of_lt_of_le HP2.out.1 hsz2
  obtain ⟨c0, c1⟩ := HP2.out.2 0 (by omega)
  have hn0 : (0 : Int) < (pts.length : Int) := by omega
  have hn0' : 0 < pts.length := by omega
  simp only [Nat.zero_mul, Nat.add_zero] at c0 c1
  have hfar0 := (withinB_iff.1 HIN.out).1 (pts[0]'(by omega)) (List.getElem_mem _)
  have hget0 : pts.getD 0 (0, 0) = pts[0]'(by omega) := by simp [List.getD, hn0']
  generalize (pts[0]'(by omega)) = p0 at c0 c1 hfar0 hget0
  obtain ⟨x0, y0⟩ := p0
  simp only at c0 c1 hfar0
  obtain ⟨⟨f1, f2⟩, f3, f4⟩ := hfar0
  have HG0 := hid hget0
  clear hget0
  clear hsz1 hg1
  go_wp2_with fail
  go_region
  have st0 := hid (StrS.start (c := true) (x0 := x0) (y0 := y0) T2.out HG0.out)
  go_wp2_with fail
  go_loopw [13, 14, 56] (fun v v' i wr => ∃ k : Nat, k ≤ pts.length ∧ i = .int .i64 k ∧ StrS w true pts k v v' wr) (fun _ _ i _ => pts.length - (intOf i).toNat)
  case atStart => exact ⟨0, Nat.zero_le _, rfl, st0.out⟩
  case round =>
    obtain ⟨k, hk, rfl, hst⟩ := hrel
    by_cases hlt : k < pts.length
    · have hpc := HP.out.kept hst.same (Nat.le_refl _) (fun _ _ hf => hf)
      obtain ⟨q, hq⟩ : ∃ q, q = (k + 1) % pts.length := ⟨_, rfl⟩
      have hql : q < pts.length := by rw [hq]; exact Nat.mod_lt _ (by omega)
      have hrem : ((k : Int) + 1).tmod (pts.length : Int) = (q : Int) := by
        rw [hq]
        rw [show ((k : Int) + 1) = ((k + 1 : Nat) : Int) by push_cast; rfl]
        exact Int.ofNat_tmod (k + 1) pts.length |>.symm
      have hnz : ¬ (pts.length : Int) = 0 := by omega
      obtain ⟨c0, c1⟩ := hpc.2 k hlt
      obtain ⟨d0, d1⟩ := hpc.2 q hql
      have hgr : g < wr.heap.size := Nat.lt_of_lt_of_le hpc.1 hst.same.size
      have hsz := hst.same.size
      have hfa := (withinB_iff.1 HIN.out).1 (pts[k]) (List.getElem_mem hlt)
      have hfb := (withinB_iff.1 HIN.out).1 (pts[q]) (List.getElem_mem hql)
      have hE := (edges_at hlt hql hq)
      have hMT := pts_take hlt
      generalize pts[k] = a at c0 c1 hfa hE hMT
      generalize pts[q] = b at d0 d1 hfb hE
      obtain ⟨ax, ay⟩ := a
      obtain ⟨bx, by'⟩ := b
      simp only at c0 c1 d0 d1 hfa hfb
      obtain ⟨⟨p1, p2⟩, p3, p4⟩ := hfa
      obtain ⟨⟨q1, q2⟩, q3, q4⟩ := hfb
      have HST := hid hst
      have HE := hid hE
      have HMT := hid hMT
      have hqi : (q : Int) < (pts.length : Int) := by omega
      have hki : (k : Int) < (pts.length : Int) := by omega
      have HQ := hid hq
      have hg1 : g < wr.heap.size + 1 := by omega
      clear hpc hst hq hE hMT
      have Q1 := hid HST.out.great
      go_wp2_with (at_builtin; refine wpList_append_own _ rfl _ _ 27 rfl w.heap.size 28 i0 (.agg #[.int .i64 0, .int .i64 0]) 2 16 Try.underlying27 hi hz0 hz1 hz2 rfl (by decide) _ _ _ rfl (((Q1.out.alloc _).alloc _).alloc _) ⟨wr.heap.size + 2, 0, none⟩ 1 1 [.int .i64 (3 * ax), .int .i64 (3 * ay)] rfl rfl ?c1 ?c2 ?c3 ?c4 ?c5 ?_)
      case c1 => exact cells_new3 _ _ _ _ _
      case c2 => intro u hu; simp at hu; rcases hu with rfl | rfl <;> rfl
      case c3 => unfold maxLen; omega
      case c4 => omega
      case c5 => simp; omega
      intro vG wG hownG hgrowG _
      have RG := hid (StrS.toG HMT.out HST.out hownG hgrowG)
      have hab := two_kept (a := #[.int .i64 ax, .int .i64 ay]) (b := #[.int .i64 bx, .int .i64 by']) Q1.out hgrowG
      obtain ⟨ba, bb⟩ := hab
      have a0 : wG.cell? ⟨wr.heap.size, 0, none⟩ = some (.int .i64 ax) := ba.cell 0
      have a1 : wG.cell? ⟨wr.heap.size, 1, none⟩ = some (.int .i64 ay) := ba.cell 1
      have b0 : wG.cell? ⟨wr.heap.size + 1, 0, none⟩ = some (.int .i64 bx) := bb.cell 0
      have b1 : wG.cell? ⟨wr.heap.size + 1, 1, none⟩ = some (.int .i64 by') := bb.cell 1
      have la := ba.lt
      have lb := bb.lt
      have hszG := RG.out.same.size
      have hxs := RG.out.ops
      obtain ⟨xs, o1, o2⟩ := hxs
      have O1 := hid o1
      have O2 := hid o2
      clear hownG hgrowG c0 c1 d0 d1 ba bb o1 o2
      go_wp2_with (at_builtin; refine wpList_append_own _ rfl _ _ 25 rfl w.heap.size 31 j0 (.agg #[.int .i64 0, .slice none 0 0]) 2 32 Try.underlying25 hj jz0 jz1 jz2 rfl (by decide) _ _ _ rfl ((((O1.out.alloc _).alloc _).alloc _).alloc _) ⟨wG.heap.size + 1 + 1 + 1, 0, none⟩ 1 1 [.int .i64 3, .slice (some ⟨wG.heap.size + 1 + 1, 0, none⟩) 6 6] rfl rfl ?d1 ?d2 ?d3 ?d4 ?d5 ?_)
      case d1 => exact cells_new _ (by simp) _ _ _
      case d2 => intro u hu; simp at hu; rcases hu with rfl | rfl <;> rfl
      case d3 => unfold maxLen; omega
      case d4 => omega
      case d5 => simp; omega
      intro v1 w5 hown5 hgrow5 _
      have hG := grown_alloc (grown_alloc (grown_alloc (grown_alloc (show wG.grownBy wG none from ⟨rfl, rfl, rfl, Nat.le_refl _, fun _ _ _ => rfl⟩) (Obj.cells #[.int .i64 (ax + bx), .int .i64 (ay + by'), .int .i64 (2 * bx), .int .i64 (2 * by')] 3)) (Obj.cells #[.int .i64 3, .slice (some ⟨wG.heap.size + 1 + 1, 0, none⟩) 6 6] 31))
        (Obj.cells #[.int .i64 (2 * ax + bx), .int .i64 (2 * ay + by'), .int .i64 (ax + 2 * bx), .int .i64 (ay + 2 * by'), .int .i64 (3 * bx), .int .i64 (3 * by')] 3)) (Obj.cells #[.int .i64 3, .slice (some ⟨wG.heap.size + 1 + 1, 0, none⟩) 6 6] 31)
      have hB := (Blk.new ((wG.alloc (Obj.cells #[.int .i64 (ax + bx), .int .i64 (ay + by'), .int .i64 (2 * bx), .int .i64 (2 * by')] 3)).alloc (Obj.cells #[.int .i64 3, .slice (some ⟨wG.heap.size + 1 + 1, 0, none⟩) 6 6] 31)) 3 #[.int .i64 (2 * ax + bx), .int .i64 (2 * ay + by'), .int .i64 (ax + 2 * bx), .int .i64 (ay + 2 * by'), .int .i64 (3 * bx), .int .i64 (3 * by')]).alloc (Obj.cells #[.int .i64 3, .slice (some ⟨wG.heap.size + 1 + 1, 0, none⟩) 6 6] 31)
      have hBs : ((wG.alloc (Obj.cells #[.int .i64 (ax + bx), .int .i64 (ay + by'), .int .i64 (2 * bx), .int .i64 (2 * by')] 3)).alloc (Obj.cells #[.int .i64 3, .slice (some ⟨wG.heap.size + 1 + 1, 0, none⟩) 6 6] 31)).heap.size = wG.heap.size + 1 + 1 := by simp
      rw [hBs] at hB
      have RN := hid (StrG.next (c := true) (ps := [2 * ax + bx, 2 * ay + by', ax + 2 * bx, ay + 2 * by', 3 * bx, 3 * by']) HE.out rfl (by simp) RG.out O1.out O2.out hG (by omega) hB hown5 hgrow5)
      clear hown5 hgrow5 hG hB hBs
      go_wp2_with fail
      go_roundw
      case measure => simp [intOf]; omega
      case rel => exact ⟨k + 1, by omega, by go_num, RN.out⟩
    · obtain rfl : k = pts.length := by omega
      have HST := hid hst
      have hsz := hst.same.size
      have hxs := hst.ops
      obtain ⟨xs, o1, o2⟩ := hxs
      have O1 := hid o1
      have O2 := hid o2
      clear hst o1 o2
      go_wp2_with (at_builtin; refine wpList_append_own _ rfl _ _ 25 rfl w.heap.size 31 j0 (.agg #[.int .i64 0, .slice none 0 0]) 2 32 Try.underlying25 hj jz0 jz1 jz2 rfl (by decide) _ _ _ rfl (O1.out.alloc _) ⟨wr.heap.size, 0, none⟩ 1 1 [.int .i64 4, .slice none 0 0] rfl rfl ?e1 ?e2 ?e3 ?e4 ?e5 ?_)
      case e1 => exact cells_new1 _ _ _
      case e2 => intro u hu; simp at hu; rcases hu with rfl | rfl <;> rfl
      case e3 => unfold maxLen; omega
      case e4 => omega
      case e5 => simp; omega
      intro v1 w5 hown5 hgrow5 _
      have RE := hid (StrS.end_ (by rintro rfl; simp at h3) (by omega) HST.out O1.out O2.out hown5 hgrow5)
      clear hown5 hgrow5
      go_wp2_with fail
      refine (maskBy_any W H (strOps true pts) v1 w5 (by omega) (by omega) (by omega) (by omega) hn true RE.out.1 HF.out.ok).mono ?_
      rintro e w6 ⟨d, rfl, hd, t1, t2⟩
      have BA := hid t1
      have T6 := hid (RE.out.2.2.trans t2)
      have PV := hid ((RE.out.2.1.kept t2 (Nat.le_refl _) (fun _ _ hf => hf)).mono t2.size)
      clear t1 t2 hd RE
      have hle := HF.out.len
      have hnr := HF.out.near
      have h31 := HF.out.e31
      have hdk := HF.out.dok
      have hfk := HF.out.fok
      have hel := HF.out.el
      have hpl := HF.out.poly
      have hgl2 : (pts.map (scP (kS true))).length = pts.length := List.length_map _
      have PV2 := PV.out
      clear HF PV
      generalize edges (pts.map (scP (kS true))) = es at hnr h31 hdk hfk hel hpl
      generalize maskR true W H (strOps true pts) = m at BA hle hnr
      generalize pts.map (scP (kS true)) = gs at hel hpl hgl2 PV2
      rw [hgl2] at hel
      obtain ⟨A, cp, rfl, hl, ha⟩ := PV2
      obtain ⟨gg, go, rfl, hgc⟩ := ha (by omega)
      have HN := hid hnr
      have H31 := hid h31
      have HDK := hid hdk
      have HPL := hid hpl
      have HML := hid hle
      have HGC := hid hgc
      have HEL := hid hel
      obtain ⟨fk1, fk2⟩ := hfk
      have farE := hid (show farS es = fop64 .sub (fop64 .mul 4611686018427387904 (driftW es)) 4611686018427387904 from rfl)
      have hgl3 : gs.length ≤ 1000000 := by omega
      have hgl4 : 0 < gs.length := by omega
      have HGL := hid hgl2
      clear hnr h31 hdk hpl hle hgc ha hel hgl2
      go_wp2_with fail
      refine (poly_cons gs gg go cp w6 hgl4 hgl3 HGC.out).mono ?_
      rintro e w7 ⟨vP, rfl, p1, t1⟩
      have p1' : w7.ownsRow w6.heap.size 78 4 vP es.length (edgeCells es) := by
        rw [HEL.out, ← HGL.out, ← HPL.out]
        exact p1
      have P1 := hid p1'
      have T7 := hid (T6.out.trans t1)
      have BA7 := hid (t1.blk BA.out id)
      have HGC7 := hid (show PtsCells w7 w7.heap.size gg go gs from by
        have h9 := HGC.out.kept t1 (Nat.le_refl _) (fun _ _ hf => hf)
        exact ⟨Nat.lt_of_lt_of_le h9.1 t1.size, h9.2⟩)
      clear t1 p1 p1'
      go_wp2_with fail
      refine (poly_cons gs gg go cp w7 hgl4 hgl3 HGC7.out).mono ?_
      rintro e w8 ⟨vQ, rfl, p1, t1⟩
      have p1' : w8.ownsRow w7.heap.size 78 4 vQ es.length (edgeCells es) := by
        rw [HEL.out, ← HGL.out, ← HPL.out]
        exact p1
      have P2 := hid p1'
      have T8 := hid (T7.out.trans t1)
      have BA8 := hid (t1.blk BA7.out id)
      have P18 := hid (own_sameW P1.out t1)
      have hel1 : es.length ≤ 1000 := by rw [HEL.out]; omega
      clear t1 p1 p1'
      go_wp2_with fail
      refine (drift_own31 es vQ w8 hel1 P2.out H31.out HDK.out).mono ?_
      rintro e w9 ⟨rfl, t1⟩
      have T9 := hid (T8.out.trans t1)
      have BA9 := hid (t1.blk BA8.out id)
      have P19 := hid (own_sameW P18.out t1)
      clear t1
      generalize hdw : driftW es = dw at fk1 fk2
      have farE2 := farE.out
      rw [hdw] at farE2
      have FE := hid farE2
      clear farE2 farE hdw
      go_wp2_with fail
      rw [← FE.out]
      refine (nearMask m d (W * H) W H es vP (farS es) w9 (by omega) (by omega) HML.out BA9.out HN.out (fun X Y wr hX hY hsm hok => area_own es vP X Y wr (by omega) (by omega) (by omega) (own_sameW P19.out hsm) (fun e he => edge31_near (H31.out e he)) hok)).mono ?_
      rintro e w10 ⟨rfl, t1⟩
      have T10 := hid (T9.out.trans t1)
      clear t1
      go_wp2_with fail
      go_ret
      exact ⟨rfl, T10.out⟩
set_option maxHeartbeats 4000000 in
set_option maxRecDepth 100000 in
theorem walk_false (W H : Nat) (pts : List (Int × Int)) (g off cap : Nat) (w : World) (hs : sevB (W : Int) (H : Int) [pts] = true) (hin : withinB pts 10240 = true) (hp : PtsCells w w.heap.size g off pts) (h3 : 3 ≤ pts.length) (h12 : pts.length ≤ 12) :
    Calls Try.prog 11 #[.int .i64 W, .int .i64 H, .slice (some ⟨g, off, none⟩) pts.length cap, .bool false] w fun e w' => e = .returned (.bool true) ∧ Same w w' := by
  obtain ⟨z1, z2, z3, z4, z5⟩ := sevB_one.1 hs
  obtain ⟨s1, s2, s3, s4, s5⟩ := sizedB_iff.1 z1
  have HS := hid hs
  have HP := hid hp
  have HIN := hid hin
  obtain ⟨i0, hi, hz0, hz1, hz2⟩ := info_parts info28
  obtain ⟨j0, hj, jz0, jz1, jz2⟩ := info_parts info31
  have hgl := hp.1
  have hn : W * H ≤ 65536 := by
    have : ((W * H : Nat) : Int) ≤ 65536 := by push_cast; exact s5
    omega
  have HF := hid (strFacts false (W := W) (H := H) (by omega) (by omega) (by omega) (pts := pts) (by rintro rfl; simp at h3) h12 hin)
  clear hs hp hin z1 z4
  go_enter Try.func11, Try.ntmps11
  go_wp2_with fail
  have hv0 : PtsAt w w.heap.size (.slice (some ⟨g, off, none⟩) pts.length cap) pts := ⟨_, cap, rfl, by omega, fun _ => ⟨g, off, rfl, HP.out⟩⟩
  have HV0 := hid hv0
  have hrows : RowsAt (w.alloc (.cells #[.slice (some ⟨g, off, none⟩) pts.length cap] 27)) (w.alloc (.cells #[.slice (some ⟨g, off, none⟩) pts.length cap] 27)).heap.size (.slice (some ⟨w.heap.size, 0, none⟩) 1 1) [pts] :=
    rows_one (Blk.new w 27 _) (HV0.out.kept (Kept.alloc (Kept.refl (fun _ => False) w) _) (Nat.le_refl _) (fun _ _ hf => hf)) (by simp)
  have HR := hid hrows
  have T0 := hid (show Same w (w.alloc (.cells #[.slice (some ⟨g, off, none⟩) pts.length cap] 27)) from (Kept.refl _ _).alloc _)
  clear hv0 hrows
  generalize w.alloc (.cells #[.slice (some ⟨g, off, none⟩) pts.length cap] 27) = w0 at HR T0 ⊢
  refine (several_any (W : Int) (H : Int) [pts] _ w0 HR.out).mono ?_
  rintro e w1 ⟨v7, v8, rfl, _, t2⟩
  rw [HS.out]
  have T1 := hid (T0.out.trans t2)
  clear t2
  have HP1 := hid (HP.out.kept T1.out (Nat.le_refl _) (fun _ _ hf => hf))
  have hsz1 := T1.out.size
  have hg1 : g < w1.heap.size := Nat.lt_of_lt_of_le HP1.out.1 hsz1
  go_wp2_with fail
  refine (within_cons pts 10240 g off cap w1 (by omega) (by omega) (by omega) (by omega) ⟨hg1, HP1.out.2⟩).mono ?_
  rintro e w2 ⟨rfl, t1⟩
  rw [HIN.out]
  have T2 := hid (T1.out.trans t1)
  clear t1
  have HP2 := hid (HP.out.kept T2.out (Nat.le_refl _) (fun _ _ hf => hf))
  have hsz2 := T2.out.size
  have hg2 : g < w2.heap.size := Nat.lt_of_lt_of_le HP2.out.1 hsz2
  obtain ⟨c0, c1⟩ := HP2.out.2 0 (by omega)
  have hn0 : (0 : Int) < (pts.length : Int) := by omega
  have hn0' : 0 < pts.length := by omega
  simp only [Nat.zero_mul, Nat.add_zero] at c0 c1
  have hfar0 := (withinB_iff.1 HIN.out).1 (pts[0]'(by omega)) (List.getElem_mem _)
  have hget0 : pts.getD 0 (0, 0) = pts[0]'(by omega) := by simp [List.getD, hn0']
  generalize (pts[0]'(by omega)) = p0 at c0 c1 hfar0 hget0
  obtain ⟨x0, y0⟩ := p0
  simp only at c0 c1 hfar0
  obtain ⟨⟨f1, f2⟩, f3, f4⟩ := hfar0
  have HG0 := hid hget0
  clear hget0
  clear hsz1 hg1
  go_wp2_with fail
  go_region
  have st0 := hid (StrS.start (c := false) (x0 := x0) (y0 := y0) T2.out HG0.out)
  go_wp2_with fail
  go_loopw [13, 14, 56] (fun v v' i wr => ∃ k : Nat, k ≤ pts.length ∧ i = .int .i64 k ∧ StrS w false pts k v v' wr) (fun _ _ i _ => pts.length - (intOf i).toNat)
  case atStart => exact ⟨0, Nat.zero_le _, rfl, st0.out⟩
  case round =>
    obtain ⟨k, hk, rfl, hst⟩ := hrel
    by_cases hlt : k < pts.length
    · have hpc := HP.out.kept hst.same (Nat.le_refl _) (fun _ _ hf => hf)
      obtain ⟨q, hq⟩ : ∃ q, q = (k + 1) % pts.length := ⟨_, rfl⟩
      have hql : q < pts.length := by rw [hq]; exact Nat.mod_lt _ (by omega)
      have hrem : ((k : Int) + 1).tmod (pts.length : Int) = (q : Int) := by
        rw [hq]
        rw [show ((k : Int) + 1) = ((k + 1 : Nat) : Int) by push_cast; rfl]
        exact Int.ofNat_tmod (k + 1) pts.length |>.symm
      have hnz : ¬ (pts.length : Int) = 0 := by omega
      obtain ⟨c0, c1⟩ := hpc.2 k hlt
      obtain ⟨d0, d1⟩ := hpc.2 q hql
      have hgr : g < wr.heap.size := Nat.lt_of_lt_of_le hpc.1 hst.same.size
      have hsz := hst.same.size
      have hfa := (withinB_iff.1 HIN.out).1 (pts[k]) (List.getElem_mem hlt)
      have hfb := (withinB_iff.1 HIN.out).1 (pts[q]) (List.getElem_mem hql)
      have hE := (edges_at hlt hql hq)
      have hMT := pts_take hlt
      generalize pts[k] = a at c0 c1 hfa hE hMT
      generalize pts[q] = b at d0 d1 hfb hE
      obtain ⟨ax, ay⟩ := a
      obtain ⟨bx, by'⟩ := b
      simp only at c0 c1 d0 d1 hfa hfb
      obtain ⟨⟨p1, p2⟩, p3, p4⟩ := hfa
      obtain ⟨⟨q1, q2⟩, q3, q4⟩ := hfb
      have HST := hid hst
      have HE := hid hE
      have HMT := hid hMT
      have hqi : (q : Int) < (pts.length : Int) := by omega
      have hki : (k : Int) < (pts.length : Int) := by omega
      have HQ := hid hq
      have hg1 : g < wr.heap.size + 1 := by omega
      clear hpc hst hq hE hMT
      have Q1 := hid HST.out.great
      go_wp2_with (at_builtin; refine wpList_append_own _ rfl _ _ 27 rfl w.heap.size 28 i0 (.agg #[.int .i64 0, .int .i64 0]) 2 16 Try.underlying27 hi hz0 hz1 hz2 rfl (by decide) _ _ _ rfl (((Q1.out.alloc _).alloc _).alloc _) ⟨wr.heap.size + 2, 0, none⟩ 1 1 [.int .i64 (2 * ax), .int .i64 (2 * ay)] rfl rfl ?c1 ?c2 ?c3 ?c4 ?c5 ?_)
      case c1 => exact cells_new3 _ _ _ _ _
      case c2 => intro u hu; simp at hu; rcases hu with rfl | rfl <;> rfl
      case c3 => unfold maxLen; omega
      case c4 => omega
      case c5 => simp; omega
      intro vG wG hownG hgrowG _
      have RG := hid (StrS.toG HMT.out HST.out hownG hgrowG)
      have hab := two_kept (a := #[.int .i64 ax, .int .i64 ay]) (b := #[.int .i64 bx, .int .i64 by']) Q1.out hgrowG
      obtain ⟨ba, bb⟩ := hab
      have a0 : wG.cell? ⟨wr.heap.size, 0, none⟩ = some (.int .i64 ax) := ba.cell 0
      have a1 : wG.cell? ⟨wr.heap.size, 1, none⟩ = some (.int .i64 ay) := ba.cell 1
      have b0 : wG.cell? ⟨wr.heap.size + 1, 0, none⟩ = some (.int .i64 bx) := bb.cell 0
      have b1 : wG.cell? ⟨wr.heap.size + 1, 1, none⟩ = some (.int .i64 by') := bb.cell 1
      have la := ba.lt
      have lb := bb.lt
      have hszG := RG.out.same.size
      have hxs := RG.out.ops
      obtain ⟨xs, o1, o2⟩ := hxs
      have O1 := hid o1
      have O2 := hid o2
      clear hownG hgrowG c0 c1 d0 d1 ba bb o1 o2
      go_wp2_with (at_builtin; refine wpList_append_own _ rfl _ _ 25 rfl w.heap.size 31 j0 (.agg #[.int .i64 0, .slice none 0 0]) 2 32 Try.underlying25 hj jz0 jz1 jz2 rfl (by decide) _ _ _ rfl (((O1.out.alloc _).alloc _).alloc _) ⟨wG.heap.size + 1 + 1, 0, none⟩ 1 1 [.int .i64 2, .slice (some ⟨wG.heap.size, 0, none⟩) 4 4] rfl rfl ?d1 ?d2 ?d3 ?d4 ?d5 ?_)
      case d1 => exact cells_new _ (by simp) _ _ _
      case d2 => intro u hu; simp at hu; rcases hu with rfl | rfl <;> rfl
      case d3 => unfold maxLen; omega
      case d4 => omega
      case d5 => simp; omega
      intro v1 w5 hown5 hgrow5 _
      have hG := grown_alloc (grown_alloc (grown_alloc (show wG.grownBy wG none from ⟨rfl, rfl, rfl, Nat.le_refl _, fun _ _ _ => rfl⟩) (Obj.cells #[.int .i64 (ax + bx), .int .i64 (ay + by'), .int .i64 (2 * bx), .int .i64 (2 * by')] 3)) (Obj.cells #[.int .i64 2, .slice (some ⟨wG.heap.size, 0, none⟩) 4 4] 31))
        (Obj.cells #[.int .i64 2, .slice (some ⟨wG.heap.size, 0, none⟩) 4 4] 31)
      have hB := ((Blk.new wG 3 #[.int .i64 (ax + bx), .int .i64 (ay + by'), .int .i64 (2 * bx), .int .i64 (2 * by')]).alloc (Obj.cells #[.int .i64 2, .slice (some ⟨wG.heap.size, 0, none⟩) 4 4] 31)).alloc (Obj.cells #[.int .i64 2, .slice (some ⟨wG.heap.size, 0, none⟩) 4 4] 31)
      have RN := hid (StrG.next (c := false) (ps := [ax + bx, ay + by', 2 * bx, 2 * by']) HE.out rfl (by simp) RG.out O1.out O2.out hG (by omega) hB hown5 hgrow5)
      clear hown5 hgrow5 hG hB
      go_wp2_with fail
      go_roundw
      case measure => simp [intOf]; omega
      case rel => exact ⟨k + 1, by omega, by go_num, RN.out⟩
    · obtain rfl : k = pts.length := by omega
      have HST := hid hst
      have hsz := hst.same.size
      have hxs := hst.ops
      obtain ⟨xs, o1, o2⟩ := hxs
      have O1 := hid o1
      have O2 := hid o2
      clear hst o1 o2
      go_wp2_with (at_builtin; refine wpList_append_own _ rfl _ _ 25 rfl w.heap.size 31 j0 (.agg #[.int .i64 0, .slice none 0 0]) 2 32 Try.underlying25 hj jz0 jz1 jz2 rfl (by decide) _ _ _ rfl (O1.out.alloc _) ⟨wr.heap.size, 0, none⟩ 1 1 [.int .i64 4, .slice none 0 0] rfl rfl ?e1 ?e2 ?e3 ?e4 ?e5 ?_)
      case e1 => exact cells_new1 _ _ _
      case e2 => intro u hu; simp at hu; rcases hu with rfl | rfl <;> rfl
      case e3 => unfold maxLen; omega
      case e4 => omega
      case e5 => simp; omega
      intro v1 w5 hown5 hgrow5 _
      have RE := hid (StrS.end_ (by rintro rfl; simp at h3) (by omega) HST.out O1.out O2.out hown5 hgrow5)
      clear hown5 hgrow5
      go_wp2_with fail
      refine (maskBy_any W H (strOps false pts) v1 w5 (by omega) (by omega) (by omega) (by omega) hn true RE.out.1 HF.out.ok).mono ?_
      rintro e w6 ⟨d, rfl, hd, t1, t2⟩
      have BA := hid t1
      have T6 := hid (RE.out.2.2.trans t2)
      have PV := hid ((RE.out.2.1.kept t2 (Nat.le_refl _) (fun _ _ hf => hf)).mono t2.size)
      clear t1 t2 hd RE
      have hle := HF.out.len
      have hnr := HF.out.near
      have h31 := HF.out.e31
      have hdk := HF.out.dok
      have hfk := HF.out.fok
      have hel := HF.out.el
      have hpl := HF.out.poly
      have hgl2 : (pts.map (scP (kS false))).length = pts.length := List.length_map _
      have PV2 := PV.out
      clear HF PV
      generalize edges (pts.map (scP (kS false))) = es at hnr h31 hdk hfk hel hpl
      generalize maskR true W H (strOps false pts) = m at BA hle hnr
      generalize pts.map (scP (kS false)) = gs at hel hpl hgl2 PV2
      rw [hgl2] at hel
      obtain ⟨A, cp, rfl, hl, ha⟩ := PV2
      obtain ⟨gg, go, rfl, hgc⟩ := ha (by omega)
      have HN := hid hnr
      have H31 := hid h31
      have HDK := hid hdk
      have HPL := hid hpl
      have HML := hid hle
      have HGC := hid hgc
      have HEL := hid hel
      obtain ⟨fk1, fk2⟩ := hfk
      have farE := hid (show farS es = fop64 .sub (fop64 .mul 4611686018427387904 (driftW es)) 4611686018427387904 from rfl)
      have hgl3 : gs.length ≤ 1000000 := by omega
      have hgl4 : 0 < gs.length := by omega
      have HGL := hid hgl2
      clear hnr h31 hdk hpl hle hgc ha hel hgl2
      go_wp2_with fail
      refine (poly_cons gs gg go cp w6 hgl4 hgl3 HGC.out).mono ?_
      rintro e w7 ⟨vP, rfl, p1, t1⟩
      have p1' : w7.ownsRow w6.heap.size 78 4 vP es.length (edgeCells es) := by
        rw [HEL.out, ← HGL.out, ← HPL.out]
        exact p1
      have P1 := hid p1'
      have T7 := hid (T6.out.trans t1)
      have BA7 := hid (t1.blk BA.out id)
      have HGC7 := hid (show PtsCells w7 w7.heap.size gg go gs from by
        have h9 := HGC.out.kept t1 (Nat.le_refl _) (fun _ _ hf => hf)
        exact ⟨Nat.lt_of_lt_of_le h9.1 t1.size, h9.2⟩)
      clear t1 p1 p1'
      go_wp2_with fail
      refine (poly_cons gs gg go cp w7 hgl4 hgl3 HGC7.out).mono ?_
      rintro e w8 ⟨vQ, rfl, p1, t1⟩
      have p1' : w8.ownsRow w7.heap.size 78 4 vQ es.length (edgeCells es) := by
        rw [HEL.out, ← HGL.out, ← HPL.out]
        exact p1
      have P2 := hid p1'
      have T8 := hid (T7.out.trans t1)
      have BA8 := hid (t1.blk BA7.out id)
      have P18 := hid (own_sameW P1.out t1)
      have hel1 : es.length ≤ 1000 := by rw [HEL.out]; omega
      clear t1 p1 p1'
      go_wp2_with fail
      refine (drift_own31 es vQ w8 hel1 P2.out H31.out HDK.out).mono ?_
      rintro e w9 ⟨rfl, t1⟩
      have T9 := hid (T8.out.trans t1)
      have BA9 := hid (t1.blk BA8.out id)
      have P19 := hid (own_sameW P18.out t1)
      clear t1
      generalize hdw : driftW es = dw at fk1 fk2
      have farE2 := farE.out
      rw [hdw] at farE2
      have FE := hid farE2
      clear farE2 farE hdw
      go_wp2_with fail
      rw [← FE.out]
      refine (nearMask m d (W * H) W H es vP (farS es) w9 (by omega) (by omega) HML.out BA9.out HN.out (fun X Y wr hX hY hsm hok => area_own es vP X Y wr (by omega) (by omega) (by omega) (own_sameW P19.out hsm) (fun e he => edge31_near (H31.out e he)) hok)).mono ?_
      rintro e w10 ⟨rfl, t1⟩
      have T10 := hid (T9.out.trans t1)
      clear t1
      go_wp2_with fail
      go_ret
      exact ⟨rfl, T10.out⟩
set_option maxHeartbeats 2000000 in
set_option maxRecDepth 100000 in
theorem walk (W H : Int) (pts : List (Int × Int)) (v : Value) (c : Bool) (w : World) (hp : PtsAt w w.heap.size v pts) :
    Calls Try.prog 11 #[.int .i64 W, .int .i64 H, v, .bool c] w fun e w' => e = .returned (.bool true) ∧ Same w w' := by
  have HV0 := hid hp
  obtain ⟨A, cap, rfl, hl, ha⟩ := hp
  by_cases h0 : (2147483647 : Int) < pts.length
  · clear ha
    go_enter Try.func11, Try.ntmps11
    go_wp2_with fail
    go_ret
    exact ⟨rfl, Kept.refl _ _⟩
  have h0' : (pts.length : Int) ≤ 2147483647 := Int.not_lt.1 h0
  clear h0
  cases hs : sevB W H [pts]
  · have HS := hid hs
    clear ha hs
    go_enter Try.func11, Try.ntmps11
    go_wp2_with fail
    have hrows : RowsAt (w.alloc (.cells #[.slice A pts.length cap] 27)) (w.alloc (.cells #[.slice A pts.length cap] 27)).heap.size (.slice (some ⟨w.heap.size, 0, none⟩) 1 1) [pts] :=
      rows_one (Blk.new w 27 _) (HV0.out.kept (Kept.alloc (Kept.refl (fun _ => False) w) _) (Nat.le_refl _) (fun _ _ hf => hf)) (by simp)
    have HR := hid hrows
    have T0 := hid (show Same w (w.alloc (.cells #[.slice A pts.length cap] 27)) from (Kept.refl _ _).alloc _)
    clear hrows
    generalize w.alloc (.cells #[.slice A pts.length cap] 27) = w0 at HR T0 ⊢
    refine (several_any W H [pts] _ w0 HR.out).mono ?_
    rintro e w1 ⟨v7, v8, rfl, _, t2⟩
    rw [HS.out]
    have T1 := hid (T0.out.trans t2)
    clear t2
    go_wp2_with fail
    go_ret
    exact ⟨rfl, T1.out⟩
  obtain ⟨z1, z2, z3, z4, z5⟩ := sevB_one.1 hs
  obtain ⟨s1, s2, s3, s4, s5⟩ := sizedB_iff.1 z1
  obtain ⟨_, hl3, _⟩ := withinB_iff.1 z4
  obtain ⟨g, off, rfl, hc⟩ := ha (by omega)
  cases hin : withinB pts 10240
  · have HS := hid hs
    have HIN := hid hin
    have HP := hid hc
    clear hs hin hc ha
    go_enter Try.func11, Try.ntmps11
    go_wp2_with fail
    have hrows : RowsAt (w.alloc (.cells #[.slice (some ⟨g, off, none⟩) pts.length cap] 27)) (w.alloc (.cells #[.slice (some ⟨g, off, none⟩) pts.length cap] 27)).heap.size (.slice (some ⟨w.heap.size, 0, none⟩) 1 1) [pts] :=
      rows_one (Blk.new w 27 _) (HV0.out.kept (Kept.alloc (Kept.refl (fun _ => False) w) _) (Nat.le_refl _) (fun _ _ hf => hf)) (by simp)
    have HR := hid hrows
    have T0 := hid (show Same w (w.alloc (.cells #[.slice (some ⟨g, off, none⟩) pts.length cap] 27)) from (Kept.refl _ _).alloc _)
    clear hrows
    generalize w.alloc (.cells #[.slice (some ⟨g, off, none⟩) pts.length cap] 27) = w0 at HR T0 ⊢
    refine (several_any W H [pts] _ w0 HR.out).mono ?_
    rintro e w1 ⟨v7, v8, rfl, _, t2⟩
    rw [HS.out]
    have T1 := hid (T0.out.trans t2)
    clear t2
    have HP1 := hid (HP.out.kept T1.out (Nat.le_refl _) (fun _ _ hf => hf))
    have hsz1 := T1.out.size
    have hg1 : g < w1.heap.size := Nat.lt_of_lt_of_le HP1.out.1 hsz1
    go_wp2_with fail
    refine (within_cons pts 10240 g off cap w1 (by omega) (by omega) (by omega) (by omega) ⟨hg1, HP1.out.2⟩).mono ?_
    rintro e w2 ⟨rfl, t1⟩
    rw [HIN.out]
    have T2 := hid (T1.out.trans t1)
    clear t1
    go_wp2_with fail
    go_ret
    exact ⟨rfl, T2.out⟩
  obtain ⟨Wn, rfl⟩ : ∃ n : Nat, W = n := ⟨W.toNat, by omega⟩
  obtain ⟨Hn, rfl⟩ : ∃ n : Nat, H = n := ⟨H.toNat, by omega⟩
  cases c
  · exact walk_false Wn Hn pts g off cap w hs hin hc hl3 z5
  · exact walk_true Wn Hn pts g off cap w hs hin hc hl3 z5

theorem own : ownKnob Try.prog.godebug = none := by kernel_rfl
theorem readable : ∀ t ∈ Try.f11.params.toList, Try.prog.readableRec t = true ∧ t < Try.prog.types.size := by
  rw [Try.params11]
  intro t ht
  simp only [List.mem_cons, List.not_mem_nil, or_false] at ht
  rcases ht with rfl | rfl | rfl | rfl
  all_goals exact ⟨by kernel_rfl, of_decide_eq_true (by kernel_rfl)⟩

set_option maxRecDepth 100000 in
theorem lifted (os : Os) (started : os.Started) (H : Type) (enc : TypeId × Value → H) :
    ReturnsInHanded {} Try.checked os 11 .any (Rows.fnStraightCurvesAreLinesSpec.pre6 enc Try.prog Try.f11 Rows.fnStraightCurvesAreLinesRow.domain false) (Rows.fnStraightCurvesAreLinesSpec.post enc Try.prog Try.f11 false true false false) := by
  refine returnsInHanded_of_change (C := Try.checked) own started (by kernel_rfl) Try.func11
    (ChangeSpec.witness6 (enc := enc) (C := Try.checked) false ⟨#[], #[.int .i64 0, .int .i64 0, .slice none 0 0, .bool false], []⟩ 8 (by kernel_rfl) (by kernel_rfl) (by kernel_rfl) (by kernel_rfl)) ?_
  intro W base args ds gs before hval0 hW hcnd _
  have hval : ∀ (j : Nat) t v, Try.f11.params[j]? = some t → args[j]? = some v → Value.okWide Try.prog W .any base t v := hval0
  have hW' := hW
  obtain ⟨p, q, hA0, hV, rfl, hfz, hnd⟩ := hW
  have hA : DataW.TrodAll enc Try.prog W 0 (fun _ => true) true Try.f11.params.toList args.toList ds p := hA0
  rw [Try.params11] at hA hval
  obtain ⟨v0, vs0, d0, ds0, p0, q0, hargs, rfl, rfl, h0, r0⟩ := trodAll_cons hA
  obtain ⟨v1, vs1, d1, ds1, p1, q1, rfl, rfl, rfl, h1, r1⟩ := trodAll_cons r0
  obtain ⟨v2, vs2, d2, ds2, p2, q2, rfl, rfl, rfl, h2, r2⟩ := trodAll_cons r1
  obtain ⟨v3, vs3, d3, ds3, p3, q3, rfl, rfl, rfl, h3, r3⟩ := trodAll_cons r2
  obtain ⟨rfl, rfl, rfl⟩ := trodAll_nil r3
  obtain rfl : args = #[v0, v1, v2, v3] := by cases args; simp_all
  obtain ⟨rfl, rfl⟩ := trodVars_none hV
  obtain ⟨a0, rfl, rfl, rfl, w0⟩ := open_int Try.underlying3 (hval 0 3 v0 rfl rfl) h0
  obtain ⟨a1, rfl, rfl, rfl, w1⟩ := open_int Try.underlying3 (hval 1 3 v1 rfl rfl) h1
  obtain ⟨pts, hpts⟩ := open_ptsT (hval 2 27 v2 rfl rfl) h2
  obtain ⟨c, rfl, _, _, _⟩ := open_bool Try.underlying4 (hval 3 4 v3 rfl rfl) h3
  clear hA0 hval0
  simp only [List.append_nil] at hW'
  refine (walk a0 a1 pts v2 c W hpts).mono fun e W' ⟨he, hg⟩ => ?_
  subst he
  exact ⟨_, rfl, law_post readable rfl rfl rfl hW' hg.toBelow⟩

theorem over : Rows.fnStraightCurvesAreLinesRow.holds Try.pinned (OpenSpec.ofChange Rows.fnStraightCurvesAreLinesSpec) :=
  OpenClaim.holds_of_wide 11 Try.f11 rfl rfl rfl rfl rfl rfl rfl ⟨rfl, rfl, rfl, rfl, rfl⟩ rfl rfl rfl rfl rfl (by kernel_rfl) Try.func11 (by kernel_rfl)
    (of_decide_eq_true (by kernel_rfl)) (by unfold Func.isWrapper; first | (rw [if_pos (by decide +kernel)]; kernel_rfl) | (rw [if_neg (by decide +kernel)]; exact ⟨rfl, rfl⟩))
    (fun os started H enc _ => lifted os started H enc)

/-- The statement. -/
theorem proved : Rows.FnStraightCurvesAreLinesSaid :=
  over
#print axioms proved
end Go.Proofs.Ytmgcbodlolnheaa.fnStr
