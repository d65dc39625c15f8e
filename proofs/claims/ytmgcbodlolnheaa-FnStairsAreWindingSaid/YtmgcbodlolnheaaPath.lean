/-
  'laws.path': the calls that make a closed path.
-/
import Derived.Test.YtmgcbodlolnheaaPts
namespace Go.Proofs.Ytmgcbodlolnheaa
open Go.ChangeShapes Go.WideShapes Go.ChangeAt Go.RowKit
set_option linter.unusedVariables false

theorem info31 : (Try.prog.info? 31).map (fun i => (i.zero, i.size, i.bytes)) = some (some (.agg #[.int .i64 0, .slice none 0 0]), 2, 32) := by kernel_rfl

/-- A slice of ints of its own, in a block from D on; nil where it is empty. -/
def IntsOwn (w : World) (D : Nat) (v : Value) (ps : List Int) : Prop :=
  (ps = [] ∧ v = .slice none 0 0) ∨ ∃ g, D ≤ g ∧ ps.length ≤ 1000 ∧ v = .slice (some ⟨g, 0, none⟩) ps.length ps.length ∧ Blk w g 3 (ps.map (Value.int .i64)).toArray
/-- Cells of calls. -/
def OpsOwn (w : World) (D : Nat) : List (Int × List Int) → List Value → Prop
  | [], [] => True
  | o :: t, a :: b :: r => a = .int .i64 o.1 ∧ IntsOwn w D b o.2 ∧ OpsOwn w D t r
  | _, _ => False
theorem IntsOwn.to {w w' : World} {D : Nat} {v : Value} {ps : List Int} (h : IntsOwn w D v ps) (hk : ∀ g cs, D ≤ g → Blk w g 3 cs → Blk w' g 3 cs) : IntsOwn w' D v ps := by
  rcases h with h | ⟨g, h1, h2, h3, h4⟩
  · exact .inl h
  · exact .inr ⟨g, h1, h2, h3, hk g _ h1 h4⟩
theorem OpsOwn.to {w w' : World} {D : Nat} (hk : ∀ g cs, D ≤ g → Blk w g 3 cs → Blk w' g 3 cs) : ∀ {ops : List (Int × List Int)} {xs : List Value}, OpsOwn w D ops xs → OpsOwn w' D ops xs
  | [], [], _ => trivial
  | o :: t, [], h => h.elim
  | o :: t, [a], h => h.elim
  | o :: t, a :: b :: r, h => ⟨h.1, h.2.1.to hk, OpsOwn.to hk h.2.2⟩
  | [], a :: r, h => h.elim
theorem OpsOwn.snoc {w : World} {D : Nat} {o : Int × List Int} {b : Value} (hb : IntsOwn w D b o.2) : ∀ {ops : List (Int × List Int)} {xs : List Value}, OpsOwn w D ops xs → OpsOwn w D (ops ++ [o]) (xs ++ [.int .i64 o.1, b])
  | [], [], _ => ⟨rfl, hb, trivial⟩
  | o' :: t, [], h => h.elim
  | o' :: t, [a], h => h.elim
  | o' :: t, a :: c :: r, h => ⟨h.1, h.2.1, OpsOwn.snoc hb h.2.2⟩
  | [], a :: r, h => h.elim
theorem OpsOwn.at {w : World} {D : Nat} : ∀ {ops : List (Int × List Int)} {xs : List Value}, OpsOwn w D ops xs → ∀ j, (h : j < ops.length) → ∃ b, xs[j * 2]? = some (.int .i64 (ops[j]).1) ∧ xs[j * 2 + 1]? = some b ∧ IntsOwn w D b (ops[j]).2
  | [], _, _, j, h => by simp at h
  | o :: t, [], h, _, _ => h.elim
  | o :: t, [a], h, _, _ => h.elim
  | o :: t, a :: b :: r, h, 0, _ => ⟨b, by simp [h.1], by simp, h.2.1⟩
  | o :: t, a :: b :: r, h, j + 1, hj => by
    obtain ⟨c, h1, h2, h3⟩ := OpsOwn.at h.2.2 j (by simpa using hj)
    have e1 : (j + 1) * 2 = j * 2 + 1 + 1 := by omega
    refine ⟨c, ?_, ?_, by simpa using h3⟩
    · rw [e1]; simpa using h1
    · rw [e1]; simpa using h2
theorem IntsOwn.ints {w : World} {D B : Nat} {v : Value} {ps : List Int} (h : IntsOwn w D v ps) (hB : w.heap.size ≤ B) : IntsAt w B v ps := by
  rcases h with ⟨rfl, rfl⟩ | ⟨g, h1, h2, rfl, h4⟩
  · exact ⟨none, 0, rfl, by simp, fun h => by simp at h⟩
  · refine ⟨_, _, rfl, by omega, fun _ => ⟨g, 0, rfl, Nat.lt_of_lt_of_le h4.lt hB, fun j p hj => ?_⟩⟩
    rw [h4.cell]
    simp [hj]
/-- An owned row of calls is a slice of calls. -/
theorem opsAt_own {w : World} {D D' n : Nat} {v : Value} {xs : List Value} {ops : List (Int × List Int)} (hn : ops.length = n) (hlen : n ≤ 9223372036854775807) (h : w.ownsRow D 31 2 v n xs) (ho : OpsOwn w D' ops xs) : OpsAt w w.heap.size v ops := by
  rcases h.2 with ⟨rfl, rfl⟩ | ⟨g, cap, cur, rfl, hg, hb, hnc, hcm, hcs, htake⟩
  · exact ⟨none, 0, by rw [hn], by omega, fun hp => by omega⟩
  · refine ⟨_, cap, by rw [hn], by omega, fun hp => ⟨g, 0, rfl, ?_, fun j hj => ?_⟩⟩
    · exact (show Blk w g 31 cur from hb).lt
    · obtain ⟨b, h1, h2, h3⟩ := ho.at j hj
      have hc := h.cellAt (g := g) (cap := cap)
      refine ⟨b, ?_, ?_, h3.ints (Nat.le_refl _)⟩
      · rw [Nat.zero_add, hc (j * 2) (by omega), h1]
      · rw [Nat.zero_add, hc (j * 2 + 1) (by omega), h2]

/-- The calls that make a closed path through points. -/
def lineOps (pts : List (Int × Int)) : List (Int × List Int) := pts.zipIdx.map fun p => (if p.2 = 0 then 0 else 1, [p.1.1, p.1.2])
def pathOps (pts : List (Int × Int)) : List (Int × List Int) := lineOps pts ++ [(4, [])]
theorem length_lineOps (pts : List (Int × Int)) : (lineOps pts).length = pts.length := by simp [lineOps]
theorem lineOps_snoc {pts : List (Int × Int)} {k : Nat} (h : k < pts.length) : lineOps (pts.take (k + 1)) = lineOps (pts.take k) ++ [(if k = 0 then 0 else 1, [(pts[k]).1, (pts[k]).2])] := by
  unfold lineOps
  rw [List.take_succ_eq_append_getElem h, List.zipIdx_append, List.map_append]
  simp [Nat.min_eq_left (Nat.le_of_lt h)]

/-- What holds of the calls made so far. -/
def PathS (w : World) (ops : List (Int × List Int)) (v : Value) (wr : World) : Prop :=
  ∃ xs, wr.ownsRow w.heap.size 31 2 v ops.length xs ∧ OpsOwn wr w.heap.size ops xs ∧ Same w wr

theorem own_keeps {w w' : World} {D n : Nat} {v : Value} {xs : List Value} (h : w.ownsRow D 31 2 v n xs) (hg : w.grownBy w' v.ownBlock) : ∀ g cs, Blk w g 3 cs → Blk w' g 3 cs := by
  intro g cs hb
  refine (hg.block g hb.lt fun he => ?_).trans hb
  rcases h.2 with ⟨rfl, _⟩ | ⟨g', cap, cur, rfl, _, hb', _⟩
  · simp [Value.ownBlock] at he
  · simp only [Value.ownBlock, Option.some.injEq] at he
    subst he
    exact absurd (hb.eq_ (show Blk w g 31 cur from hb')).1 (by decide)
theorem own_same {w w' : World} {D n : Nat} {v : Value} {xs : List Value} {w0 : World} (h : w.ownsRow D 31 2 v n xs) (hD : w0.heap.size ≤ D) (hs : Same w0 w) (hg : w.grownBy w' v.ownBlock) : Same w0 w' :=
  hs.grown hg fun k hk => .inl (Nat.le_trans hD (h.lt k hk).1)
/-- One call more. -/
theorem PathS.next {w wr w1 : World} {ops : List (Int × List Int)} {v v' : Value} {xs : List Value} {o : Int × List Int} {b : Value} (q1 : wr.ownsRow w.heap.size 31 2 v ops.length xs) (q2 : OpsOwn wr w.heap.size ops xs) (q3 : Same w wr)
    (hown : w1.ownsRow w.heap.size 31 2 v' (ops.length + 1) (xs ++ [.int .i64 o.1, b])) (hg : wr.grownBy w1 v.ownBlock) (hb : IntsOwn wr w.heap.size b o.2) : PathS w (ops ++ [o]) v' w1 := by
  have hk := own_keeps q1 hg
  refine ⟨_, by simpa using hown, (q2.to fun g cs _ => hk g cs).snoc (hb.to fun g cs _ => hk g cs), own_same q1 (Nat.le_refl _) q3 hg⟩

theorem cells_new1 {w : World} (t : TypeId) (a b : Value) : ∀ (j : Nat) (u : Value), [a, b][j]? = some u → (w.alloc (.cells #[a, b] t)).cell? ((⟨w.heap.size, 0, none⟩ : Addr).add j) = some u := by
  intro j u hu
  have hb := Blk.new w t #[a, b]
  have e : (⟨w.heap.size, 0, none⟩ : Addr).add j = ⟨w.heap.size, j, none⟩ := by unfold Addr.add; split <;> simp_all
  rw [e, hb.cell]
  simpa using hu
theorem cells_new3 {w : World} (o o' : Obj) (t : TypeId) (a b : Value) : ∀ (j : Nat) (u : Value), [a, b][j]? = some u → (((w.alloc o).alloc o').alloc (.cells #[a, b] t)).cell? ((⟨w.heap.size + 2, 0, none⟩ : Addr).add j) = some u := by
  have h := cells_new1 (w := (w.alloc o).alloc o') t a b
  have e : ((w.alloc o).alloc o').heap.size = w.heap.size + 2 := by simp
  rw [e] at h
  exact h
theorem path_next {w wr w1 : World} {pts : List (Int × Int)} {k : Nat} {v v' : Value} {xs : List Value} {kd x y : Int} {t : TypeId} {o1 : Obj}
    (hn : lineOps (pts.take (k + 1)) = lineOps (pts.take k) ++ [(kd, [x, y])]) (q1 : wr.ownsRow w.heap.size 31 2 v (lineOps (pts.take k)).length xs) (q2 : OpsOwn wr w.heap.size (lineOps (pts.take k)) xs) (q3 : Same w wr)
    (hown : w1.ownsRow w.heap.size 31 2 v' ((lineOps (pts.take k)).length + 1) (xs ++ [.int .i64 kd, .slice (some ⟨wr.heap.size + 1, 0, none⟩) 2 2]))
    (hg : (((wr.alloc o1).alloc (.cells #[.int .i64 x, .int .i64 y] 3)).alloc (.cells #[.int .i64 kd, .slice (some ⟨wr.heap.size + 1, 0, none⟩) 2 2] t)).grownBy w1 v.ownBlock) : PathS w (lineOps (pts.take (k + 1))) v' w1 := by
  rw [hn]
  have hsz := q3.size
  refine PathS.next (((q1.alloc _).alloc _).alloc _) (OpsOwn.to (fun g cs _ h => ((h.alloc _).alloc _).alloc _) q2) (((q3.alloc _).alloc _).alloc _) hown hg (.inr ⟨wr.heap.size + 1, by omega, by simp, rfl, ?_⟩)
  have hb := (Blk.new (wr.alloc o1) 3 #[.int .i64 x, .int .i64 y]).alloc (.cells #[.int .i64 kd, .slice (some ⟨wr.heap.size + 1, 0, none⟩) 2 2] t)
  simpa using hb
theorem path_end {w wr w1 : World} {pts : List (Int × Int)} {v v' : Value} {xs : List Value} {t : TypeId} (hl : (lineOps pts).length = pts.length) (hlen : pts.length ≤ 1000000)
    (q1 : wr.ownsRow w.heap.size 31 2 v (lineOps pts).length xs) (q2 : OpsOwn wr w.heap.size (lineOps pts) xs) (q3 : Same w wr)
    (hown : w1.ownsRow w.heap.size 31 2 v' ((lineOps pts).length + 1) (xs ++ [.int .i64 4, .slice none 0 0]))
    (hg : (wr.alloc (.cells #[.int .i64 4, .slice none 0 0] t)).grownBy w1 v.ownBlock) : OpsAt w1 w1.heap.size v' (pathOps pts) ∧ Same w w1 := by
  obtain ⟨xs', a, b, c⟩ := PathS.next (o := (4, [])) (b := .slice none 0 0) (q1.alloc _) (OpsOwn.to (fun g cs _ h => h.alloc _) q2) (q3.alloc _) hown hg (.inl ⟨rfl, rfl⟩)
  refine ⟨opsAt_own (n := (lineOps pts ++ [(4, [])]).length) rfl (by simp; omega) a b, c⟩

set_option maxHeartbeats 1000000 in
set_option maxRecDepth 100000 in
theorem path_cons (pts : List (Int × Int)) (g off cap : Nat) (w : World) (hpos : 0 < pts.length) (hlen : pts.length ≤ 1000000) (hp : PtsCells w w.heap.size g off pts) :
    Calls Try.prog 22 #[.slice (some ⟨g, off, none⟩) pts.length cap] w fun e w' => ∃ v, e = .returned v ∧ OpsAt w' w'.heap.size v (pathOps pts) ∧ Same w w' := by
  have HP := hid hp
  clear hp
  obtain ⟨i0, hi, hz0, hz1, hz2⟩ := info_parts info31
  go_enter Try.func22, Try.ntmps22
  go_wp2_with fail
  go_loopw [3, 9] (fun v i wr => ∃ k : Nat, k ≤ pts.length ∧ i = .int .i64 k ∧ PathS w (lineOps (pts.take k)) v wr) (fun _ i _ => pts.length - (intOf i).toNat)
  case atStart => exact ⟨0, Nat.zero_le _, rfl, [], World.ownsRow_nil _ _ _ _, trivial, Kept.refl _ _⟩
  case round =>
    obtain ⟨k, hk, rfl, xs, q1, q2, q3⟩ := hrel
    have hll : (lineOps (pts.take k)).length = k := by rw [length_lineOps, List.length_take, Nat.min_eq_left hk]
    by_cases hlt : k < pts.length
    · have hpc := HP.out.kept q3 (Nat.le_refl _) (fun _ _ hf => hf)
      obtain ⟨c0, c1⟩ := hpc.2 k hlt
      have hg : g < wr.heap.size := Nat.lt_of_lt_of_le hpc.1 q3.size
      have hnext := lineOps_snoc hlt
      generalize hx : (pts[k]).1 = x at c0 hnext
      generalize hy : (pts[k]).2 = y at c1 hnext
      have HN := hid hnext
      have HLL := hid hll
      have Q1 := hid q1
      have Q2 := hid q2
      have Q3 := hid q3
      have hsz := q3.size
      clear hx hy hpc hnext hll q1 q2 q3
      obtain ⟨kd, hkd⟩ : ∃ kd : Int, kd = if k = 0 then 0 else 1 := ⟨_, rfl⟩
      rw [← hkd] at HN
      by_cases h0 : k = 0
      · rw [if_pos h0] at hkd
        subst hkd
        have h0' : ((k : Int) == 0) = true := by simp [h0]
        clear h0
        go_wp2_with (at_builtin; refine wpList_append_own _ rfl _ _ 25 rfl w.heap.size 31 i0 (.agg #[.int .i64 0, .slice none 0 0]) 2 32 Try.underlying25 hi hz0 hz1 hz2 rfl (by decide) _ _ _ rfl (((Q1.out.alloc _).alloc _).alloc _) ⟨wr.heap.size + 2, 0, none⟩ 1 1 [.int .i64 0, .slice (some ⟨wr.heap.size + 1, 0, none⟩) 2 2] rfl rfl ?c1 ?c2 ?c3 ?c4 ?c5 ?_)
        case c1 => exact cells_new3 _ _ _ _ _
        case c2 => intro u hu; simp at hu; rcases hu with rfl | rfl <;> rfl
        case c3 => rw [HLL.out]; unfold maxLen; omega
        case c4 => rw [HLL.out]; omega
        case c5 => simp; omega
        intro v' w1 hown' hgrow _
        have R := path_next (kd := 0) HN.out Q1.out Q2.out Q3.out hown' hgrow
        clear hown' hgrow
        go_wp2_with fail
        go_roundw
        case measure => simp [intOf]; omega
        case rel => exact ⟨k + 1, by omega, by go_num, R⟩
      · rw [if_neg h0] at hkd
        subst hkd
        have h0' : ((k : Int) == 0) = false := by simp [h0]
        clear h0
        go_wp2_with (at_builtin; refine wpList_append_own _ rfl _ _ 25 rfl w.heap.size 31 i0 (.agg #[.int .i64 0, .slice none 0 0]) 2 32 Try.underlying25 hi hz0 hz1 hz2 rfl (by decide) _ _ _ rfl (((Q1.out.alloc _).alloc _).alloc _) ⟨wr.heap.size + 2, 0, none⟩ 1 1 [.int .i64 1, .slice (some ⟨wr.heap.size + 1, 0, none⟩) 2 2] rfl rfl ?c1 ?c2 ?c3 ?c4 ?c5 ?_)
        case c1 => exact cells_new3 _ _ _ _ _
        case c2 => intro u hu; simp at hu; rcases hu with rfl | rfl <;> rfl
        case c3 => rw [HLL.out]; unfold maxLen; omega
        case c4 => rw [HLL.out]; omega
        case c5 => simp; omega
        intro v' w1 hown' hgrow _
        have R := path_next (kd := 1) HN.out Q1.out Q2.out Q3.out hown' hgrow
        clear hown' hgrow
        go_wp2_with fail
        go_roundw
        case measure => simp [intOf]; omega
        case rel => exact ⟨k + 1, by omega, by go_num, R⟩
    · obtain rfl : k = pts.length := by omega
      rw [List.take_of_length_le (Nat.le_refl _)] at q1 q2 hll
      have HLL := hid hll
      have Q1 := hid q1
      have Q2 := hid q2
      have Q3 := hid q3
      have hsz := q3.size
      clear q1 q2 q3 hll
      go_wp2_with (at_builtin; refine wpList_append_own _ rfl _ _ 25 rfl w.heap.size 31 i0 (.agg #[.int .i64 0, .slice none 0 0]) 2 32 Try.underlying25 hi hz0 hz1 hz2 rfl (by decide) _ _ _ rfl (Q1.out.alloc _) ⟨wr.heap.size, 0, none⟩ 1 1 [.int .i64 4, .slice none 0 0] rfl rfl ?c1 ?c2 ?c3 ?c4 ?c5 ?_)
      case c1 => exact cells_new1 _ _ _
      case c2 => intro u hu; simp at hu; rcases hu with rfl | rfl <;> rfl
      case c3 => rw [HLL.out]; unfold maxLen; omega
      case c4 => rw [HLL.out]; omega
      case c5 => simp; omega
      intro v' w1 hown' hgrow _
      have R := path_end HLL.out (by omega) Q1.out Q2.out Q3.out hown' hgrow
      clear hown' hgrow
      have R2 := hid R
      clear R
      go_wp2_with fail
      go_ret
      exact ⟨_, rfl, R2.out⟩
end Go.Proofs.Ytmgcbodlolnheaa
