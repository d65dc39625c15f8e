/-
  'spec.Polygon': contract.
  'spec.Winding': contract.
  'spec.Stairs': contract.
-/
import Derived.Test.YtmgcbodlolnheaaEqual
import Derived.Deep.RegionHeld3
import Derived.Deep.AppendLies
namespace Go.Proofs.Ytmgcbodlolnheaa
open Go.ChangeShapes Go.WideShapes Go.ChangeAt Go.RowKit
set_option linter.unusedVariables false

theorem info78 : (Try.prog.info? 78).map (fun i => (i.zero, i.size, i.bytes)) = some (some (.agg #[.int .i64 0, .int .i64 0, .int .i64 0, .int .i64 0]), 4, 32) := by kernel_rfl
/-- The cells of edges. -/
def edgeCells (l : List ((Int × Int) × (Int × Int))) : List Value := l.flatMap fun e => [.int .i64 e.1.1, .int .i64 e.1.2, .int .i64 e.2.1, .int .i64 e.2.2]
theorem edgeCells_snoc (l : List ((Int × Int) × (Int × Int))) (e : (Int × Int) × (Int × Int)) : edgeCells (l ++ [e]) = edgeCells l ++ [.int .i64 e.1.1, .int .i64 e.1.2, .int .i64 e.2.1, .int .i64 e.2.2] := by simp [edgeCells]
/-- The edges behind the first k points. -/
def polyTo (pts : List (Int × Int)) (k : Nat) : List ((Int × Int) × (Int × Int)) := (List.range k).map fun i => (pts.getD i (0, 0), pts.getD ((i + 1) % pts.length) (0, 0))
theorem polyTo_succ (pts : List (Int × Int)) (k : Nat) : polyTo pts (k + 1) = polyTo pts k ++ [(pts.getD k (0, 0), pts.getD ((k + 1) % pts.length) (0, 0))] := by
  simp [polyTo, List.range_succ]
def PolyS (w : World) (pts : List (Int × Int)) (k : Nat) (v : Value) (wr : World) : Prop := wr.ownsRow w.heap.size 78 4 v k (edgeCells (polyTo pts k)) ∧ Same w wr
theorem cells_new4 (W : World) (t : TypeId) (a b c d : Value) (n : Nat) (hn : n = W.heap.size) : ∀ (j : Nat) (u : Value), [a, b, c, d][j]? = some u → (W.alloc (.cells #[a, b, c, d] t)).cell? ((⟨n, 0, none⟩ : Addr).add j) = some u := by
  subst hn
  intro j u hu
  have hb := Blk.new W t #[a, b, c, d]
  have e : (⟨W.heap.size, 0, none⟩ : Addr).add j = ⟨W.heap.size, j, none⟩ := by unfold Addr.add; split <;> simp_all
  rw [e, hb.cell]
  simpa using hu

set_option maxHeartbeats 1000000 in
set_option maxRecDepth 100000 in
theorem poly_cons (pts : List (Int × Int)) (g off cap : Nat) (w : World) (hpos : 0 < pts.length) (hlen : pts.length ≤ 1000000) (hp : PtsCells w w.heap.size g off pts) :
    Calls Try.prog 32 #[.slice (some ⟨g, off, none⟩) pts.length cap] w fun e w' => ∃ v, e = .returned v ∧ PolyS w pts pts.length v w' := by
  have HP := hid hp
  clear hp
  obtain ⟨i0, hi, hz0, hz1, hz2⟩ := info_parts info78
  go_enter Try.func32, Try.ntmps32
  go_wp2_with fail
  go_loopw [3, 9] (fun v i wr => ∃ k : Nat, k ≤ pts.length ∧ i = .int .i64 k ∧ PolyS w pts k v wr) (fun _ i _ => pts.length - (intOf i).toNat)
  case atStart => exact ⟨0, Nat.zero_le _, rfl, World.ownsRow_nil _ _ _ _, Kept.refl _ _⟩
  case round =>
    obtain ⟨k, hk, rfl, q1, q2⟩ := hrel
    by_cases hlt : k < pts.length
    · have hpc := HP.out.kept q2 (Nat.le_refl _) (fun _ _ hf => hf)
      obtain ⟨q, hq⟩ : ∃ q, q = (k + 1) % pts.length := ⟨_, rfl⟩
      have hql : q < pts.length := by rw [hq]; exact Nat.mod_lt _ hpos
      have hrem : ((k : Int) + 1).tmod (pts.length : Int) = (q : Int) := by
        rw [hq]
        rw [show ((k : Int) + 1) = ((k + 1 : Nat) : Int) by push_cast; rfl]
        exact Int.ofNat_tmod (k + 1) pts.length |>.symm
      have hn0 : ¬ (pts.length : Int) = 0 := by omega
      obtain ⟨c0, c1⟩ := hpc.2 k hlt
      obtain ⟨d0, d1⟩ := hpc.2 q hql
      have hg : g < wr.heap.size := Nat.lt_of_lt_of_le hpc.1 q2.size
      have hsz := q2.size
      have hnext := polyTo_succ pts k
      rw [← hq, show pts.getD k (0, 0) = pts[k] by simp [List.getD, hlt], show pts.getD q (0, 0) = pts[q] by simp [List.getD, hql]] at hnext
      generalize pts[k] = p at c0 c1 hnext
      generalize pts[q] = p' at d0 d1 hnext
      have HN := hid hnext
      have Q1 := hid q1
      have Q2 := hid q2
      have HQ := hid hq
      have hg1 : g < wr.heap.size + 1 := by omega
      have hqi : (q : Int) < pts.length := by omega
      clear hpc hnext q1 q2 hq
      go_wp2_with (at_builtin; go_loud (refine wpList_append_own _ rfl _ _ 40 rfl w.heap.size 78 i0 (.agg #[.int .i64 0, .int .i64 0, .int .i64 0, .int .i64 0]) 4 32 Try.underlying40 hi hz0 hz1 hz2 rfl (by decide) _ _ _ rfl (((Q1.out.alloc _).alloc _).alloc _) ⟨wr.heap.size + 2, 0, none⟩ 1 1 [.int .i64 p.1, .int .i64 p.2, .int .i64 p'.1, .int .i64 p'.2] rfl rfl ?c1 ?c2 ?c3 ?c4 ?c5 ?_))
      case c1 => exact cells_new4 _ _ _ _ _ _ _ (by simp)
      case c2 => intro u hu; simp at hu; rcases hu with rfl | rfl | rfl | rfl <;> rfl
      case c3 => unfold maxLen; omega
      case c4 => omega
      case c5 => simp; omega
      intro v' w1 hown' hgrow _
      have R : PolyS w pts (k + 1) v' w1 := by
        refine ⟨?_, (((Q2.out.alloc _).alloc _).alloc _).grown hgrow fun x hx => .inl (Q1.out.lt x hx).1⟩
        rw [HN.out, edgeCells_snoc]
        exact hown'
      have R1 := hid R
      clear R hown' hgrow
      go_wp2_with fail
      go_roundw
      case measure => simp [intOf]; omega
      case rel => exact ⟨k + 1, by omega, by go_num, R1.out⟩
    · obtain rfl : k = pts.length := by omega
      have Q1 := hid q1
      have Q2 := hid q2
      clear q1 q2
      go_wp2_with fail
      go_ret
      exact ⟨_, rfl, Q1.out, Q2.out⟩
end Go.Proofs.Ytmgcbodlolnheaa

namespace Go.Proofs.Ytmgcbodlolnheaa
open Go.ChangeShapes Go.WideShapes Go.ChangeAt Go.RowKit
set_option linter.unusedVariables false

abbrev Edge := (Int × Int) × (Int × Int)
/-- What an edge counts at the middle (mx, my) of a pixel. -/
def crossN (e : Edge) (mx my : Int) : Int :=
  if (e.1.2 ≤ my) = (e.2.2 ≤ my) then 0
  else if e.2.2 < e.1.2 then (if (mx - e.1.1) * (e.2.2 - e.1.2) < (e.2.1 - e.1.1) * (my - e.1.2) then -1 else 0)
  else if (e.2.1 - e.1.1) * (my - e.1.2) < (mx - e.1.1) * (e.2.2 - e.1.2) then 1 else 0
def windTo (l : List Edge) (mx my : Int) : Int := (l.map fun e => crossN e mx my).sum
theorem windTo_snoc (l : List Edge) (e : Edge) (mx my : Int) : windTo (l ++ [e]) mx my = windTo l mx my + crossN e mx my := by simp [windTo]
theorem crossN_bd (e : Edge) (mx my : Int) : -1 ≤ crossN e mx my ∧ crossN e mx my ≤ 1 := by
  unfold crossN
  split
  · decide
  · split <;> split <;> decide
theorem windTo_bd : ∀ (l : List Edge) (mx my : Int), -(l.length : Int) ≤ windTo l mx my ∧ windTo l mx my ≤ l.length
  | [], _, _ => by simp [windTo]
  | e :: t, mx, my => by
    have h1 := windTo_bd t mx my
    have h2 := crossN_bd e mx my
    have h3 : windTo (e :: t) mx my = crossN e mx my + windTo t mx my := by simp [windTo]
    rw [h3]
    simp only [List.length_cons]
    push_cast
    omega
def EdgesCells (w : World) (B g off : Nat) (l : List Edge) : Prop :=
  g < B ∧ ∀ j, (h : j < l.length) → w.cell? ⟨g, off + j * 4, none⟩ = some (.int .i64 (l[j]).1.1) ∧ w.cell? ⟨g, off + j * 4 + 1, none⟩ = some (.int .i64 (l[j]).1.2) ∧
    w.cell? ⟨g, off + j * 4 + 2, none⟩ = some (.int .i64 (l[j]).2.1) ∧ w.cell? ⟨g, off + j * 4 + 3, none⟩ = some (.int .i64 (l[j]).2.2)
theorem EdgesCells.kept {S : Nat → Prop} {w w' : World} {B g off : Nat} {l : List Edge} (h : EdgesCells w B g off l) (hk : Kept S w w') (hB : B ≤ w.heap.size) (hS : ∀ k, k < B → ¬ S k) : EdgesCells w' B g off l := by
  refine ⟨h.1, fun j hj => ?_⟩
  obtain ⟨a, b, c, d⟩ := h.2 j hj
  have hg : g < w.heap.size := Nat.lt_of_lt_of_le h.1 hB
  exact ⟨by rw [hk.cell hg (hS _ h.1)]; exact a, by rw [hk.cell hg (hS _ h.1)]; exact b, by rw [hk.cell hg (hS _ h.1)]; exact c, by rw [hk.cell hg (hS _ h.1)]; exact d⟩
/-- An edge near enough that nothing wraps. -/
def EdgeNear (e : Edge) : Prop := (-16000000 ≤ e.1.1 ∧ e.1.1 ≤ 16000000) ∧ (-16000000 ≤ e.1.2 ∧ e.1.2 ≤ 16000000) ∧ (-16000000 ≤ e.2.1 ∧ e.2.1 ≤ 16000000) ∧ (-16000000 ≤ e.2.2 ∧ e.2.2 ≤ 16000000)
theorem mul_near {a b : Int} (h1 : -40000000 ≤ a) (h2 : a ≤ 40000000) (h3 : -40000000 ≤ b) (h4 : b ≤ 40000000) : -9223372036854775808 ≤ a * b ∧ a * b ≤ 9223372036854775807 := by
  have hn : (a * b).natAbs ≤ 40000000 * 40000000 := by
    rw [Int.natAbs_mul]
    exact Nat.mul_le_mul (by omega) (by omega)
  omega

set_option maxHeartbeats 2000000 in
set_option maxRecDepth 100000 in
theorem wind_cons (l : List Edge) (g off cap : Nat) (x y : Int) (w : World) (hpos : 0 < l.length) (hlen : l.length ≤ 1000000) (hx : 0 ≤ x ∧ x ≤ 100000) (hy : 0 ≤ y ∧ y ≤ 100000) (hp : EdgesCells w w.heap.size g off l) (hnear : ∀ e ∈ l, EdgeNear e) :
    Calls Try.prog 25 #[.slice (some ⟨g, off, none⟩) l.length cap, .int .i64 x, .int .i64 y] w fun e w' => e = .returned (.int .i64 (windTo l (64 * x + 32) (64 * y + 32))) ∧ Same w w' := by
  have HP := hid hp
  have HNE := hid hnear
  clear hp hnear
  obtain ⟨hx1, hx2⟩ := hx
  obtain ⟨hy1, hy2⟩ := hy
  obtain ⟨mx, hmx⟩ : ∃ mx, mx = 64 * x + 32 := ⟨_, rfl⟩
  obtain ⟨my, hmy⟩ : ∃ my, my = 64 * y + 32 := ⟨_, rfl⟩
  rw [← hmx, ← hmy]
  go_enter Try.func25, Try.ntmps25
  go_wp2_with fail
  rw [← hmx, ← hmy]
  have bx : 0 ≤ mx ∧ mx ≤ 7000000 := by omega
  have bY : 0 ≤ my ∧ my ≤ 7000000 := by omega
  clear hmx hmy hx1 hx2 hy1 hy2
  go_loopw [7, 21] (fun v i wr => ∃ k : Nat, k ≤ l.length ∧ i = .int .i64 k ∧ v = .int .i64 (windTo (l.take k) mx my) ∧ Same w wr) (fun _ i _ => l.length - (intOf i).toNat)
  case atStart => exact ⟨0, Nat.zero_le _, rfl, rfl, Kept.refl _ _⟩
  case round =>
    obtain ⟨k, hk, rfl, rfl, q2⟩ := hrel
    by_cases hlt : k < l.length
    · have hpc := HP.out.kept q2 (Nat.le_refl _) (fun _ _ hf => hf)
      obtain ⟨c0, c1, c2, c3⟩ := hpc.2 k hlt
      have hg : g < wr.heap.size := Nat.lt_of_lt_of_le hpc.1 q2.size
      have hN := HNE.out _ (List.getElem_mem hlt)
      have hnext : windTo (l.take (k + 1)) mx my = windTo (l.take k) mx my + crossN l[k] mx my := by rw [List.take_succ_eq_append_getElem hlt, windTo_snoc]
      have hbd := windTo_bd (l.take k) mx my
      rw [List.length_take, Nat.min_eq_left hk] at hbd
      generalize l[k] = e at c0 c1 c2 c3 hN hnext
      generalize windTo (l.take k) mx my = n at hnext hbd
      obtain ⟨⟨x0, y0⟩, ⟨x1, y1⟩⟩ := e
      obtain ⟨⟨n1, n2⟩, ⟨n3, n4⟩, ⟨n5, n6⟩, ⟨n7, n8⟩⟩ := hN
      simp only at c0 c1 c2 c3 n1 n2 n3 n4 n5 n6 n7 n8
      obtain ⟨bx1, bx2⟩ := bx
      obtain ⟨by1, by2⟩ := bY
      have m1 := mul_near (a := x1 - x0) (b := my - y0) (by omega) (by omega) (by omega) (by omega)
      have m2 := mul_near (a := mx - x0) (b := y1 - y0) (by omega) (by omega) (by omega) (by omega)
      have HN := hid hnext
      have Q2 := hid q2
      clear hpc hnext q2
      have step : ∀ c : Int, crossN ((x0, y0), (x1, y1)) mx my = c → windTo (l.take (k + 1)) mx my = n + c := fun c hc => by rw [HN.out, hc]
      have STEP := hid step
      clear step
      have hb1 := hbd.1
      have hb2 := hbd.2
      clear hbd
      by_cases t0 : y0 ≤ my
      · by_cases t1 : y1 ≤ my
        · have R := hid (STEP.out 0 (by simp [crossN, t0, t1]))
          rw [Int.add_zero] at R
          go_wp2_with fail
          go_roundw
          case measure => simp [intOf]; omega
          case rel => exact ⟨k + 1, by omega, by go_num, by rw [R.out], Q2.out.alloc _⟩
        · have t2 : ¬ y1 < y0 := by omega
          have t3 : y0 < y1 := by omega
          have t1' : my < y1 := by omega
          by_cases t4 : (x1 - x0) * (my - y0) < (mx - x0) * (y1 - y0)
          · have R := hid (STEP.out 1 (by simp [crossN, t0, t1, t2, t4]))
            go_wp2_with fail
            go_roundw
            case measure => simp [intOf]; omega
            case rel => exact ⟨k + 1, by omega, by go_num, by rw [R.out], Q2.out.alloc _⟩
          · have R := hid (STEP.out 0 (by simp [crossN, t0, t1, t2, t4]))
            rw [Int.add_zero] at R
            go_wp2_with fail
            go_roundw
            case measure => simp [intOf]; omega
            case rel => exact ⟨k + 1, by omega, by go_num, by rw [R.out], Q2.out.alloc _⟩
      · by_cases t1 : y1 ≤ my
        · have t2 : y1 < y0 := by omega
          have t3 : ¬ y0 < y1 := by omega
          have t0' : my < y0 := by omega
          by_cases t4 : (mx - x0) * (y1 - y0) < (x1 - x0) * (my - y0)
          · have R := hid (STEP.out (-1) (by simp [crossN, t0, t1, t2, t4]))
            go_wp2_with fail
            go_roundw
            case measure => simp [intOf]; omega
            case rel => exact ⟨k + 1, by omega, by go_num, by rw [R.out]; rfl, Q2.out.alloc _⟩
          · have R := hid (STEP.out 0 (by simp [crossN, t0, t1, t2, t4]))
            rw [Int.add_zero] at R
            go_wp2_with fail
            go_roundw
            case measure => simp [intOf]; omega
            case rel => exact ⟨k + 1, by omega, by go_num, by rw [R.out], Q2.out.alloc _⟩
        · have R := hid (STEP.out 0 (by simp [crossN, t0, t1]))
          rw [Int.add_zero] at R
          go_wp2_with fail
          go_roundw
          case measure => simp [intOf]; omega
          case rel => exact ⟨k + 1, by omega, by go_num, by rw [R.out], Q2.out.alloc _⟩
    · obtain rfl : k = l.length := by omega
      rw [List.take_of_length_le (Nat.le_refl _)]
      have Q2 := hid q2
      clear q2
      go_wp2_with fail
      go_ret
      exact ⟨rfl, Q2.out⟩
end Go.Proofs.Ytmgcbodlolnheaa

namespace Go.Proofs.Ytmgcbodlolnheaa
open Go.ChangeShapes Go.WideShapes Go.ChangeAt Go.RowKit
set_option linter.unusedVariables false

/-- A row of ints below block B. -/
def IntsCells (w : World) (B g off : Nat) (l : List Int) : Prop := g < B ∧ ∀ j, (h : j < l.length) → w.cell? ⟨g, off + j, none⟩ = some (.int .i64 l[j])
theorem IntsCells.kept {S : Nat → Prop} {w w' : World} {B g off : Nat} {l : List Int} (h : IntsCells w B g off l) (hk : Kept S w w') (hB : B ≤ w.heap.size) (hS : ∀ k, k < B → ¬ S k) : IntsCells w' B g off l := by
  refine ⟨h.1, fun j hj => ?_⟩
  have hg : g < w.heap.size := Nat.lt_of_lt_of_le h.1 hB
  rw [hk.cell hg (hS _ h.1)]
  exact h.2 j hj
/-- The points of stairs behind the first k steps. -/
def stairsTo (xs ys : List Int) (k : Nat) : List (Int × Int) := (List.range k).flatMap fun i => [(xs.getD i 0, ys.getD i 0), (xs.getD ((i + 1) % xs.length) 0, ys.getD i 0)]
theorem stairsTo_succ (xs ys : List Int) (k : Nat) : stairsTo xs ys (k + 1) = stairsTo xs ys k ++ [(xs.getD k 0, ys.getD k 0), (xs.getD ((k + 1) % xs.length) 0, ys.getD k 0)] := by
  simp [stairsTo, List.range_succ]
theorem ptCells_two (pts : List (Int × Int)) (p q : Int × Int) : ptCells (pts ++ [p, q]) = ptCells pts ++ [.int .i64 p.1, .int .i64 p.2, .int .i64 q.1, .int .i64 q.2] := by simp [ptCells]
theorem getD_at {l : List Int} {i : Nat} (h : i < l.length) : l.getD i 0 = l[i] := by simp [List.getD, h]
def StairsS (w : World) (xs ys : List Int) (k : Nat) (v : Value) (wr : World) : Prop := wr.ownsRow w.heap.size 28 2 v (k * 2) (ptCells (stairsTo xs ys k)) ∧ Same w wr

set_option maxHeartbeats 4000000 in
set_option maxRecDepth 100000 in
theorem stairs_cons (xs ys : List Int) (n gx ox cx gy oy cy : Nat) (w : World) (hxn : xs.length = n) (hpos : 0 < n) (hlen : n ≤ 1000000) (hl : ys.length = n) (hx : IntsCells w w.heap.size gx ox xs) (hy : IntsCells w w.heap.size gy oy ys) :
    Calls Try.prog 43 #[.slice (some ⟨gx, ox, none⟩) n cx, .slice (some ⟨gy, oy, none⟩) n cy] w fun e w' => ∃ v, e = .returned v ∧ StairsS w xs ys n v w' := by
  have HX := hid hx
  have HY := hid hy
  clear hx hy
  obtain ⟨i0, hi, hz0, hz1, hz2⟩ := info_parts info28
  go_enter Try.func43, Try.ntmps43
  go_wp2_with fail
  go_loopw [5, 9] (fun v i wr => ∃ k : Nat, k ≤ n ∧ i = .int .i64 k ∧ StairsS w xs ys k v wr) (fun _ i _ => n - (intOf i).toNat)
  case atStart => exact ⟨0, Nat.zero_le _, rfl, by rw [Nat.zero_mul]; exact World.ownsRow_nil _ _ _ _, Kept.refl _ _⟩
  case round =>
    obtain ⟨k, hk, rfl, q1, q2⟩ := hrel
    by_cases hlt : k < n
    · obtain ⟨q, hq⟩ : ∃ q, q = (k + 1) % n := ⟨_, rfl⟩
      have hql : q < n := by rw [hq]; exact Nat.mod_lt _ hpos
      have hrem : ((k : Int) + 1).tmod (n : Int) = (q : Int) := by
        rw [hq]
        rw [show ((k : Int) + 1) = ((k + 1 : Nat) : Int) by push_cast; rfl]
        exact Int.ofNat_tmod (k + 1) n |>.symm
      have hn0 : ¬ (n : Int) = 0 := by omega
      have hn1 : ¬ n = 0 := by omega
      have hX := HX.out.kept q2 (Nat.le_refl _) (fun _ _ hf => hf)
      have hY := HY.out.kept q2 (Nat.le_refl _) (fun _ _ hf => hf)
      have c0 := hX.2 k (by omega)
      have c1 := hX.2 q (by omega)
      have d0 := hY.2 k (by omega)
      have hgx : gx < wr.heap.size := Nat.lt_of_lt_of_le hX.1 q2.size
      have hgy : gy < wr.heap.size := Nat.lt_of_lt_of_le hY.1 q2.size
      have hsz := q2.size
      have hnext := stairsTo_succ xs ys k
      rw [hxn, ← hq, getD_at (l := xs) (by omega), getD_at (l := xs) (by omega), getD_at (l := ys) (by omega)] at hnext
      generalize xs[k]'(by omega) = x0 at c0 hnext
      generalize xs[q]'(by omega) = x1 at c1 hnext
      generalize (ys[k]'(by omega)) = y0 at d0 hnext
      have HN := hid hnext
      have Q1 := hid q1
      have Q2 := hid q2
      have HQ := hid hq
      have hqi : (q : Int) < n := by omega
      have hki : (k : Int) < n := by omega
      have hw1 : IntKind.i64.wrap ((k : Int) + 1) = (k : Int) + 1 := IntWalk.i64_in _ (by omega)
      have hgX := hX.1
      have hgY := hY.1
      clear hX hY hnext q1 q2 hq
      go_wp2_with fail
      go_region_held3 (fun w' => w'.cell? ⟨gx, ox + k, none⟩ = some (.int .i64 x0) ∧ w'.cell? ⟨gx, ox + q, none⟩ = some (.int .i64 x1) ∧ w'.cell? ⟨gy, oy + k, none⟩ = some (.int .i64 y0))
        (first
          | go_keep
          | (go_split_ands
             refine ⟨?_, ?_, ?_⟩
             · (rw [hgrow.cell_far _ (by simp; omega) (fun e => by have h9 := (Q1.out.lt _ e.symm).1; dsimp only at h9; omega)]; assumption)
             · (rw [hgrow.cell_far _ (by simp; omega) (fun e => by have h9 := (Q1.out.lt _ e.symm).1; dsimp only at h9; omega)]; assumption)
             · (rw [hgrow.cell_far _ (by simp; omega) (fun e => by have h9 := (Q1.out.lt _ e.symm).1; dsimp only at h9; omega)]; assumption)))
        ((refine step_append_lies _ (by rfl) _ _ _ (by rfl) w.heap.size 28 i0 _ 2 16 Try.underlying27 hi hz0 hz1 hz2 rfl (by omega) _ (k * 2) _ (by rfl) ((Q1.out.alloc _).drew)
            ⟨wr.heap.size, 0, none⟩ 2 2 [.int .i64 x0, .int .i64 y0, .int .i64 x1, .int .i64 y0] (by rfl) (by rfl) (World.news_of_block (cs := #[.int .i64 x0, .int .i64 y0, .int .i64 x1, .int .i64 y0]) (t := 28) (fr := (0, 0)) (heap_alloc_new wr _)) (by simp [Value.oneCell'])
            (by omega) (by unfold maxLen; omega) (by omega) (by simp; omega) (wr.heap.size + 1) (by simp) ?_; intro gg cap w1 hown1 hgrow hat hlt))
      have R : StairsS w xs ys (k + 1) (.slice (some ⟨gg, 0, none⟩) (k * 2 + 2) cap) w1 := by
        refine ⟨?_, (((Q2.out.alloc _).drew)).grown hgrow fun x hx => .inl (Q1.out.lt x hx).1⟩
        rw [HN.out, ptCells_two, Nat.succ_mul]
        exact hown1
      have R1 := hid R
      clear R hown1 hgrow
      go_wp2_with fail
      go_roundw
      case measure => simp [intOf]; omega
      case rel => exact ⟨k + 1, by omega, by go_num, R1.out⟩
    · obtain rfl : k = n := by omega
      have Q1 := hid q1
      have Q2 := hid q2
      clear q1 q2
      go_wp2_with fail
      go_ret
      exact ⟨_, rfl, Q1.out, Q2.out⟩
end Go.Proofs.Ytmgcbodlolnheaa
