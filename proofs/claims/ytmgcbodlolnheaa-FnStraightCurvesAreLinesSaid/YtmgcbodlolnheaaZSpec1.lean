/-
  'spec.Polygon': contract.
  'spec.Winding': contract.
  'spec.Stairs': contract.
-/
import Derived.Test.YtmgcbodlolnheaaZEqual
import Derived.Deep.RegionHeld3
import Derived.Deep.AppendLies
namespace Go.Proofs.Ytmgcbodlolnheaa
open Go.ChangeShapes Go.WideShapes Go.ChangeAt Go.RowKit
set_option linter.unusedVariables false

theorem info78 : (Try.prog.info? 78).map (fun i => (i.zero, i.size, i.bytes)) = some (some (.agg #[.int .i64 0, .int .i64 0, .int .i64 0, .int .i64 0]), 4, 32) := by kernel_rfl
/-- The cells of edges. -/
def edgeCells (l : List ((Int × Int) × (Int × Int))) : List Value := l.flatMap fun e => [.int .i64 e.1.1, .int .i64 e.1.2, .int .i64 e.2.1, .int .i64 e.2.2]
theorem edgeCells_snoc (l : List ((Int × Int) × (Int × Int))) (e : (Int × Int) × (Int × Int)) : edgeCells (l ++ [e]) = edgeCells l ++ [.int .i64 e.1.1, .int .i64 e.1.2, .int .i64 e.2.1, .int .i64 e.2.2] := by simp [edgeCells]
/-- The edges behind the first k points. -/
def polyTo (pts : List (Int × Int)) (k : Nat) : List ((Int × Int) × (Int × Int)) := (List.range k).map fun i => (pts.getD i (0, 0), pts.getD ((i + 1) % pts.length) (0, 0))
theorem polyTo_succ (pts : List (Int × Int)) (k : Nat) : polyTo pts (k + 1) = polyTo pts k ++ [(pts.getD k (0, 0), pts.getD ((k + 1) % pts.length) (0, 0))] := by
  simp [polyTo, List.range_succ]
def PolyS (w : World) (pts : List (Int × Int)) (k : Nat) (v : Value) (wr : World) : Prop := wr.ownsRow w.heap.size 78 4 v k (edgeCells (polyTo pts k)) ∧ Same w wr
theorem cells_new4 (W : World) (t : TypeId) (a b c d : Value) (n : Nat) (hn : n = W.heap.size) : ∀ (j : Nat) (u : Value), [a, b, c, d][j]? = some u → (W.alloc (.cells #[a, b, c, d] t)).cell? ((⟨n, 0, none⟩ : Addr).add j) = some u := by
  subst hn
  intro j u hu
  have hb := Blk.new W t #[a, b, c, d]
  have e : (⟨W.heap.size, 0, none⟩ : Addr).add j = ⟨W.heap.size, j, none⟩ := by unfold Addr.add; split <;> simp_all
  rw [e, hb.cell]
  simpa using hu

set_option maxHeartbeats 1000000 in
set_option maxRecDepth 100000 in
theorem poly_cons (pts : List (Int × Int)) (g off cap : Nat) (w : World) (hpos : 0 < pts.length) (hlen : pts.length ≤ 1000000) (hp : PtsCells w w.heap.size g off pts) :
    Calls Try.prog 32 #[.slice (some ⟨g, off, none⟩) pts.length cap] w fun e w' => ∃ v, e = .returned v ∧ PolyS w pts pts.length v w' := by
  have HP := hid hp
  clear hp
  obtain ⟨i0, hi, hz0, hz1, hz2⟩ := info_parts info78
  go_enter Try.func32, Try.ntmps32
  go_wp2_with fail
  go_loopw [3, 9] (fun v i wr => ∃ k : Nat, k ≤ pts.length ∧ i = .int .i64 k ∧ PolyS w pts k v wr) (fun _ i _ => pts.length - (intOf i).toNat)
  case atStart => exact ⟨0, Nat.zero_le _, rfl, World.ownsRow_nil _ _ _ _, Kept.refl _ _⟩
  case round =>
    obtain ⟨k, hk, rfl, q1, q2⟩ := hrel
    by_cases hlt : k < pts.length
    · have hpc := HP.out.kept q2 (Nat.le_refl _) (fun _ _ hf => hf)
      obtain ⟨q, hq⟩ : ∃ q, q = (k + 1) % pts.length := ⟨_, rfl⟩
      have hql : q < pts.length := by rw [hq]; exact Nat.mod_lt _ hpos
      have hrem : ((k : Int) + 1).tmod (pts.length : Int) = (q : Int) := by
        rw [hq]
        rw [show ((k : Int) + 1) = ((k + 1 : Nat) : Int) by push_cast; rfl]
        exact Int.ofNat_tmod (k + 1) pts.length |>.symm
      have hn0 : ¬ (pts.length : Int) = 0 := by omega
      obtain ⟨c0, c1⟩ := hpc.2 k hlt
      obtain ⟨d0, d1⟩ := hpc.2 q hql
      have hg : g < wr.heap.size := Nat.lt_of_lt_of_le hpc.1 q2.size
      have hsz := q2.size
      have hnext := polyTo_succ pts k
      rw [← hq, show pts.getD k (0, 0) = pts[k] by simp [List.getD, hlt], show pts.getD q (0, 0) = pts[q] by simp [List.getD, hql]] at hnext
      generalize pts[k] = p at c0 c1 hnext
      generalize pts[q] = p' at d0 d1 hnext
      have HN := hid hnext
      have Q1 := hid q1
      have Q2 := hid q2
      have HQ := hid hq
      have hg1 : g < wr.heap.size + 1 := by omega
      have hqi : (q : Int) < pts.length := by omega
      clear hpc hnext q1 q2 hq
      go_wp2_with (at_builtin; go_loud (refine wpList_append_own _ rfl _ _ 40 rfl w.heap.size 78 i0 (.agg #[.int .i64 0, .int .i64 0, .int .i64 0, .int .i64 0]) 4 32 Try.underlying40 hi hz0 hz1 hz2 rfl (by decide) _ _ _ rfl (((Q1.out.alloc _).alloc _).alloc _) ⟨wr.heap.size + 2, 0, none⟩ 1 1 [.int .i64 p.1, .int .i64 p.2, .int .i64 p'.1, .int .i64 p'.2] rfl rfl ?c1 ?c2 ?c3 ?c4 ?c5 ?_))
      case c1 => exact cells_new4 _ _ _ _ _ _ _ (by simp)
      case c2 => intro u hu; simp at hu; rcases hu with rfl | rfl | rfl | rfl <;> rfl
      case c3 => unfold maxLen; omega
      case c4 => omega
      case c5 => simp; omega
      intro v' w1 hown' hgrow _
      have R : PolyS w pts (k + 1) v' w1 := by
        refine ⟨?_, (((Q2.out.alloc _).alloc _).alloc _).grown hgrow fun x hx => .inl (Q1.out.lt x hx).1⟩
        rw [HN.out, edgeCells_snoc]
        exact hown'
      have R1 := hid R
      clear R hown' hgrow
      go_wp2_with fail
      go_roundw
      case measure => simp [intOf]; omega
      case rel => exact ⟨k + 1, by omega, by go_num, R1.out⟩
    · obtain rfl : k = pts.length := by omega
      have Q1 := hid q1
      have Q2 := hid q2
      clear q1 q2
      go_wp2_with fail
      go_ret
      exact ⟨_, rfl, Q1.out, Q2.out⟩
end Go.Proofs.Ytmgcbodlolnheaa

namespace Go.Proofs.Ytmgcbodlolnheaa
open Go.ChangeShapes Go.WideShapes Go.ChangeAt Go.RowKit
set_option linter.unusedVariables false

abbrev Edge := (Int × Int) × (Int × Int)
def EdgesCells (w : World) (B g off : Nat) (l : List Edge) : Prop :=
  g < B ∧ ∀ j, (h : j < l.length) → w.cell? ⟨g, off + j * 4, none⟩ = some (.int .i64 (l[j]).1.1) ∧ w.cell? ⟨g, off + j * 4 + 1, none⟩ = some (.int .i64 (l[j]).1.2) ∧
    w.cell? ⟨g, off + j * 4 + 2, none⟩ = some (.int .i64 (l[j]).2.1) ∧ w.cell? ⟨g, off + j * 4 + 3, none⟩ = some (.int .i64 (l[j]).2.2)
theorem EdgesCells.kept {S : Nat → Prop} {w w' : World} {B g off : Nat} {l : List Edge} (h : EdgesCells w B g off l) (hk : Kept S w w') (hB : B ≤ w.heap.size) (hS : ∀ k, k < B → ¬ S k) : EdgesCells w' B g off l := by
  refine ⟨h.1, fun j hj => ?_⟩
  obtain ⟨a, b, c, d⟩ := h.2 j hj
  have hg : g < w.heap.size := Nat.lt_of_lt_of_le h.1 hB
  exact ⟨by rw [hk.cell hg (hS _ h.1)]; exact a, by rw [hk.cell hg (hS _ h.1)]; exact b, by rw [hk.cell hg (hS _ h.1)]; exact c, by rw [hk.cell hg (hS _ h.1)]; exact d⟩
end Go.Proofs.Ytmgcbodlolnheaa

namespace Go.Proofs.Ytmgcbodlolnheaa
open Go.ChangeShapes Go.WideShapes Go.ChangeAt Go.RowKit
set_option linter.unusedVariables false

end Go.Proofs.Ytmgcbodlolnheaa
