/-
  'bytes.Equal' of two equal masks; rows of points of the law's own.
-/
import Derived.Test.YtmgcbodlolnheaaOpen
import Derived.Test.YtmgcbodlolnheaaSizes
import Derived.Test.YtmgcbodlolnheaaLaw
import Derived.Laws.BytesArg
namespace Go.Proofs.Ytmgcbodlolnheaa
open Go.ChangeShapes Go.WideShapes Go.ChangeAt Go.RowKit
set_option linter.unusedVariables false

theorem equal_same (d d' n : Nat) (m : List Int) (w : World) (hd : Blk w d 5 (byteCells m)) (hd' : Blk w d' 5 (byteCells m)) (hm : m.length = n) :
    Calls Try.prog 34 #[.slice (some ⟨d, 0, none⟩) n n, .slice (some ⟨d', 0, none⟩) n n] w fun e w' => e = .returned (.bool true) ∧ w = w' := by
  have hc : ∀ {d : Nat}, Blk w d 5 (byteCells m) → ∀ i, i < n → w.cell? ⟨d, 0 + i, none⟩ = some (.int .u8 (m.getD i 0)) := by
    intro d hd i hi
    rw [Nat.zero_add]
    exact byte_cell hd (by omega)
  have c1 := run_convert_bytes_arg (P := Try.prog) w 34 5 Try.underlying34 Try.underlying5 d 0 n n m hm (hc hd) 9 Try.underlying9
  have c2 := run_convert_bytes_arg (P := Try.prog) w 34 5 Try.underlying34 Try.underlying5 d' 0 n n m hm (hc hd') 9 Try.underlying9
  clear hc hd hd' hm
  go_enter Try.func34, Try.ntmps34
  go_wp2
  go_ret
  exact ⟨by simp, rfl⟩

/-- The cells of points. -/
def ptCells (pts : List (Int × Int)) : List Value := pts.flatMap fun q => [.int .i64 q.1, .int .i64 q.2]
theorem ptCells_snoc (pts : List (Int × Int)) (q : Int × Int) : ptCells (pts ++ [q]) = ptCells pts ++ [.int .i64 q.1, .int .i64 q.2] := by simp [ptCells]
theorem length_ptCells (pts : List (Int × Int)) : (ptCells pts).length = pts.length * 2 := by
  induction pts with
  | nil => rfl
  | cons a t ih =>
    have e : ptCells (a :: t) = .int .i64 a.1 :: .int .i64 a.2 :: ptCells t := rfl
    rw [e, List.length_cons, List.length_cons, ih, List.length_cons]
    omega
theorem ptCells_at : ∀ (pts : List (Int × Int)) (j : Nat) (h : j < pts.length), (ptCells pts)[j * 2]? = some (.int .i64 (pts[j]).1) ∧ (ptCells pts)[j * 2 + 1]? = some (.int .i64 (pts[j]).2)
  | [], j, h => by simp at h
  | a :: t, 0, _ => by simp [ptCells]
  | a :: t, j + 1, h => by
    have := ptCells_at t j (by simpa using h)
    have e1 : (j + 1) * 2 = j * 2 + 1 + 1 := by omega
    rw [e1]
    simpa [ptCells] using this
theorem ptsAt_own {w : World} {D n : Nat} {v : Value} {pts : List (Int × Int)} (hn : pts.length = n) (hlen : n ≤ 9223372036854775807) (h : w.ownsRow D 28 2 v n (ptCells pts)) : PtsAt w w.heap.size v pts := by
  rcases h.2 with ⟨rfl, rfl⟩ | ⟨g, cap, cur, rfl, hg, hb, hnc, hcm, hcs, htake⟩
  · exact ⟨none, 0, by rw [hn], by omega, fun hp => by omega⟩
  · refine ⟨_, cap, by rw [hn], by omega, fun hp => ⟨g, 0, rfl, ?_, fun j hj => ?_⟩⟩
    · exact (show Blk w g 28 cur from hb).lt
    · obtain ⟨h1, h2⟩ := ptCells_at pts j hj
      have hc := h.cellAt (g := g) (cap := cap)
      exact ⟨by rw [Nat.zero_add, hc (j * 2) (by omega), h1], by rw [Nat.zero_add, hc (j * 2 + 1) (by omega), h2]⟩
theorem info28 : (Try.prog.info? 28).map (fun i => (i.zero, i.size, i.bytes)) = some (some (.agg #[.int .i64 0, .int .i64 0]), 2, 16) := by kernel_rfl
theorem own_same28 {w w' : World} {D n : Nat} {v : Value} {xs : List Value} {w0 : World} (h : w.ownsRow D 28 2 v n xs) (hD : w0.heap.size ≤ D) (hs : Same w0 w) (hg : w.grownBy w' v.ownBlock) : Same w0 w' :=
  hs.grown hg fun k hk => .inl (Nat.le_trans hD (h.lt k hk).1)

/-- 'laws.path', whatever its points. -/
theorem path_any (pts : List (Int × Int)) (v : Value) (w : World) (hpos : 0 < pts.length) (hlen : pts.length ≤ 1000000) (hp : PtsAt w w.heap.size v pts) :
    Calls Try.prog 22 #[v] w fun e w' => ∃ v, e = .returned v ∧ OpsAt w' w'.heap.size v (pathOps pts) ∧ Same w w' := by
  obtain ⟨A, cap, rfl, hl, ha⟩ := hp
  obtain ⟨g, off, rfl, hc⟩ := ha hpos
  exact path_cons pts g off cap w hpos hlen hc
end Go.Proofs.Ytmgcbodlolnheaa
