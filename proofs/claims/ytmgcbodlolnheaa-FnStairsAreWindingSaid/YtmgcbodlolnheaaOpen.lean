/-
  Arguments opened: slices of points, of ints, of calls, of slices.
-/
import Derived.Test.YtmgcbodlolnheaaPath
import Derived.Deep.Slices
namespace Go.Proofs.Ytmgcbodlolnheaa
open Go.ChangeShapes Go.WideShapes Go.ChangeAt Go.RowKit Go.Deep
set_option linter.unusedVariables false

theorem cellsOf28 : Try.prog.cellsOf 28 = 2 := by kernel_rfl
theorem cellsOf3 : Try.prog.cellsOf 3 = 1 := by kernel_rfl
theorem cellsOf31 : Try.prog.cellsOf 31 = 2 := by kernel_rfl
theorem cellsOf27 : Try.prog.cellsOf 27 = 1 := by kernel_rfl
theorem cellsOf29 : Try.prog.cellsOf 29 = 1 := by kernel_rfl
section
variable {H : Type} {enc : TypeId × Value → H} {w : World} {spare : Nat → Bool} {held : Bool}
theorem addr_plain {a : Addr} {v : Value} (h : w.cell? (a.add 0) = some v) : ∃ b off, a = ⟨b, off, none⟩ := by
  obtain ⟨b, off, spot⟩ := a
  have hspot : spot = none := by simpa [Addr.add] using World.cell?_spot h
  subst hspot
  exact ⟨b, off, rfl⟩
theorem block_lt {b off : Nat} {v : Value} (h : w.cell? ⟨b, off, none⟩ = some v) : b < w.heap.size := World.block_lt_of_cell? w ⟨b, off, none⟩ h

theorem open_pts {fuel : Nat} {v : Value} {x : DataW H × List MemPlace} (h : DataW.trod enc Try.prog w 0 spare held fuel 27 [v] = some x) : ∃ pts, PtsAt w w.heap.size v pts := by
  rcases open_slice Try.underlying27 h with ⟨hcs, _⟩ | ⟨a, len, cap, m, n, D, Pl, hcs, hb, hl, hm, hmm, hx, hi⟩
  · simp only [List.cons.injEq, and_true] at hcs
    exact ⟨[], none, 0, hcs, by simp, fun h => by simp at h⟩
  · simp only [List.cons.injEq, and_true] at hcs
    subst hcs
    have hlm : len ≤ m := by rw [hmm]; split <;> omega
    have hel : ∀ i, i < len → ∃ p : Int × Int, w.cell? (a.add (i * 2)) = some (.int .i64 p.1) ∧ w.cell? (a.add (i * 2 + 1)) = some (.int .i64 p.2) := by
      intro i hil
      obtain ⟨cs', hc, ht⟩ := hi i (by omega)
      rw [cellsOf28] at hc
      obtain ⟨xs, m', _, _, hlen, hxl, hf⟩ := DataW.trod_array Try.underlying28 ht
      rw [cellsOf28] at hlen
      rw [cellsOf3] at hf
      obtain ⟨_, _, hat⟩ := World.cells?_some hc
      match cs', hlen, xs, hxl with
      | [c0, c1], _, [y0, y1], _ =>
        have f0 := hf 0 (by omega)
        have f1 := hf 1 (by omega)
        simp at f0 f1
        obtain ⟨p0, e0, _⟩ := DataW.trod_int Try.underlying3 f0
        obtain ⟨p1, e1, _⟩ := DataW.trod_int Try.underlying3 f1
        simp only [List.cons.injEq, and_true] at e0 e1
        have h0 := hat 0 (by omega)
        have h1 := hat 1 (by omega)
        rw [Go.Deep.add_add] at h0 h1
        exact ⟨(p0, p1), by rw [Nat.add_zero] at h0; rw [h0, e0]; rfl, by rw [h1, e1]; rfl⟩
    obtain ⟨f, hfa⟩ := choose_lt (α := Int × Int) hel
    refine ⟨(List.range len).map f, some a, cap, by simp, by simp; unfold maxLen at hm; omega, fun hp => ?_⟩
    have hp' : 0 < len := by simpa using hp
    have hfa0 := (hfa 0 hp').1
    rw [Nat.zero_mul] at hfa0
    obtain ⟨b, off, rfl⟩ := addr_plain hfa0
    refine ⟨b, off, rfl, block_lt (off := off + 0 * 2) (v := .int .i64 (f 0).1) (by rw [← add_plain]; exact (hfa 0 hp').1), fun j hj => ?_⟩
    have hj' : j < len := by simpa using hj
    obtain ⟨h0, h1⟩ := hfa j hj'
    rw [add_plain] at h0 h1
    simp only [List.getElem_map, List.getElem_range]
    exact ⟨h0, h1⟩
set_option maxRecDepth 100000 in
theorem open_ptsT {r : Reach} {b0 : Nat} {v : Value} {d : DataW H} {p : List MemPlace} (hv : Value.okWide Try.prog w r b0 27 v) (h : DataW.Trod enc Try.prog w 0 spare held 27 v d p) : ∃ pts, PtsAt w w.heap.size v pts := by
  obtain ⟨a, len, cap, rfl⟩ := okWide_slice Try.underlying27 hv
  obtain ⟨fuel, hf⟩ := h
  exact open_pts (by simpa [Value.cells] using hf)
end
end Go.Proofs.Ytmgcbodlolnheaa
