/-
  'laws.FnPenIsLast': pairs of ints in memory, an argument of type []Op, and the law in plain words.
-/
import Derived.Test.YtmgcbodlolnheaaPens
import Derived.Test.YtmgcbodlolnheaaOpen
import Derived.Deep.Fields
import Derived.ChangeSame
namespace Go.Proofs.Ytmgcbodlolnheaa.fnPen
open Go.ChangeShapes Go.WideShapes Go.ChangeAt Go.RowKit
set_option linter.unusedVariables false

@[go_sem ↓] theorem run_store28 (w : World) (g : Nat) (a b : Int) (h0 : (w.cell? ⟨g, 0, none⟩).isSome = true) (h1 : (w.cell? ⟨g, 1, none⟩).isSome = true) (f0 : w.frozen? ⟨g, 0, none⟩ = false) (f1 : w.frozen? ⟨g, 1, none⟩ = false) :
    (Instr.storeAt 28 (.pointer (some ⟨g, 0, none⟩)) (.agg #[.int .i64 a, .int .i64 b])).run Try.prog w = .ok () ((w.setCell ⟨g, 0, none⟩ (.int .i64 a)).setCell ⟨g, 1, none⟩ (.int .i64 b)) := by
  have := Go.run_storeAt_mid (P := Try.prog) w g 0 28 #[.int .i64 a, .int .i64 b] (by
    intro j hj
    match j, hj with
    | 0, _ => exact ⟨by simpa using h0, by simpa using f0⟩
    | 1, _ => exact ⟨by simpa using h1, by simpa using f1⟩) (by kernel_rfl) (by simp [Value.oneCell'])
  simpa [World.setCells] using this
example (w : World) (g : Nat) (a b x y : Int) (P : World → Prop) (o : Obj) (hg : g < w.heap.size) (h0 : w.cell? ⟨g, 0, none⟩ = some (.int .i64 x)) (h1 : w.cell? ⟨g, 1, none⟩ = some (.int .i64 y)) (f0 : w.frozen? ⟨g, 0, none⟩ = false) (f1 : w.frozen? ⟨g, 1, none⟩ = false) :
    (Instr.storeAt 28 (.pointer (some ⟨g, 0, none⟩)) (.agg #[.int .i64 a, .int .i64 b])).run Try.prog (w.alloc o).drew = .ok () (((w.alloc o).drew.setCell ⟨g, 0, none⟩ (.int .i64 a)).setCell ⟨g, 1, none⟩ (.int .i64 b)) := by
  have hs := Nat.le_of_lt hg
  simp [go_sem, h0, h1, f0, f1, hg, hs]
end Go.Proofs.Ytmgcbodlolnheaa.fnPen
namespace Go.Proofs.Ytmgcbodlolnheaa.fnPen
open Go.ChangeShapes Go.WideShapes Go.ChangeAt Go.RowKit
set_option linter.unusedVariables false

theorem und28 : Try.prog.underlying 28 = some (.array 2 3) := by kernel_rfl
theorem info3 : (Try.prog.info? 3).map (·.size) = some 1 := by kernel_rfl
theorem run_equal28 (d : Nat) (w : World) (a b : Int) : (Op.equalIn (d + 1 + 1) 28 (.agg #[.int .i64 a, .int .i64 b]) (.agg #[.int .i64 a, .int .i64 b])).run Try.prog w = .ok true w := by
  have hs : ∀ w, (sizeOf 3).run Try.prog w = .ok 1 w := by
    intro w
    obtain ⟨i, h1, h2⟩ : ∃ i, Try.prog.info? 3 = some i ∧ i.size = 1 := by
      have := info3
      cases h : Try.prog.info? 3 with
      | none => simp [h] at this
      | some i => exact ⟨i, rfl, by simpa [h] using this⟩
    simp [sizeOf, typeInfo, h1, h2]
  rw [Op.equalIn]
  simp only [Sem.run_bind, run_underlying und28, Result.andThen_ok, hs, Std.Legacy.Range.forIn_eq_forIn_range', Std.Legacy.Range.size]
  simp [List.range', go_sem, hs]
@[go_sem ↓] theorem run_neq28 (w : World) (a b : Int) : (binOp .neq 28 (.agg #[.int .i64 a, .int .i64 b]) (.agg #[.int .i64 a, .int .i64 b])).run Try.prog w = .ok (.bool false) w := by
  rw [run_neq_struct, run_equal28 9998]
  rfl
theorem guard28 : Try.prog.eqGuardType Try.prog.depth 28 = false := by kernel_rfl
theorem own_open {w : World} {D n : Nat} {v : Value} {l : List (Int × Int)} (h : w.ownsRow D 28 2 v n (ptCells l)) (hn : 0 < n) (hl : l.length = n) :
    ∃ g cap, v = .slice (some ⟨g, 0, none⟩) n cap ∧ g < w.heap.size ∧ ∀ j, (hj : j < l.length) → w.cell? ⟨g, j * 2, none⟩ = some (.int .i64 (l[j]).1) ∧ w.cell? ⟨g, j * 2 + 1, none⟩ = some (.int .i64 (l[j]).2) := by
  have hlt := h.lt
  rcases id h.2 with ⟨_, hn0⟩ | ⟨g, cap, cur, rfl, h1, h2, h3⟩
  · omega
  · refine ⟨g, cap, rfl, (hlt g rfl).2, fun j hj => ?_⟩
    have hc := h.cells (g := g) rfl
    have ha : ∀ j, (⟨g, 0, none⟩ : Addr).add j = ⟨g, j, none⟩ := by intro j; unfold Addr.add; split <;> simp_all
    obtain ⟨p1, p2⟩ := ptCells_at l j hj
    have e1 := hc _ _ p1
    have e2 := hc _ _ p2
    rw [ha] at e1 e2
    exact ⟨e1, e2⟩
theorem OpsCells.up {w : World} {B B' g off : Nat} {ops : List (Int × List Int)} (h : OpsCells w B g off ops) (hB : B ≤ B') : OpsCells w B' g off ops := by
  refine ⟨Nat.lt_of_lt_of_le h.1 hB, fun j hj => ?_⟩
  obtain ⟨pv, c0, c1, A, cap, e, hl, hc⟩ := h.2 j hj
  refine ⟨pv, c0, c1, A, cap, e, hl, fun hp => ?_⟩
  obtain ⟨g', off', e', hg, hcc⟩ := hc hp
  exact ⟨g', off', e', Nat.lt_of_lt_of_le hg hB, hcc⟩
end Go.Proofs.Ytmgcbodlolnheaa.fnPen
namespace Go.Proofs.Ytmgcbodlolnheaa
open Go.ChangeShapes Go.WideShapes Go.ChangeAt Go.RowKit Go.Deep
set_option linter.unusedVariables false
section
variable {H : Type} {enc : TypeId × Value → H} {w : World} {spare : Nat → Bool} {held : Bool}
theorem open_intsT {fuel : Nat} {v : Value} {x : DataW H × List MemPlace} (h : DataW.trod enc Try.prog w 0 spare held fuel 29 [v] = some x) : ∃ ps, IntsAt w w.heap.size v ps := by
  rcases open_slice1 Try.underlying29 cellsOf3 h with ⟨hcs, _⟩ | ⟨a, len, cap, m, n, V, D, Pl, hcs, hb, hl, hm, hmm, hx, hi⟩
  · simp only [List.cons.injEq, and_true] at hcs
    exact ⟨[], none, 0, hcs, by simp, fun h => by simp at h⟩
  · simp only [List.cons.injEq, and_true] at hcs
    subst hcs
    have hlm : len ≤ m := by rw [hmm]; split <;> omega
    have hel : ∀ i, i < len → ∃ p : Int, w.cell? (a.add i) = some (.int .i64 p) := by
      intro i hil
      obtain ⟨hc, ht⟩ := hi i (by omega)
      obtain ⟨p0, e0, _⟩ := DataW.trod_int Try.underlying3 ht
      simp only [List.cons.injEq, and_true] at e0
      exact ⟨p0, by rw [hc, e0]⟩
    obtain ⟨f, hfa⟩ := choose_lt (α := Int) hel
    refine ⟨(List.range len).map f, some a, cap, by simp, by simp; unfold maxLen at hm; omega, fun hp => ?_⟩
    have hp' : 0 < len := by simpa using hp
    obtain ⟨b, off, rfl⟩ := addr_plain (hfa 0 hp')
    have h0 := hfa 0 hp'
    rw [add_plain] at h0
    refine ⟨b, off, rfl, block_lt h0, fun j p hj => ?_⟩
    have hjl : j < len := by
      have := (List.getElem?_eq_some_iff.1 hj).1
      simpa using this
    have h1 := hfa j hjl
    rw [add_plain] at h1
    rw [h1]
    simp [hjl] at hj
    rw [hj]
set_option maxRecDepth 100000 in
theorem open_opsT {r : Reach} {b0 : Nat} {v : Value} {d : DataW H} {p : List MemPlace} (hv : Value.okWide Try.prog w r b0 25 v) (h0 : DataW.Trod enc Try.prog w 0 spare held 25 v d p) : ∃ ops, OpsAt w w.heap.size v ops := by
  obtain ⟨a0, len0, cap0, rfl⟩ := okWide_slice Try.underlying25 hv
  obtain ⟨fuel, hf0⟩ := h0
  have h : DataW.trod enc Try.prog w 0 spare held fuel 25 [.slice a0 len0 cap0] = some (d, p) := by simpa [Value.cells] using hf0
  rcases open_slice Try.underlying25 h with ⟨hcs, _⟩ | ⟨a, len, cap, m, n, D, Pl, hcs, hb, hl, hm, hmm, hx, hi⟩
  · simp only [List.cons.injEq, and_true] at hcs
    exact ⟨[], none, 0, hcs, by simp, fun h => by simp at h⟩
  · simp only [List.cons.injEq, and_true] at hcs
    rw [hcs]
    have hlm : len ≤ m := by rw [hmm]; split <;> omega
    have hel : ∀ i, i < len → ∃ o : Int × List Int, ∃ pv, w.cell? (a.add (i * 2)) = some (.int .i64 o.1) ∧ w.cell? (a.add (i * 2 + 1)) = some pv ∧ IntsAt w w.heap.size pv o.2 := by
      intro i hil
      obtain ⟨cs', hc, ht⟩ := hi i (by omega)
      rw [cellsOf31] at hc
      obtain ⟨ys, n', _, _, hlen, hyl, hf⟩ := DataW.trod_struct Try.underlying31 ht
      rw [cellsOf31] at hlen
      obtain ⟨_, _, hat⟩ := World.cells?_some hc
      match cs', hlen, ys, hyl with
      | [c0, c1], _, [y0, y1], _ =>
        have f0 := hf 0 _ rfl
        have f1 := hf 1 _ rfl
        simp [cellsOf3, cellsOf29] at f0 f1
        obtain ⟨p0, e0, _⟩ := DataW.trod_int Try.underlying3 f0
        simp only [List.cons.injEq, and_true] at e0
        obtain ⟨ps, hps⟩ := open_intsT f1
        have g0 := hat 0 (by omega)
        have g1 := hat 1 (by omega)
        rw [Go.Deep.add_add] at g0 g1
        exact ⟨(p0, ps), c1, by rw [Nat.add_zero] at g0; rw [g0, e0]; rfl, by rw [g1]; rfl, hps⟩
    obtain ⟨f, hfa⟩ := choose_lt (α := Int × List Int) hel
    refine ⟨(List.range len).map f, some a, cap, by simp, by simp; unfold maxLen at hm; omega, fun hp => ?_⟩
    have hp' : 0 < len := by simpa using hp
    obtain ⟨pv0, hfa0, _⟩ := hfa 0 hp'
    rw [Nat.zero_mul] at hfa0
    obtain ⟨b, off, rfl⟩ := addr_plain hfa0
    rw [add_plain] at hfa0
    refine ⟨b, off, rfl, block_lt hfa0, fun j hj => ?_⟩
    have hj' : j < len := by simpa using hj
    obtain ⟨pv, x0, x1, x2⟩ := hfa j hj'
    rw [add_plain] at x0 x1
    simp only [List.getElem_map, List.getElem_range]
    exact ⟨pv, x0, by rw [Nat.add_assoc]; exact x1, x2⟩
end
end Go.Proofs.Ytmgcbodlolnheaa
namespace Go.Proofs.Ytmgcbodlolnheaa.fnPen
open Go.ChangeShapes Go.WideShapes Go.ChangeAt Go.RowKit
set_option linter.unusedVariables false

/-- How many numbers a call wants. -/
def need (kind : Int) : Nat := if kind = 0 ∨ kind = 1 then 2 else if kind = 2 then 4 else if kind = 3 then 6 else 0
def lastTwo (ps : List Int) : Int × Int := (ps.getD (ps.length - 2) 0, ps.getD (ps.length - 1) 0)
/-- The pen behind a call; where the path begins then. -/
def penP (o : Int × List Int) (f : Int × Int) : Int × Int := if o.1 = 4 then f else lastTwo o.2
def firstP (o : Int × List Int) (f : Int × Int) : Int × Int := if o.1 = 0 then penP o f else f
def wantOf : List (Int × List Int) → Int × Int → List (Int × Int)
  | [], _ => []
  | o :: t, f => penP o f :: wantOf t (firstP o f)
theorem length_wantOf : ∀ (ops : List (Int × List Int)) (f : Int × Int), (wantOf ops f).length = ops.length
  | [], _ => rfl
  | o :: t, f => by simp [wantOf, length_wantOf t]
/-- A call of which the law speaks, the k-th. -/
def Valid (k : Nat) (o : Int × List Int) : Prop := (0 ≤ o.1 ∧ o.1 ≤ 4) ∧ o.2.length = need o.1 ∧ (k = 0 → o.1 = 0) ∧ ∀ x ∈ o.2, -4096 ≤ x ∧ x ≤ 4096


theorem pen64_wq {n : Int} (h1 : -4096 ≤ n) (h2 : n ≤ 4096) : PenOk (wq n) ∧ pen64 (wq n) = n := by
  obtain ⟨q0, q1, q2⟩ := wq_ok (n := n) (by omega) (by omega)
  obtain ⟨c1, c2⟩ := c64
  have e : V (wq n) * V 1115684864 = (n : Rat) := by rw [q2, c2]; grind
  have hb : Flt.ab (n : Rat) ≤ 4096 := by
    have a1 : ((-4096 : Int) : Rat) ≤ n := Rat.intCast_le_intCast.2 h1
    have a2 : (n : Rat) ≤ ((4096 : Int) : Rat) := Rat.intCast_le_intCast.2 h2
    push_cast at a1 a2
    unfold Flt.ab
    split <;> grind
  obtain ⟨m1, m2⟩ := fmul_ok q1 c1 (by
    rw [e]
    have := p2_val 126
    refine Rat.le_trans hb ?_
    rw [show (126 : Int) = ((126 : Nat) : Int) from rfl, this]
    exact Rat.natCast_le_natCast.2 (show 4096 ≤ 2 ^ 126 by decide))
  have ev : V (fop .mul (wq n) 1115684864) = (n : Rat) := by
    rw [← e]
    refine m2.eq (n := n) (q := 0) (by rw [Flt.p2_zero, Rat.mul_one, e]) (by omega) (by omega) (by decide)
  have ei : floatToIntVal .f32 (fop .mul (wq n) 1115684864) .i64 = some n := by
    have h : (FloatKind.f32.decode (fop .mul (wq n) 1115684864)).toInt .zero = some (Flt.truncR (V (fop .mul (wq n) 1115684864))) := Flt.toInt_val (f := Ieee.single) m2.fin (way := .zero) (by decide)
    rw [ev, truncR_int] at h
    unfold floatToIntVal
    rw [h]
    simp only [min_i64, max_i64]
    rw [if_pos ⟨by omega, by omega⟩]
  refine ⟨⟨m1, ?_⟩, ?_⟩
  · unfold I64ok; rw [ei]; rfl
  · unfold pen64 f32i64; rw [ei]; rfl

def ValidB (o : Int × List Int) : Prop := (0 ≤ o.1 ∧ o.1 ≤ 4) ∧ o.2.length = need o.1 ∧ ∀ x ∈ o.2, -4096 ≤ x ∧ x ≤ 4096
def In (p : Int × Int) : Prop := (-4096 ≤ p.1 ∧ p.1 ≤ 4096) ∧ (-4096 ≤ p.2 ∧ p.2 ≤ 4096)
theorem atF_wq {ps : List Int} {i : Nat} (h : i < ps.length) : atF ps i = wq (ps.getD i 0) := by unfold atF; rw [if_pos h]; rfl
theorem in_at {ps : List Int} (h : ∀ x ∈ ps, -4096 ≤ x ∧ x ≤ 4096) (i : Nat) : -4096 ≤ ps.getD i 0 ∧ ps.getD i 0 ≤ 4096 := by
  by_cases hi : i < ps.length
  · have e : ps.getD i 0 = ps[i] := by simp [List.getD, hi]
    rw [e]; exact h _ (List.getElem_mem hi)
  · have e : ps.getD i 0 = 0 := by simp [List.getD, Nat.le_of_not_lt hi]
    rw [e]; decide
theorem linesB_fix (W : Nat) (H : Int) : ∀ (pts : List (Nat × Nat)) (px py : Nat) (l : List Int), ∃ l', linesB W H pts px py (.fix l) = .fix l'
  | [], _, _, l => ⟨l, rfl⟩
  | (qx, qy) :: t, px, py, l => linesB_fix W H t qx qy _
def stOf (f p : Int × Int) (l : List Int) : RS := ⟨wq f.1, wq f.2, wq p.1, wq p.2, .fix l⟩
theorem step_pen {o : Int × List Int} {f p : Int × Int} (hv : ValidB o) (hf : In f) (hp : In p) (l : List Int) :
    StepOk 16 16 o (stOf f p l) ∧ In (penP o f) ∧ In (firstP o f) ∧ ∃ l', stepOp 16 16 o (stOf f p l) = stOf (firstP o f) (penP o f) l' := by
  obtain ⟨kind, ps⟩ := o
  obtain ⟨⟨h0, h4⟩, hn, hx⟩ := hv
  simp only at h0 h4 hn hx
  have ha := in_at hx
  have nw := fun i => near_wq (ha i).1 (ha i).2
  have f1 := near_wq hf.1.1 hf.1.2
  have f2 := near_wq hf.2.1 hf.2.2
  have p1 := near_wq hp.1.1 hp.1.2
  have p2' := near_wq hp.2.1 hp.2.2
  have hAt : AtOk ps := fun x hm => (wq_ok (n := x) (by have := hx x hm; omega) (by have := hx x hm; omega)).1
  have line : ∀ {a b c d : Nat} (H : Int) (l : List Int), Near a → Near b → Near c → Near d → LineOk 16 H a b c d (.fix l) := fun H l h1 h2 h3 h5 => by
    have e1 := h1.to h2
    have e2 := h3.to h5
    exact fixOk_near e1.1.1 e1.2.1 e2.1.1 e2.2.1 e1.1.2 e1.2.2 e2.1.2 e2.2.2
  have hc : kind = 0 ∨ kind = 1 ∨ kind = 2 ∨ kind = 3 ∨ kind = 4 := by omega
  rcases hc with rfl | rfl | rfl | rfl | rfl
  · have hn2 : ps.length = 2 := by simpa [need] using hn
    have e0 : atF ps 0 = wq (ps.getD 0 0) := atF_wq (by omega)
    have e1 : atF ps 1 = wq (ps.getD 1 0) := atF_wq (by omega)
    have el : lastTwo ps = (ps.getD 0 0, ps.getD 1 0) := by simp [lastTwo, hn2]
    refine ⟨⟨hAt, by simp, by simp, by simp, by simp⟩, ?_, ?_, l, ?_⟩
    · simp only [penP, el]; exact ⟨ha 0, ha 1⟩
    · simp only [firstP, penP, el]; exact ⟨ha 0, ha 1⟩
    · simp [stepOp, stOf, firstP, penP, el, e0, e1]
  · have hn2 : ps.length = 2 := by simpa [need] using hn
    have e0 : atF ps 0 = wq (ps.getD 0 0) := atF_wq (by omega)
    have e1 : atF ps 1 = wq (ps.getD 1 0) := atF_wq (by omega)
    have el : lastTwo ps = (ps.getD 0 0, ps.getD 1 0) := by simp [lastTwo, hn2]
    refine ⟨⟨hAt, fun _ => ?_, by simp, by simp, by simp⟩, ?_, ?_, ?_⟩
    · simp only [e0, e1]; exact line _ _ p1 p2' (nw 0) (nw 1)
    · simp only [penP, el]; exact ⟨ha 0, ha 1⟩
    · simp only [firstP]; exact hf
    · exact ⟨_, by simp [stepOp, stOf, firstP, penP, el, e0, e1, lineB]; rfl⟩
  · have hn2 : ps.length = 4 := by simpa [need] using hn
    have e0 : atF ps 0 = wq (ps.getD 0 0) := atF_wq (by omega)
    have e1 : atF ps 1 = wq (ps.getD 1 0) := atF_wq (by omega)
    have e2 : atF ps 2 = wq (ps.getD 2 0) := atF_wq (by omega)
    have e3 : atF ps 3 = wq (ps.getD 3 0) := atF_wq (by omega)
    have el : lastTwo ps = (ps.getD 2 0, ps.getD 3 0) := by simp [lastTwo, hn2]
    obtain ⟨Q1, Q2⟩ := quad_ok p1 p2' (nw 0) (nw 1) (nw 2) (nw 3)
    obtain ⟨l', hl'⟩ := linesB_fix 16 16 (quadPts (wq p.1) (wq p.2) (wq (ps.getD 0 0)) (wq (ps.getD 1 0)) (wq (ps.getD 2 0)) (wq (ps.getD 3 0))) (wq p.1) (wq p.2) l
    refine ⟨⟨hAt, by simp, fun _ => ?_, by simp, by simp⟩, ?_, ?_, l', ?_⟩
    · simp only [e0, e1, e2, e3]; exact ⟨Q1, lines_near _ _ _ _ _ _ (p1.to p2') Q2⟩
    · simp only [penP, el]; exact ⟨ha 2, ha 3⟩
    · simp only [firstP]; exact hf
    · simp only [stepOp, stOf, firstP, penP, el, e0, e1, e2, e3, hl']; simp
  · have hn2 : ps.length = 6 := by simpa [need] using hn
    have e0 : atF ps 0 = wq (ps.getD 0 0) := atF_wq (by omega)
    have e1 : atF ps 1 = wq (ps.getD 1 0) := atF_wq (by omega)
    have e2 : atF ps 2 = wq (ps.getD 2 0) := atF_wq (by omega)
    have e3 : atF ps 3 = wq (ps.getD 3 0) := atF_wq (by omega)
    have e4 : atF ps 4 = wq (ps.getD 4 0) := atF_wq (by omega)
    have e5 : atF ps 5 = wq (ps.getD 5 0) := atF_wq (by omega)
    have el : lastTwo ps = (ps.getD 4 0, ps.getD 5 0) := by simp [lastTwo, hn2]
    obtain ⟨Q1, Q2⟩ := cube_ok p1 p2' (nw 0) (nw 1) (nw 2) (nw 3) (nw 4) (nw 5)
    obtain ⟨l', hl'⟩ := linesB_fix 16 16 (cubePts (wq p.1) (wq p.2) (wq (ps.getD 0 0)) (wq (ps.getD 1 0)) (wq (ps.getD 2 0)) (wq (ps.getD 3 0)) (wq (ps.getD 4 0)) (wq (ps.getD 5 0))) (wq p.1) (wq p.2) l
    refine ⟨⟨hAt, by simp, by simp, fun _ => ?_, by simp⟩, ?_, ?_, l', ?_⟩
    · simp only [e0, e1, e2, e3, e4, e5]; exact ⟨Q1, lines_near _ _ _ _ _ _ (p1.to p2') Q2⟩
    · simp only [penP, el]; exact ⟨ha 4, ha 5⟩
    · simp only [firstP]; exact hf
    · simp only [stepOp, stOf, firstP, penP, el, e0, e1, e2, e3, e4, e5, hl']; simp
  · refine ⟨⟨hAt, by simp, by simp, by simp, fun _ => line _ _ p1 p2' f1 f2⟩, ?_, ?_, ?_⟩
    · simpa [penP] using hf
    · simpa [firstP] using hf
    · exact ⟨_, by simp [stepOp, stOf, firstP, penP, lineB]; rfl⟩
theorem pens_plain : ∀ (ops : List (Int × List Int)) (f p : Int × Int) (l : List Int), (∀ o ∈ ops, ValidB o) → In f → In p → PensOk ops (stOf f p l) ∧ pensOf ops (stOf f p l) = wantOf ops f
  | [], _, _, _, _, _, _ => ⟨trivial, rfl⟩
  | o :: t, f, p, l, hv, hf, hp => by
    obtain ⟨a1, a2, a3, l', e⟩ := step_pen (hv o (by simp)) hf hp l
    obtain ⟨r1, r2⟩ := pens_plain t (firstP o f) (penP o f) l' (fun q hq => hv q (by simp [hq])) a3 a2
    obtain ⟨x1, x2⟩ := pen64_wq a2.1.1 a2.1.2
    obtain ⟨y1, y2⟩ := pen64_wq a2.2.1 a2.2.2
    refine ⟨⟨a1, ?_, ?_, ?_⟩, ?_⟩
    · rw [e]; exact x1
    · rw [e]; exact y1
    · rw [e]; exact r1
    · rw [pensOf, wantOf, e, r2]
      show (pen64 (wq _), pen64 (wq _)) :: _ = _
      rw [x2, y2]
theorem wq_zero : wq 0 = 0 := by kernel_rfl
theorem pens_valid (ops : List (Int × List Int)) (hv : ∀ j, (h : j < ops.length) → Valid j ops[j]) : PensOk ops (startS false 256) ∧ pensOf ops (startS false 256) = wantOf ops (0, 0) := by
  have e : startS false 256 = stOf (0, 0) (0, 0) (List.replicate 256 0) := by unfold startS stOf zeroB; rw [wq_zero]
  rw [e]
  refine pens_plain ops _ _ _ (fun o ho => ?_) (by unfold In; decide) (by unfold In; decide)
  obtain ⟨j, hj, rfl⟩ := List.getElem_of_mem ho
  obtain ⟨v1, v2, _, v4⟩ := hv j hj
  exact ⟨v1, v2, v4⟩
end Go.Proofs.Ytmgcbodlolnheaa.fnPen
