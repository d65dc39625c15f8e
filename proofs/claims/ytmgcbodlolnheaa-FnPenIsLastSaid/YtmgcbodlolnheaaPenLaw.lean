/-
  'laws.FnPenIsLast': one round of its loop, call kind by call kind.
-/
import Derived.Test.YtmgcbodlolnheaaPenPlain
namespace Go.Proofs.Ytmgcbodlolnheaa.fnPen
open Go.ChangeShapes Go.WideShapes Go.ChangeAt Go.RowKit
set_option linter.unusedVariables false

/-- What holds at the loop's head, k calls looked at; P: the pen's block, behind it the beginning's. -/
def LawS (w : World) (P : Nat) (ops : List (Int × List Int)) (k : Nat) (v : Value) (wr : World) : Prop :=
  ∃ (acc : List (Int × Int)) (p f : Int × Int), wr.ownsRow (P + 2) 28 2 v k (ptCells acc) ∧ acc.length = k ∧ Blk wr P 28 #[.int .i64 p.1, .int .i64 p.2] ∧ Blk wr (P + 1) 28 #[.int .i64 f.1, .int .i64 f.2] ∧
    acc ++ wantOf (ops.drop k) f = wantOf ops (0, 0) ∧ (∀ j, (h : j < ops.length) → j < k → Valid j ops[j]) ∧ Same w wr
def penSpec (w : World) (ops : List (Int × List Int)) : Prop := True

theorem take_far {ps : List Int} {j : Nat} (h : j < ps.length) (hx : ∀ x ∈ ps.take j, -4096 ≤ x ∧ x ≤ 4096) (hb : beyondB (ps.getD j 0) 4096 = false) : ∀ x ∈ ps.take (j + 1), -4096 ≤ x ∧ x ≤ 4096 := by
  intro x hm
  rw [List.take_succ_eq_append_getElem h, List.mem_append] at hm
  rcases hm with hm | hm
  · exact hx x hm
  · simp only [List.mem_singleton] at hm
    have e : ps.getD j 0 = ps[j] := by simp [List.getD, h]
    rw [e] at hb
    rw [hm]
    simp only [beyondB, decide_eq_false_iff_not] at hb
    omega
theorem own_kept {S : Nat → Prop} {w w' : World} {D n : Nat} {v : Value} {xs : List Value} (h : w.ownsRow D 28 2 v n xs) (hk : Kept S w w') (hS : ∀ k, D ≤ k → ¬ S k) : w'.ownsRow D 28 2 v n xs := by
  refine ⟨h.1, ?_⟩
  rcases h.2 with hn | ⟨g', cap, cur, rfl, h1, h2, h3⟩
  · exact .inl hn
  · exact .inr ⟨g', cap, cur, rfl, h1, hk.blk (show Blk w g' 28 cur from h2) (hS g' h1), h3⟩
/-- What the round has left, ahead of the append. -/
structure PenW (w W : World) (P k : Nat) (v : Value) (acc : List (Int × Int)) (p f : Int × Int) : Prop where
  own : W.ownsRow (P + 2) 28 2 v k (ptCells acc)
  pen : Blk W P 28 #[.int .i64 p.1, .int .i64 p.2]
  first : Blk W (P + 1) 28 #[.int .i64 f.1, .int .i64 f.2]
  same : Same w W
  far : w.heap.size ≤ P
  size : P + 1 < W.heap.size
theorem PenW.alloc {w W : World} {P k : Nat} {v : Value} {acc : List (Int × Int)} {p f : Int × Int} (h : PenW w W P k v acc p f) (o : Obj) : PenW w (W.alloc o) P k v acc p f :=
  ⟨h.own.alloc o, h.pen.alloc o, h.first.alloc o, h.same.alloc o, h.far, by have := h.size; simp [go_sem]; omega⟩
theorem PenW.drew {w W : World} {P k : Nat} {v : Value} {acc : List (Int × Int)} {p f : Int × Int} (h : PenW w W P k v acc p f) : PenW w W.drew P k v acc p f :=
  ⟨h.own, h.pen, h.first, h.same.drew, h.far, h.size⟩
theorem PenW.setPen {w W : World} {P k : Nat} {v : Value} {acc : List (Int × Int)} {p f : Int × Int} (h : PenW w W P k v acc p f) (a b : Int) : PenW w ((W.setCell ⟨P, 0, none⟩ (.int .i64 a)).setCell ⟨P, 1, none⟩ (.int .i64 b)) P k v acc (a, b) f := by
  refine ⟨own_kept (S := fun x => x = P) h.own (((Kept.refl (fun x => x = P) W).set_in rfl).set_in rfl) (fun _ _ => by omega), ?_, (h.first.far (by simp) _).far (by simp) _, (h.same.set_new h.far).set_new h.far, h.far, by have := h.size; simpa [go_sem] using this⟩
  exact ((h.pen.set_ 0 (.int .i64 a)).set_ 1 (.int .i64 b))
theorem PenW.setFirst {w W : World} {P k : Nat} {v : Value} {acc : List (Int × Int)} {p f : Int × Int} (h : PenW w W P k v acc p f) (a b : Int) : PenW w ((W.setCell ⟨P + 1, 0, none⟩ (.int .i64 a)).setCell ⟨P + 1, 1, none⟩ (.int .i64 b)) P k v acc p (a, b) := by
  have hf := h.far
  refine ⟨own_kept (S := fun x => x = P + 1) h.own (((Kept.refl (fun x => x = P + 1) W).set_in rfl).set_in rfl) (fun _ _ => by omega), (h.pen.far (by simp) _).far (by simp) _, ?_, (h.same.set_new (by omega)).set_new (by omega), h.far, by have := h.size; simpa [go_sem] using this⟩
  exact ((h.first.set_ 0 (.int .i64 a)).set_ 1 (.int .i64 b))
theorem pen_step {w W w4 : World} {P k : Nat} {ops : List (Int × List Int)} {op : Int × List Int} {acc : List (Int × Int)} {p' f f' : Int × Int} {v v' : Value}
    (Q5 : acc ++ penP op f :: wantOf (ops.drop (k + 1)) (firstP op f) = wantOf ops (0, 0)) (hl : acc.length = k) (hval : ∀ j, (h : j < ops.length) → j < k + 1 → Valid j ops[j])
    (hW : PenW w W P k v acc p' f') (hown : w4.ownsRow (P + 2) 28 2 v' (k + 1) (ptCells acc ++ [.int .i64 p'.1, .int .i64 p'.2])) (hgrow : W.grownBy w4 v.ownBlock) (e1 : p' = penP op f) (e2 : f' = firstP op f) : LawS w P ops (k + 1) v' w4 := by
  have hlt := hW.own.lt
  have hs := hW.size
  refine ⟨acc ++ [p'], p', f', ?_, by simp [hl], (hgrow.block P (by omega) (fun e => by have := hlt _ e.symm; omega)).trans hW.pen, (hgrow.block (P + 1) (by omega) (fun e => by have := hlt _ e.symm; omega)).trans hW.first, ?_, hval, hW.same.grown hgrow fun x hx => .inl (by have := hlt _ hx; have := hW.far; omega)⟩
  · rw [ptCells_snoc]
    exact hown
  · rw [← Q5, e1, e2]
    simp
theorem cells_at (W : World) (t : TypeId) (a b : Value) (n : Nat) (hn : n = W.heap.size) : ∀ (j : Nat) (u : Value), [a, b][j]? = some u → (W.alloc (.cells #[a, b] t)).drew.cell? ((⟨n, 0, none⟩ : Addr).add j) = some u := by
  subst hn
  exact cells_new1 t a b
theorem cells_at0 (W : World) (t : TypeId) (a b : Value) (n : Nat) (hn : n = W.heap.size) : ∀ (j : Nat) (u : Value), [a, b][j]? = some u → (W.alloc (.cells #[a, b] t)).cell? ((⟨n, 0, none⟩ : Addr).add j) = some u := by
  subst hn
  exact cells_new1 t a b
set_option maxHeartbeats 4000000 in
set_option maxRecDepth 100000 in
theorem walk_try (ops : List (Int × List Int)) (gO off cap : Nat) (w : World) (hpos : 0 < ops.length) (hlen : ops.length ≤ 1000) (hops : OpsCells w w.heap.size gO off ops) (hfit : fitOps ops = true)
    (hok : (∀ j, (h : j < ops.length) → Valid j ops[j]) → PensOk ops (startS false 256) ∧ pensOf ops (startS false 256) = wantOf ops (0, 0)) :
    Calls Try.prog 4 #[.slice (some ⟨gO, off, none⟩) ops.length cap] w fun e w' => e = .returned (.bool true) ∧ Same w w' := by
  have HO := hid hops
  have HFIT := hid hfit
  have HOK := hid hok
  clear hok hops hfit
  obtain ⟨i0, hi, hz0, hz1, hz2⟩ := info_parts info28
  go_enter Try.func4, Try.ntmps4
  go_wp2_with fail
  refine (fits3_cons ops gO off cap w hpos (by omega) (by omega) HO.out).mono ?_
  rintro e w1 ⟨rfl, t⟩
  rw [HFIT.out]
  have T1 := hid t
  have FAR := hid (show w.heap.size ≤ w1.heap.size from t.size)
  clear t
  go_wp2_with fail
  go_loopw [3, 23] (fun v i wr => ∃ k : Nat, k ≤ ops.length ∧ i = .int .i64 k ∧ LawS w w1.heap.size ops k v wr) (fun _ i _ => ops.length - (intOf i).toNat)
  case atStart =>
    refine ⟨0, Nat.zero_le _, rfl, [], (0, 0), (0, 0), World.ownsRow_nil _ _ _ _, rfl, (Blk.new _ _ _).alloc _, ?_, by simp, fun j _ hj => by omega, (T1.out.alloc _).alloc _⟩
    have := Blk.new (w1.alloc (.cells #[.int .i64 0, .int .i64 0] 28)) 28 #[.int .i64 0, .int .i64 0]
    simpa using this
  case round =>
    obtain ⟨k, hk, rfl, acc, p, f, q1, q2, q3, q4, q5, q6, q7⟩ := hrel
    have hB : w1.heap.size + 1 < wr.heap.size := q4.lt
    have hB0 : w1.heap.size < wr.heap.size := by omega
    have hB1 : w1.heap.size ≤ wr.heap.size := by omega
    have hB2 : w1.heap.size + 1 ≤ wr.heap.size := by omega
    have hB3 : ¬ wr.heap.size = w1.heap.size := by omega
    have hB4 : ¬ w1.heap.size = wr.heap.size := by omega
    by_cases hlt : k < ops.length
    · have hoc := HO.out.kept q7 (Nat.le_refl _) (fun _ _ hf => hf)
      obtain ⟨pv, c0, c1, c2⟩ := hoc.2 k hlt
      have hgO : gO < wr.heap.size := Nat.lt_of_lt_of_le hoc.1 q7.size
      have hval : Valid k ops[k] → ∀ j, (h : j < ops.length) → j < k + 1 → Valid j ops[j] := fun hv j h hj => by
        by_cases e : j = k
        · subst e; exact hv
        · exact q6 j h (by omega)
      rw [drop_cons hlt, wantOf] at q5
      generalize ops[k] = op at c0 c2 q5 hval
      obtain ⟨kind, ps⟩ := op
      obtain ⟨A, pcap, rfl, hpl, hpc⟩ := id c2
      simp only at c0 c1 hpl hpc
      have p0 : wr.cell? ⟨w1.heap.size, 0, none⟩ = some (.int .i64 p.1) := by rw [q3.cell]; rfl
      have p1 : wr.cell? ⟨w1.heap.size, 1, none⟩ = some (.int .i64 p.2) := by rw [q3.cell]; rfl
      have p2 : wr.cell? ⟨w1.heap.size + 1, 0, none⟩ = some (.int .i64 f.1) := by rw [q4.cell]; rfl
      have p3 : wr.cell? ⟨w1.heap.size + 1, 1, none⟩ = some (.int .i64 f.2) := by rw [q4.cell]; rfl
      have f0 := q3.frozen 0
      have f1 := q3.frozen 1
      have f2 := q4.frozen 0
      have f3 := q4.frozen 1
      have Q1 := hid q1
      have Q2 := hid q2
      have Q3 := hid q3
      have Q4 := hid q4
      have Q5 := hid q5
      have Q6 := hid hval
      have Q7 := hid q7
      have HPC := hid hpc
      clear q1 q2 q3 q4 q5 q6 q7 hoc hval c2 hpc
      by_cases k0 : kind = 0
      · subst k0
        by_cases hn : ps.length = 2
        · by_cases hk0 : k = 0
          · have hk0' : ((k : Int) == 0) = true := by simp [hk0]
            clear hk0
            obtain ⟨gP, offP, rfl, hgP, hcells⟩ := HPC.out (by omega)
            have hn' : (ps.length : Int) = 2 := by omega
            go_wp2_with fail
            go_loop [56] (fun i => ∃ j : Nat, j ≤ 2 ∧ i = .int .i64 j ∧ ∀ x ∈ ps.take j, -4096 ≤ x ∧ x ≤ 4096) (fun i => 2 - (intOf i).toNat)
            case atStart => exact ⟨0, Nat.zero_le _, rfl, fun x hx => by simp at hx⟩
            case round =>
              obtain ⟨j, hj, rfl, hx⟩ := hrel
              by_cases hjl : j < 2
              · have cj : wr.cell? ⟨gP, offP + j, none⟩ = some (.int .i64 (ps.getD j 0)) := hcells j (ps.getD j 0) (by simp [List.getD, hn, hjl])
                have hgP2 : gP < wr.heap.size := Nat.lt_of_lt_of_le hgP Q7.out.size
                have htk := take_far (ps := ps) (j := j) (by omega) hx
                have HTK := hid htk
                generalize ps.getD j 0 = xj at cj HTK
                clear hx htk hcells
                by_cases hb : beyondB xj 4096 = true
                · have HB := hid hb
                  clear hb
                  go_wp2_with fail
                  refine (beyond_is _ (by omega) (by omega) HB.out).mono ?_
                  rintro e w' ⟨rfl, rfl⟩
                  go_wp2_with fail
                  go_ret
                  exact ⟨rfl, Q7.out.alloc _⟩
                · have HB := hid (Bool.eq_false_iff.2 hb)
                  clear hb
                  go_wp2_with fail
                  refine (beyond_is _ (by omega) (by omega) HB.out).mono ?_
                  rintro e w' ⟨rfl, rfl⟩
                  go_wp2_with fail
                  go_round
                  case measure => simp [intOf]; omega
                  case rel => exact ⟨j + 1, by omega, by go_num, HTK.out HB.out⟩
              · obtain rfl : j = 2 := by omega
                have ca : wr.cell? ⟨gP, offP + 0, none⟩ = some (.int .i64 (ps.getD 0 0)) := hcells 0 (ps.getD 0 0) (by simp [List.getD, hn])
                have cb : wr.cell? ⟨gP, offP + 1, none⟩ = some (.int .i64 (ps.getD 1 0)) := hcells 1 (ps.getD 1 0) (by simp [List.getD, hn])
                rw [Nat.add_zero] at ca
                have hgP2 : gP < wr.heap.size := Nat.lt_of_lt_of_le hgP Q7.out.size
                have hgP3 : gP < w1.heap.size := Nat.lt_of_lt_of_le hgP T1.out.size
                have HX := hid (show ∀ x ∈ ps, -4096 ≤ x ∧ x ≤ 4096 from by rw [List.take_of_length_le (by omega)] at hx; exact hx)
                clear hx hcells
                obtain ⟨xa, exa⟩ : ∃ xa, xa = ps.getD 0 0 := ⟨_, rfl⟩
                obtain ⟨xb, exb⟩ : ∃ xb, xb = ps.getD 1 0 := ⟨_, rfl⟩
                rw [← exa] at ca
                rw [← exb] at cb
                have EXA := hid exa
                have EXB := hid exb
                clear exa exb
                go_wp2_with fail
                go_region
                have HW := hid ((((((PenW.mk Q1.out Q3.out Q4.out Q7.out FAR.out hB).setPen xa xb).setFirst xa xb).alloc (.cells #[.int .i64 0, .slice (some ⟨gP, offP, none⟩) 2 pcap] 31)).alloc (.cells #[.int .i64 (xa), .int .i64 (xb)] 28)).drew)
                go_wp2_with (at_builtin; go_loud (refine wpList_append_own _ rfl _ _ 27 rfl (w1.heap.size + 2) 28 i0 (.agg #[.int .i64 0, .int .i64 0]) 2 16 Try.underlying27 hi hz0 hz1 hz2 rfl (by decide) _ _ _ rfl HW.out.own _ 1 1 [.int .i64 (xa), .int .i64 (xb)] rfl rfl ?c1 ?c2 ?c3 ?c4 ?c5 ?_))
                case c1 => exact cells_at _ _ _ _ _ (by simp [go_sem])
                case c2 => intro u hu; simp at hu; rcases hu with rfl | rfl <;> rfl
                case c3 => unfold maxLen; omega
                case c4 => omega
                case c5 => simp [go_sem]; omega
                intro v' w4 hown' hgrow _
                have R := pen_step Q5.out Q2.out (Q6.out ⟨by simp, hn, fun _ => rfl, HX.out⟩) HW.out hown' hgrow ?e1 ?e2
                case e1 => simp [penP, lastTwo, hn, EXA.out, EXB.out]
                case e2 => simp [firstP, penP, lastTwo, hn, EXA.out, EXB.out]
                have R1 := hid R
                clear R hown' hgrow
                go_wp2_with fail
                go_round
                case measure => simp [intOf]; omega
                case rel => exact ⟨k + 1, by omega, by go_num, R1.out⟩
          · have hk0' : ((k : Int) == 0) = false := by simp [hk0]
            obtain ⟨gP, offP, rfl, hgP, hcells⟩ := HPC.out (by omega)
            have hn' : (ps.length : Int) = 2 := by omega
            go_wp2_with fail
            go_loop [56] (fun i => ∃ j : Nat, j ≤ 2 ∧ i = .int .i64 j ∧ ∀ x ∈ ps.take j, -4096 ≤ x ∧ x ≤ 4096) (fun i => 2 - (intOf i).toNat)
            case atStart => exact ⟨0, Nat.zero_le _, rfl, fun x hx => by simp at hx⟩
            case round =>
              obtain ⟨j, hj, rfl, hx⟩ := hrel
              by_cases hjl : j < 2
              · have cj : wr.cell? ⟨gP, offP + j, none⟩ = some (.int .i64 (ps.getD j 0)) := hcells j (ps.getD j 0) (by simp [List.getD, hn, hjl])
                have hgP2 : gP < wr.heap.size := Nat.lt_of_lt_of_le hgP Q7.out.size
                have htk := take_far (ps := ps) (j := j) (by omega) hx
                have HTK := hid htk
                generalize ps.getD j 0 = xj at cj HTK
                clear hx htk hcells
                by_cases hb : beyondB xj 4096 = true
                · have HB := hid hb
                  clear hb
                  go_wp2_with fail
                  refine (beyond_is _ (by omega) (by omega) HB.out).mono ?_
                  rintro e w' ⟨rfl, rfl⟩
                  go_wp2_with fail
                  go_ret
                  exact ⟨rfl, Q7.out.alloc _⟩
                · have HB := hid (Bool.eq_false_iff.2 hb)
                  clear hb
                  go_wp2_with fail
                  refine (beyond_is _ (by omega) (by omega) HB.out).mono ?_
                  rintro e w' ⟨rfl, rfl⟩
                  go_wp2_with fail
                  go_round
                  case measure => simp [intOf]; omega
                  case rel => exact ⟨j + 1, by omega, by go_num, HTK.out HB.out⟩
              · obtain rfl : j = 2 := by omega
                have ca : wr.cell? ⟨gP, offP + 0, none⟩ = some (.int .i64 (ps.getD 0 0)) := hcells 0 (ps.getD 0 0) (by simp [List.getD, hn])
                have cb : wr.cell? ⟨gP, offP + 1, none⟩ = some (.int .i64 (ps.getD 1 0)) := hcells 1 (ps.getD 1 0) (by simp [List.getD, hn])
                rw [Nat.add_zero] at ca
                have hgP2 : gP < wr.heap.size := Nat.lt_of_lt_of_le hgP Q7.out.size
                have hgP3 : gP < w1.heap.size := Nat.lt_of_lt_of_le hgP T1.out.size
                have HX := hid (show ∀ x ∈ ps, -4096 ≤ x ∧ x ≤ 4096 from by rw [List.take_of_length_le (by omega)] at hx; exact hx)
                clear hx hcells
                obtain ⟨xa, exa⟩ : ∃ xa, xa = ps.getD 0 0 := ⟨_, rfl⟩
                obtain ⟨xb, exb⟩ : ∃ xb, xb = ps.getD 1 0 := ⟨_, rfl⟩
                rw [← exa] at ca
                rw [← exb] at cb
                have EXA := hid exa
                have EXB := hid exb
                clear exa exb
                go_wp2_with fail
                go_region
                have HW := hid ((((((PenW.mk Q1.out Q3.out Q4.out Q7.out FAR.out hB).setPen xa xb).setFirst xa xb).alloc (.cells #[.int .i64 0, .slice (some ⟨gP, offP, none⟩) 2 pcap] 31)).alloc (.cells #[.int .i64 (xa), .int .i64 (xb)] 28)).drew)
                go_wp2_with (at_builtin; go_loud (refine wpList_append_own _ rfl _ _ 27 rfl (w1.heap.size + 2) 28 i0 (.agg #[.int .i64 0, .int .i64 0]) 2 16 Try.underlying27 hi hz0 hz1 hz2 rfl (by decide) _ _ _ rfl HW.out.own _ 1 1 [.int .i64 (xa), .int .i64 (xb)] rfl rfl ?c1 ?c2 ?c3 ?c4 ?c5 ?_))
                case c1 => exact cells_at _ _ _ _ _ (by simp [go_sem])
                case c2 => intro u hu; simp at hu; rcases hu with rfl | rfl <;> rfl
                case c3 => unfold maxLen; omega
                case c4 => omega
                case c5 => simp [go_sem]; omega
                intro v' w4 hown' hgrow _
                have R := pen_step Q5.out Q2.out (Q6.out ⟨by simp, hn, fun _ => rfl, HX.out⟩) HW.out hown' hgrow ?e1 ?e2
                case e1 => simp [penP, lastTwo, hn, EXA.out, EXB.out]
                case e2 => simp [firstP, penP, lastTwo, hn, EXA.out, EXB.out]
                have R1 := hid R
                clear R hown' hgrow
                go_wp2_with fail
                go_round
                case measure => simp [intOf]; omega
                case rel => exact ⟨k + 1, by omega, by go_num, R1.out⟩
        · have hn' : ¬ (ps.length : Int) = 2 := by omega
          go_wp2_with fail
          go_ret
          exact ⟨rfl, Q7.out.alloc _⟩
      by_cases k1 : kind = 1
      · subst k1
        by_cases hn : ps.length = 2
        · by_cases hk0 : k = 0
          · have hk0' : ((k : Int) == 0) = true := by simp [hk0]
            clear hk0
            have hn' : (ps.length : Int) = 2 := by omega
            go_wp2_with fail
            go_ret
            exact ⟨rfl, Q7.out.alloc _⟩
          · have hk0' : ((k : Int) == 0) = false := by simp [hk0]
            obtain ⟨gP, offP, rfl, hgP, hcells⟩ := HPC.out (by omega)
            have hn' : (ps.length : Int) = 2 := by omega
            go_wp2_with fail
            go_loop [56] (fun i => ∃ j : Nat, j ≤ 2 ∧ i = .int .i64 j ∧ ∀ x ∈ ps.take j, -4096 ≤ x ∧ x ≤ 4096) (fun i => 2 - (intOf i).toNat)
            case atStart => exact ⟨0, Nat.zero_le _, rfl, fun x hx => by simp at hx⟩
            case round =>
              obtain ⟨j, hj, rfl, hx⟩ := hrel
              by_cases hjl : j < 2
              · have cj : wr.cell? ⟨gP, offP + j, none⟩ = some (.int .i64 (ps.getD j 0)) := hcells j (ps.getD j 0) (by simp [List.getD, hn, hjl])
                have hgP2 : gP < wr.heap.size := Nat.lt_of_lt_of_le hgP Q7.out.size
                have htk := take_far (ps := ps) (j := j) (by omega) hx
                have HTK := hid htk
                generalize ps.getD j 0 = xj at cj HTK
                clear hx htk hcells
                by_cases hb : beyondB xj 4096 = true
                · have HB := hid hb
                  clear hb
                  go_wp2_with fail
                  refine (beyond_is _ (by omega) (by omega) HB.out).mono ?_
                  rintro e w' ⟨rfl, rfl⟩
                  go_wp2_with fail
                  go_ret
                  exact ⟨rfl, Q7.out.alloc _⟩
                · have HB := hid (Bool.eq_false_iff.2 hb)
                  clear hb
                  go_wp2_with fail
                  refine (beyond_is _ (by omega) (by omega) HB.out).mono ?_
                  rintro e w' ⟨rfl, rfl⟩
                  go_wp2_with fail
                  go_round
                  case measure => simp [intOf]; omega
                  case rel => exact ⟨j + 1, by omega, by go_num, HTK.out HB.out⟩
              · obtain rfl : j = 2 := by omega
                have ca : wr.cell? ⟨gP, offP + 0, none⟩ = some (.int .i64 (ps.getD 0 0)) := hcells 0 (ps.getD 0 0) (by simp [List.getD, hn])
                have cb : wr.cell? ⟨gP, offP + 1, none⟩ = some (.int .i64 (ps.getD 1 0)) := hcells 1 (ps.getD 1 0) (by simp [List.getD, hn])
                rw [Nat.add_zero] at ca
                have hgP2 : gP < wr.heap.size := Nat.lt_of_lt_of_le hgP Q7.out.size
                have hgP3 : gP < w1.heap.size := Nat.lt_of_lt_of_le hgP T1.out.size
                have HX := hid (show ∀ x ∈ ps, -4096 ≤ x ∧ x ≤ 4096 from by rw [List.take_of_length_le (by omega)] at hx; exact hx)
                clear hx hcells
                obtain ⟨xa, exa⟩ : ∃ xa, xa = ps.getD 0 0 := ⟨_, rfl⟩
                obtain ⟨xb, exb⟩ : ∃ xb, xb = ps.getD 1 0 := ⟨_, rfl⟩
                rw [← exa] at ca
                rw [← exb] at cb
                have EXA := hid exa
                have EXB := hid exb
                clear exa exb
                go_wp2_with fail
                go_region
                have HW := hid ((((((PenW.mk Q1.out Q3.out Q4.out Q7.out FAR.out hB).setPen xa xb)).alloc (.cells #[.int .i64 1, .slice (some ⟨gP, offP, none⟩) 2 pcap] 31)).alloc (.cells #[.int .i64 (xa), .int .i64 (xb)] 28)).drew)
                go_wp2_with (at_builtin; go_loud (refine wpList_append_own _ rfl _ _ 27 rfl (w1.heap.size + 2) 28 i0 (.agg #[.int .i64 0, .int .i64 0]) 2 16 Try.underlying27 hi hz0 hz1 hz2 rfl (by decide) _ _ _ rfl HW.out.own _ 1 1 [.int .i64 (xa), .int .i64 (xb)] rfl rfl ?c1 ?c2 ?c3 ?c4 ?c5 ?_))
                case c1 => exact cells_at _ _ _ _ _ (by simp [go_sem])
                case c2 => intro u hu; simp at hu; rcases hu with rfl | rfl <;> rfl
                case c3 => unfold maxLen; omega
                case c4 => omega
                case c5 => simp [go_sem]; omega
                intro v' w4 hown' hgrow _
                have R := pen_step Q5.out Q2.out (Q6.out ⟨by simp, hn, by omega, HX.out⟩) HW.out hown' hgrow ?e1 ?e2
                case e1 => simp [penP, lastTwo, hn, EXA.out, EXB.out]
                case e2 => simp [firstP]
                have R1 := hid R
                clear R hown' hgrow
                go_wp2_with fail
                go_round
                case measure => simp [intOf]; omega
                case rel => exact ⟨k + 1, by omega, by go_num, R1.out⟩
        · have hn' : ¬ (ps.length : Int) = 2 := by omega
          go_wp2_with fail
          go_ret
          exact ⟨rfl, Q7.out.alloc _⟩
      by_cases k2 : kind = 2
      · subst k2
        by_cases hn : ps.length = 4
        · by_cases hk0 : k = 0
          · have hk0' : ((k : Int) == 0) = true := by simp [hk0]
            clear hk0
            have hn' : (ps.length : Int) = 4 := by omega
            go_wp2_with fail
            go_ret
            exact ⟨rfl, Q7.out.alloc _⟩
          · have hk0' : ((k : Int) == 0) = false := by simp [hk0]
            obtain ⟨gP, offP, rfl, hgP, hcells⟩ := HPC.out (by omega)
            have hn' : (ps.length : Int) = 4 := by omega
            go_wp2_with fail
            go_loop [56] (fun i => ∃ j : Nat, j ≤ 4 ∧ i = .int .i64 j ∧ ∀ x ∈ ps.take j, -4096 ≤ x ∧ x ≤ 4096) (fun i => 4 - (intOf i).toNat)
            case atStart => exact ⟨0, Nat.zero_le _, rfl, fun x hx => by simp at hx⟩
            case round =>
              obtain ⟨j, hj, rfl, hx⟩ := hrel
              by_cases hjl : j < 4
              · have cj : wr.cell? ⟨gP, offP + j, none⟩ = some (.int .i64 (ps.getD j 0)) := hcells j (ps.getD j 0) (by simp [List.getD, hn, hjl])
                have hgP2 : gP < wr.heap.size := Nat.lt_of_lt_of_le hgP Q7.out.size
                have htk := take_far (ps := ps) (j := j) (by omega) hx
                have HTK := hid htk
                generalize ps.getD j 0 = xj at cj HTK
                clear hx htk hcells
                by_cases hb : beyondB xj 4096 = true
                · have HB := hid hb
                  clear hb
                  go_wp2_with fail
                  refine (beyond_is _ (by omega) (by omega) HB.out).mono ?_
                  rintro e w' ⟨rfl, rfl⟩
                  go_wp2_with fail
                  go_ret
                  exact ⟨rfl, Q7.out.alloc _⟩
                · have HB := hid (Bool.eq_false_iff.2 hb)
                  clear hb
                  go_wp2_with fail
                  refine (beyond_is _ (by omega) (by omega) HB.out).mono ?_
                  rintro e w' ⟨rfl, rfl⟩
                  go_wp2_with fail
                  go_round
                  case measure => simp [intOf]; omega
                  case rel => exact ⟨j + 1, by omega, by go_num, HTK.out HB.out⟩
              · obtain rfl : j = 4 := by omega
                have ca : wr.cell? ⟨gP, offP + 2, none⟩ = some (.int .i64 (ps.getD 2 0)) := hcells 2 (ps.getD 2 0) (by simp [List.getD, hn])
                have cb : wr.cell? ⟨gP, offP + 3, none⟩ = some (.int .i64 (ps.getD 3 0)) := hcells 3 (ps.getD 3 0) (by simp [List.getD, hn])
                skip
                have hgP2 : gP < wr.heap.size := Nat.lt_of_lt_of_le hgP Q7.out.size
                have hgP3 : gP < w1.heap.size := Nat.lt_of_lt_of_le hgP T1.out.size
                have HX := hid (show ∀ x ∈ ps, -4096 ≤ x ∧ x ≤ 4096 from by rw [List.take_of_length_le (by omega)] at hx; exact hx)
                clear hx hcells
                obtain ⟨xa, exa⟩ : ∃ xa, xa = ps.getD 2 0 := ⟨_, rfl⟩
                obtain ⟨xb, exb⟩ : ∃ xb, xb = ps.getD 3 0 := ⟨_, rfl⟩
                rw [← exa] at ca
                rw [← exb] at cb
                have EXA := hid exa
                have EXB := hid exb
                clear exa exb
                go_wp2_with fail
                go_region
                have HW := hid ((((((PenW.mk Q1.out Q3.out Q4.out Q7.out FAR.out hB).setPen xa xb)).alloc (.cells #[.int .i64 2, .slice (some ⟨gP, offP, none⟩) 4 pcap] 31)).alloc (.cells #[.int .i64 (xa), .int .i64 (xb)] 28)).drew)
                go_wp2_with (at_builtin; go_loud (refine wpList_append_own _ rfl _ _ 27 rfl (w1.heap.size + 2) 28 i0 (.agg #[.int .i64 0, .int .i64 0]) 2 16 Try.underlying27 hi hz0 hz1 hz2 rfl (by decide) _ _ _ rfl HW.out.own _ 1 1 [.int .i64 (xa), .int .i64 (xb)] rfl rfl ?c1 ?c2 ?c3 ?c4 ?c5 ?_))
                case c1 => exact cells_at _ _ _ _ _ (by simp [go_sem])
                case c2 => intro u hu; simp at hu; rcases hu with rfl | rfl <;> rfl
                case c3 => unfold maxLen; omega
                case c4 => omega
                case c5 => simp [go_sem]; omega
                intro v' w4 hown' hgrow _
                have R := pen_step Q5.out Q2.out (Q6.out ⟨by simp, hn, by omega, HX.out⟩) HW.out hown' hgrow ?e1 ?e2
                case e1 => simp [penP, lastTwo, hn, EXA.out, EXB.out]
                case e2 => simp [firstP]
                have R1 := hid R
                clear R hown' hgrow
                go_wp2_with fail
                go_round
                case measure => simp [intOf]; omega
                case rel => exact ⟨k + 1, by omega, by go_num, R1.out⟩
        · have hn' : ¬ (ps.length : Int) = 4 := by omega
          go_wp2_with fail
          go_ret
          exact ⟨rfl, Q7.out.alloc _⟩
      by_cases k3 : kind = 3
      · subst k3
        by_cases hn : ps.length = 6
        · by_cases hk0 : k = 0
          · have hk0' : ((k : Int) == 0) = true := by simp [hk0]
            clear hk0
            have hn' : (ps.length : Int) = 6 := by omega
            go_wp2_with fail
            go_ret
            exact ⟨rfl, Q7.out.alloc _⟩
          · have hk0' : ((k : Int) == 0) = false := by simp [hk0]
            obtain ⟨gP, offP, rfl, hgP, hcells⟩ := HPC.out (by omega)
            have hn' : (ps.length : Int) = 6 := by omega
            go_wp2_with fail
            go_loop [56] (fun i => ∃ j : Nat, j ≤ 6 ∧ i = .int .i64 j ∧ ∀ x ∈ ps.take j, -4096 ≤ x ∧ x ≤ 4096) (fun i => 6 - (intOf i).toNat)
            case atStart => exact ⟨0, Nat.zero_le _, rfl, fun x hx => by simp at hx⟩
            case round =>
              obtain ⟨j, hj, rfl, hx⟩ := hrel
              by_cases hjl : j < 6
              · have cj : wr.cell? ⟨gP, offP + j, none⟩ = some (.int .i64 (ps.getD j 0)) := hcells j (ps.getD j 0) (by simp [List.getD, hn, hjl])
                have hgP2 : gP < wr.heap.size := Nat.lt_of_lt_of_le hgP Q7.out.size
                have htk := take_far (ps := ps) (j := j) (by omega) hx
                have HTK := hid htk
                generalize ps.getD j 0 = xj at cj HTK
                clear hx htk hcells
                by_cases hb : beyondB xj 4096 = true
                · have HB := hid hb
                  clear hb
                  go_wp2_with fail
                  refine (beyond_is _ (by omega) (by omega) HB.out).mono ?_
                  rintro e w' ⟨rfl, rfl⟩
                  go_wp2_with fail
                  go_ret
                  exact ⟨rfl, Q7.out.alloc _⟩
                · have HB := hid (Bool.eq_false_iff.2 hb)
                  clear hb
                  go_wp2_with fail
                  refine (beyond_is _ (by omega) (by omega) HB.out).mono ?_
                  rintro e w' ⟨rfl, rfl⟩
                  go_wp2_with fail
                  go_round
                  case measure => simp [intOf]; omega
                  case rel => exact ⟨j + 1, by omega, by go_num, HTK.out HB.out⟩
              · obtain rfl : j = 6 := by omega
                have ca : wr.cell? ⟨gP, offP + 4, none⟩ = some (.int .i64 (ps.getD 4 0)) := hcells 4 (ps.getD 4 0) (by simp [List.getD, hn])
                have cb : wr.cell? ⟨gP, offP + 5, none⟩ = some (.int .i64 (ps.getD 5 0)) := hcells 5 (ps.getD 5 0) (by simp [List.getD, hn])
                skip
                have hgP2 : gP < wr.heap.size := Nat.lt_of_lt_of_le hgP Q7.out.size
                have hgP3 : gP < w1.heap.size := Nat.lt_of_lt_of_le hgP T1.out.size
                have HX := hid (show ∀ x ∈ ps, -4096 ≤ x ∧ x ≤ 4096 from by rw [List.take_of_length_le (by omega)] at hx; exact hx)
                clear hx hcells
                obtain ⟨xa, exa⟩ : ∃ xa, xa = ps.getD 4 0 := ⟨_, rfl⟩
                obtain ⟨xb, exb⟩ : ∃ xb, xb = ps.getD 5 0 := ⟨_, rfl⟩
                rw [← exa] at ca
                rw [← exb] at cb
                have EXA := hid exa
                have EXB := hid exb
                clear exa exb
                go_wp2_with fail
                go_region
                have HW := hid ((((((PenW.mk Q1.out Q3.out Q4.out Q7.out FAR.out hB).setPen xa xb)).alloc (.cells #[.int .i64 3, .slice (some ⟨gP, offP, none⟩) 6 pcap] 31)).alloc (.cells #[.int .i64 (xa), .int .i64 (xb)] 28)).drew)
                go_wp2_with (at_builtin; go_loud (refine wpList_append_own _ rfl _ _ 27 rfl (w1.heap.size + 2) 28 i0 (.agg #[.int .i64 0, .int .i64 0]) 2 16 Try.underlying27 hi hz0 hz1 hz2 rfl (by decide) _ _ _ rfl HW.out.own _ 1 1 [.int .i64 (xa), .int .i64 (xb)] rfl rfl ?c1 ?c2 ?c3 ?c4 ?c5 ?_))
                case c1 => exact cells_at _ _ _ _ _ (by simp [go_sem])
                case c2 => intro u hu; simp at hu; rcases hu with rfl | rfl <;> rfl
                case c3 => unfold maxLen; omega
                case c4 => omega
                case c5 => simp [go_sem]; omega
                intro v' w4 hown' hgrow _
                have R := pen_step Q5.out Q2.out (Q6.out ⟨by simp, hn, by omega, HX.out⟩) HW.out hown' hgrow ?e1 ?e2
                case e1 => simp [penP, lastTwo, hn, EXA.out, EXB.out]
                case e2 => simp [firstP]
                have R1 := hid R
                clear R hown' hgrow
                go_wp2_with fail
                go_round
                case measure => simp [intOf]; omega
                case rel => exact ⟨k + 1, by omega, by go_num, R1.out⟩
        · have hn' : ¬ (ps.length : Int) = 6 := by omega
          go_wp2_with fail
          go_ret
          exact ⟨rfl, Q7.out.alloc _⟩
      by_cases k4 : kind = 4
      · subst k4
        by_cases hn : ps.length = 0
        · by_cases hk0 : k = 0
          · have hk0' : ((k : Int) == 0) = true := by simp [hk0]
            clear hk0
            have hn' : (ps.length : Int) = 0 := by omega
            go_wp2_with fail
            go_ret
            exact ⟨rfl, Q7.out.alloc _⟩
          · have hk0' : ((k : Int) == 0) = false := by simp [hk0]
            have hn' : (ps.length : Int) = 0 := by omega
            go_wp2_with fail
            go_loop [56] (fun i => i = .int .i64 0) (fun i => 0)
            case atStart => rfl
            case round =>
              subst hrel
              have HW := hid ((((((PenW.mk Q1.out Q3.out Q4.out Q7.out FAR.out hB).setPen f.1 f.2)).alloc (.cells #[.int .i64 4, .slice A 0 pcap] 31)).alloc (.cells #[.int .i64 (f.1), .int .i64 (f.2)] 28)))
              go_wp2_with (at_builtin; go_loud (refine wpList_append_own _ rfl _ _ 27 rfl (w1.heap.size + 2) 28 i0 (.agg #[.int .i64 0, .int .i64 0]) 2 16 Try.underlying27 hi hz0 hz1 hz2 rfl (by decide) _ _ _ rfl HW.out.own _ 1 1 [.int .i64 (f.1), .int .i64 (f.2)] rfl rfl ?c1 ?c2 ?c3 ?c4 ?c5 ?_))
              case c2 => exact ⟨rfl, rfl⟩
              case c3 => unfold maxLen; omega
              case c4 => omega
              intro v' w4 hown' hgrow _
              have R := pen_step Q5.out Q2.out (Q6.out ⟨by simp, hn, by omega, by rw [List.length_eq_zero_iff.1 hn]; simp⟩) HW.out hown' hgrow ?e1 ?e2
              case e1 => simp [penP]
              case e2 => simp [firstP]
              have R1 := hid R
              clear R hown' hgrow
              go_wp2_with fail
              go_round
              case measure => simp [intOf]; omega
              case rel => exact ⟨k + 1, by omega, by go_num, R1.out⟩
        · have hn' : ¬ (ps.length : Int) = 0 := by omega
          go_wp2_with fail
          go_ret
          exact ⟨rfl, Q7.out.alloc _⟩
      go_wp2_with fail
      go_ret
      exact ⟨rfl, Q7.out.alloc _⟩
    · have hkl : k = ops.length := by omega
      subst hkl
      rw [List.drop_length, wantOf, List.append_nil] at q5
      have HV := hid (HOK.out fun j h => q6 j h h)
      have HC := hid (OpsCells.up (HO.out.kept q7 (Nat.le_refl _) (fun _ _ hf => hf)) q7.size)
      have HS := hid q7
      have HQ := hid q1
      have HL := hid q5
      clear q1 q2 q3 q4 q5 q6 q7
      go_wp2_with fail
      refine (pens_cons ops gO off cap wr hpos (by omega) HC.out HV.out.1).mono ?_
      rintro e w5 ⟨v5, rfl, t1, t2⟩
      rw [HV.out.2, length_wantOf] at t1
      have t3 := own_kept HQ.out t2 (fun _ _ h => h.elim)
      rw [HL.out] at t3
      obtain ⟨g5, cap5, rfl, z1, z2⟩ := own_open t1 hpos (length_wantOf ops _)
      obtain ⟨g6, cap6, e6, z3, z4⟩ := own_open t3 hpos (length_wantOf ops _)
      have hlw := length_wantOf ops (0, 0)
      generalize wantOf ops (0, 0) = l at z2 z4 hlw
      have HS5 := hid (HS.out.trans t2)
      have Z2 := hid z2
      have Z4 := hid z4
      have HLW := hid hlw
      clear t1 t2 t3 z2 z4 HQ hlw
      subst e6
      have g28 := guard28
      go_wp2_with fail
      go_loopw [97] (fun i wx => ∃ j : Nat, j ≤ ops.length ∧ i = .int .i64 j ∧ Same w5 wx) (fun i _ => ops.length - (intOf i).toNat)
      case atStart => exact ⟨0, Nat.zero_le _, rfl, Kept.refl _ _⟩
      case round =>
        obtain ⟨j, hj, rfl, hsm⟩ := hrel
        have HSM := hid hsm
        by_cases hjl : j < ops.length
        · obtain ⟨y1, y2⟩ := Z2.out j (by rw [HLW.out]; exact hjl)
          obtain ⟨y3, y4⟩ := Z4.out j (by rw [HLW.out]; exact hjl)
          generalize (l[j]'(by rw [HLW.out]; exact hjl)) = lj at y1 y2 y3 y4
          rw [← HSM.out.cell z1 (fun h => h.elim)] at y1
          rw [← HSM.out.cell z1 (fun h => h.elim)] at y2
          rw [← HSM.out.cell z3 (fun h => h.elim)] at y3
          rw [← HSM.out.cell z3 (fun h => h.elim)] at y4
          have hjs : (j : Int) < ops.length := by omega
          clear hsm
          go_wp2_with fail
          go_region
          go_wp2_with fail
          go_round
          case measure => simp [intOf]; omega
          case rel => exact ⟨j + 1, by omega, by go_num, HSM.out.drew⟩
        · obtain rfl : j = ops.length := by omega
          clear hsm
          go_wp2_with fail
          go_ret
          exact ⟨rfl, HS5.out.trans HSM.out⟩
end Go.Proofs.Ytmgcbodlolnheaa.fnPen
