/-
  With floating numbers a path gone backward covers the same, but for 3 of 255, and a hundredth for each edge in each row that the longest edge has. No condition beyond the statement's own.
-/
import Derived.Test.YtmgcbodlolnheaaWay2
import Derived.Test.YtmgcbodlolnheaaDrift
import Derived.Test.YtmgcbodlolnheaaEqual
namespace Go.Proofs.Ytmgcbodlolnheaa
open Go.ChangeShapes Go.WideShapes Go.ChangeAt Go.RowKit Go.Deep
set_option linter.unusedVariables false

@[go_sem] theorem run_fint64i {P : Program} {w : World} {a : Nat} (src dst : TypeId) (hs : (P.underlying src).isSome = true) (hd : P.underlying dst = some (.int .i64)) (h : Iok64i a) :
    (convert src dst (.float .f64 a)).run P w = .ok (.int .i64 (fint64i a)) w := by
  refine run_convert_float_int w src dst .f64 .i64 a _ hs hd ?_
  unfold Iok64i at h
  unfold fint64i
  cases hh : floatToIntVal .f64 a .i64 with
  | none => rw [hh] at h; cases h
  | some r => rfl
theorem sevB_one {W H : Int} {p : List (Int × Int)} : sevB W H [p] = true ↔ (sizedB W H = true ∧ W ≤ 200 ∧ H ≤ 200 ∧ withinB p (64 * (64 + imin W H)) = true ∧ p.length ≤ 12) := by
  unfold sevB sevTest rowOk
  simp only [List.all_cons, List.all_nil, Bool.and_true, Bool.and_eq_true, decide_eq_true_eq, List.length_cons, List.length_nil, and_assoc]
  constructor
  · rintro ⟨a, b, c, _, d, e⟩
    exact ⟨a, b, c, d, e⟩
  · rintro ⟨a, b, c, d, e⟩
    exact ⟨a, b, c, by decide, d, e⟩
/-- A row of one row. -/
theorem rows_one {w : World} {g : Nat} {t : TypeId} {v : Value} {p : List (Int × Int)} {B : Nat} (h : Blk w g t #[v]) (hv : PtsAt w B v p) (hB : B ≤ w.heap.size) : RowsAt w w.heap.size (.slice (some ⟨g, 0, none⟩) 1 1) [p] := by
  refine ⟨_, 1, rfl, by simp, fun _ => ⟨g, 0, rfl, h.lt, fun j hj => ?_⟩⟩
  obtain rfl : j = 0 := by simpa using hj
  exact ⟨v, by rw [h.cell]; rfl, hv.mono hB⟩
end Go.Proofs.Ytmgcbodlolnheaa

namespace Go.Proofs.Ytmgcbodlolnheaa.fnWay
open Go.ChangeShapes Go.WideShapes Go.ChangeAt Go.RowKit Go.Deep
set_option linter.unusedVariables false

theorem rev_snoc {pts : List (Int × Int)} {k : Nat} (h : k < pts.length) : pts.reverse.take (k + 1) = pts.reverse.take k ++ [pts[pts.length - 1 - k]'(by omega)] := by
  rw [List.take_succ_eq_append_getElem (by simpa using h)]
  congr 2
  rw [List.getElem_reverse]
theorem back_next {w wr w1 : World} {pts : List (Int × Int)} {k : Nat} {v v' : Value} {x y : Int} {o : Obj} (he : pts.reverse.take (k + 1) = pts.reverse.take k ++ [(x, y)])
    (q1 : wr.ownsRow w.heap.size 28 2 v k (ptCells (pts.reverse.take k))) (q2 : Same w wr) (hown : w1.ownsRow w.heap.size 28 2 v' (k + 1) (ptCells (pts.reverse.take k) ++ [.int .i64 x, .int .i64 y])) (hg : (wr.alloc o).grownBy w1 v.ownBlock) :
    w1.ownsRow w.heap.size 28 2 v' (k + 1) (ptCells (pts.reverse.take (k + 1))) ∧ Same w w1 := by
  refine ⟨?_, own_same28 (q1.alloc o) (Nat.le_refl _) (q2.alloc _) hg⟩
  rw [he, ptCells_snoc]
  exact hown
set_option maxHeartbeats 4000000 in
set_option maxRecDepth 100000 in
theorem walk_long (W H : Nat) (pts : List (Int × Int)) (g off cap : Nat) (w : World) (hs : sevB (W : Int) (H : Int) [pts] = true) (hp : PtsCells w w.heap.size g off pts) (h3 : 3 ≤ pts.length) (h12 : pts.length ≤ 12) :
    Calls Try.prog 12 #[.int .i64 W, .int .i64 H, .slice (some ⟨g, off, none⟩) pts.length cap] w fun e w' => e = .returned (.bool true) ∧ Same w w' := by
  obtain ⟨z1, z2, z3, z4, z5⟩ := sevB_one.1 hs
  obtain ⟨s1, s2, s3, s4, s5⟩ := sizedB_iff.1 z1
  have HS := hid hs
  have HP := hid hp
  obtain ⟨i0, hi, hz0, hz1, hz2⟩ := info_parts info28
  have hn : W * H ≤ 65536 := by
    have : ((W * H : Nat) : Int) ≤ 65536 := by push_cast; exact s5
    omega
  have hn1 : 1 ≤ W * H := Nat.mul_pos (by omega) (by omega)
  have hfar : Far pts 16896 := by
    intro q hq
    have := (withinB_iff.1 z4).1 q hq
    have hm : imin W H ≤ 200 := by unfold imin; split <;> omega
    omega
  have hne : pts ≠ [] := by rintro rfl; simp at h3
  have hner : pts.reverse ≠ [] := by simpa using hne
  have hfar2 : Far pts 262144 := fun q hq => by have := hfar q hq; omega
  have hfar3 : Far pts.reverse 262144 := fun q hq => hfar2 q (by simpa using hq)
  have hokA : MaskROk true W H (pathOps pts) := maskROk_any true W H hne hfar2
  have hokB : MaskROk true W H (pathOps pts.reverse) := maskROk_any true W H hner hfar3
  have hla : (maskR true W H (pathOps pts)).length = W * H := by
    have h9 := len_several W H true (ps := [pts]) (by simpa using hne)
    simpa using h9
  have hlb : (maskR true W H (pathOps pts.reverse)).length = W * H := by
    have h9 := len_several W H true (ps := [pts.reverse]) (by simpa using hne)
    simpa using h9
  have h17 : ∀ e ∈ edges pts, Edge17 e := by
    have := edge17_of (ps := [pts]) (by intro q hq; rw [List.mem_singleton] at hq; subst hq; exact hfar)
    simpa using this
  have hel : (edges pts).length = pts.length := length_edges pts
  have hall : ∀ i, i < W * H → ∃ x y, (maskR true W H (pathOps pts))[i]? = some x ∧ (maskR true W H (pathOps pts.reverse))[i]? = some y ∧ (0 ≤ x ∧ x ≤ 255) ∧ (0 ≤ y ∧ y ≤ 255) ∧
      x - y ≤ 3 + rowsAll (edges pts) 0 * pts.length / 100 ∧ y - x ≤ 3 + rowsAll (edges pts) 0 * pts.length / 100 := by
    intro i hi
    have hWp : 0 < W := by omega
    have hX := Nat.mod_lt i hWp
    have hY : i / W < H := by
      rw [Nat.div_lt_iff_lt_mul hWp, Nat.mul_comm]
      exact hi
    obtain ⟨b, b', k1, k2, k3, k4, k5, k6, k7, k8⟩ := way_near (by omega) (by omega) (by omega) hne h12 hfar hX hY
    have e : i / W * W + i % W = i := by rw [Nat.mul_comm]; exact Nat.div_add_mod i W
    rw [e] at k1 k2
    exact ⟨b, b', k1, k2, ⟨k3, k4⟩, ⟨k5, k6⟩, k7, k8⟩
  obtain ⟨dok, _, _, _⟩ := drift_num h17 (by omega)
  obtain ⟨d1, d2⟩ := drift_int h17 (by omega)
  rw [hel] at d2
  have hpl : polyTo pts pts.length = edges pts := polyTo_edges pts
  obtain ⟨far, hfr⟩ : ∃ far, far = 3 + rowsAll (edges pts) 0 * pts.length / 100 := ⟨_, rfl⟩
  have hfb : 0 ≤ far ∧ far ≤ 10000 := by
    obtain ⟨r0, r1⟩ := rowsAll_bd h17
    have a0 : 0 ≤ rowsAll (edges pts) 0 * (pts.length : Int) := Int.mul_nonneg r0 (by omega)
    have a1 := Int.mul_le_mul_of_nonneg_right r1 (show (0 : Int) ≤ pts.length by omega)
    omega
  have hd2 : fint64i (driftW (edges pts)) = far - 1 := by rw [d2, hfr]; omega
  rw [← hfr] at hall
  have HOA := hid hokA
  have HOB := hid hokB
  have HLA := hid hla
  have HLB := hid hlb
  have HALL := hid hall
  have H17 := hid h17
  have HEL := hid hel
  have HDOK := hid dok
  have HPL := hid hpl
  obtain ⟨fb1, fb2⟩ := hfb
  have hgl := hp.1
  clear hs hp z1 z4 hfar hner hfar2 hfar3 hokA hokB hla hlb hall h17 hel dok d2 hpl hfr
  go_enter Try.func12, Try.ntmps12
  go_wp2_with fail
  have hv0 : PtsAt w w.heap.size (.slice (some ⟨g, off, none⟩) pts.length cap) pts := ⟨_, cap, rfl, by omega, fun _ => ⟨g, off, rfl, HP.out⟩⟩
  have HV0 := hid hv0
  have hrows : RowsAt (w.alloc (.cells #[.slice (some ⟨g, off, none⟩) pts.length cap] 27)) (w.alloc (.cells #[.slice (some ⟨g, off, none⟩) pts.length cap] 27)).heap.size (.slice (some ⟨w.heap.size, 0, none⟩) 1 1) [pts] :=
    rows_one (Blk.new w 27 _) (HV0.out.kept (Kept.alloc (Kept.refl (fun _ => False) w) _) (Nat.le_refl _) (fun _ _ hf => hf)) (by simp)
  have HR := hid hrows
  have T0 := hid (show Same w (w.alloc (.cells #[.slice (some ⟨g, off, none⟩) pts.length cap] 27)) from (Kept.refl _ _).alloc _)
  clear hv0 hrows
  generalize w.alloc (.cells #[.slice (some ⟨g, off, none⟩) pts.length cap] 27) = w0 at HR T0 ⊢
  refine (several_any (W : Int) (H : Int) [pts] _ w0 HR.out).mono ?_
  rintro e w1 ⟨v7, v8, rfl, _, t2⟩
  rw [HS.out]
  have T1 := hid (T0.out.trans t2)
  clear t2
  go_wp2_with fail
  go_loopw [10, 28] (fun v i wr => ∃ k : Nat, k ≤ pts.length ∧ i = .int .i64 k ∧ wr.ownsRow w.heap.size 28 2 v k (ptCells (pts.reverse.take k)) ∧ Same w wr) (fun _ i _ => pts.length - (intOf i).toNat)
  case atStart => exact ⟨0, Nat.zero_le _, rfl, World.ownsRow_nil _ _ _ _, T1.out⟩
  case round =>
    obtain ⟨k, hk, rfl, q1, q3⟩ := hrel
    by_cases hlt : k < pts.length
    · obtain ⟨q, hq⟩ : ∃ q, q = pts.length - 1 - k := ⟨_, rfl⟩
      have hql : q < pts.length := by omega
      have hpc := HP.out.kept q3 (Nat.le_refl _) (fun _ _ hf => hf)
      obtain ⟨c0, c1⟩ := hpc.2 q hql
      have hgr : g < wr.heap.size := Nat.lt_of_lt_of_le hpc.1 q3.size
      have htake := rev_snoc hlt
      have hqe : pts[pts.length - 1 - k]'(by omega) = pts[q] := by congr 1; exact hq.symm
      rw [hqe] at htake
      generalize pts[q] = pt at c0 c1 htake
      obtain ⟨x, y⟩ := pt
      simp only at c0 c1
      have HT := hid htake
      have Q1 := hid q1
      have Q3 := hid q3
      have hw1 : IntKind.i64.wrap ((pts.length : Int) - 1) = (pts.length : Int) - 1 := IntWalk.i64_in _ (by omega)
      have hw2 : IntKind.i64.wrap ((pts.length : Int) - 1 - (k : Int)) = (q : Int) := by rw [IntWalk.i64_in _ (by omega)]; omega
      have hqi : (q : Int) < (pts.length : Int) := by omega
      have hki : (k : Int) < (pts.length : Int) := by omega
      have hsz := q3.size
      have HQ := hid hq
      clear htake hqe q1 q3 hpc hq
      go_wp2_with (at_builtin; refine wpList_append_own _ rfl _ _ 27 rfl w.heap.size 28 i0 (.agg #[.int .i64 0, .int .i64 0]) 2 16 Try.underlying27 hi hz0 hz1 hz2 rfl (by decide) _ _ _ rfl (Q1.out.alloc _) ⟨wr.heap.size, 0, none⟩ 1 1 [.int .i64 x, .int .i64 y] rfl rfl ?c1 ?c2 ?c3 ?c4 ?c5 ?_)
      case c1 =>
        intro j u hu
        have hb := Blk.new wr 28 #[.int .i64 x, .int .i64 y]
        have e : (⟨wr.heap.size, 0, none⟩ : Addr).add j = ⟨wr.heap.size, j, none⟩ := by unfold Addr.add; split <;> simp_all
        rw [e, hb.cell]
        simpa using hu
      case c2 => intro u hu; simp at hu; rcases hu with rfl | rfl <;> rfl
      case c3 => unfold maxLen; omega
      case c4 => omega
      case c5 => have := Q3.out.size; simp; omega
      intro v' w2 hown' hgrow _
      have R := hid (back_next HT.out Q1.out Q3.out hown' hgrow)
      clear hown' hgrow
      go_wp2_with fail
      go_roundw
      case measure => simp [intOf]; omega
      case rel => exact ⟨k + 1, by omega, by go_num, R.out.1, R.out.2⟩
    · obtain rfl : k = pts.length := by omega
      have hrl : pts.reverse.length = pts.length := by simp
      rw [← hrl, List.take_of_length_le (Nat.le_refl _)] at q1
      have hptsM := ptsAt_own (n := pts.reverse.length) rfl (by omega) q1
      have HM := hid hptsM
      have Q3 := hid q3
      clear q1 q3 hptsM
      have hP2 := hid (HP.out.kept Q3.out (Nat.le_refl _) (fun _ _ hf => hf))
      have hsz := Q3.out.size
      go_wp2_with fail
      refine (path_cons pts g off cap wr (by omega) (by omega) ⟨Nat.lt_of_lt_of_le hP2.out.1 hsz, hP2.out.2⟩).mono ?_
      rintro e w2 ⟨vA, rfl, t1, t2⟩
      have T1A := hid t1
      have T2A := hid t2
      clear t1 t2
      go_wp2_with fail
      refine (maskBy_any W H (pathOps pts) vA w2 (by omega) (by omega) (by omega) (by omega) hn true T1A.out HOA.out).mono ?_
      rintro e w3 ⟨dA, rfl, hdA, t1, t2⟩
      have BA := hid t1
      have T3 := hid (T2A.out.trans t2)
      clear t1 t2
      go_wp2_with fail
      have HM3 := hid ((HM.out.kept T3.out (Nat.le_refl _) (fun _ _ hf => hf)).mono T3.out.size)
      refine (path_any pts.reverse _ w3 (by omega) (by omega) HM3.out).mono ?_
      rintro e w4 ⟨vB, rfl, t1, t2⟩
      have T1B := hid t1
      have T4 := hid (T3.out.trans t2)
      have BA4 := hid (t2.blk BA.out id)
      clear t1 t2
      go_wp2_with fail
      refine (maskBy_any W H (pathOps pts.reverse) vB w4 (by omega) (by omega) (by omega) (by omega) hn true T1B.out HOB.out).mono ?_
      rintro e w5 ⟨dB, rfl, hdB, t1, t2⟩
      have BB := hid t1
      have BA5 := hid (t2.blk BA4.out id)
      have T5 := hid ((Q3.out.trans T4.out).trans t2)
      clear t1 t2 hdA hdB
      have hP5 := hid (HP.out.kept T5.out (Nat.le_refl _) (fun _ _ hf => hf))
      have hsz5 := T5.out.size
      go_wp2_with fail
      refine (poly_cons pts g off cap w5 (by omega) (by omega) ⟨Nat.lt_of_lt_of_le hP5.out.1 hsz5, hP5.out.2⟩).mono ?_
      rintro e w6 ⟨v6, rfl, p1, t1⟩
      have p1' : w6.ownsRow w5.heap.size 78 4 v6 (edges pts).length (edgeCells (edges pts)) := by
        rw [HEL.out, ← HPL.out]
        exact p1
      have P1 := hid p1'
      have T6 := hid (T5.out.trans t1)
      have BA6 := hid (t1.blk BA5.out id)
      have BB6 := hid (t1.blk BB.out id)
      clear t1 p1 p1'
      have hel2 : (edges pts).length ≤ 1000 := by rw [HEL.out]; omega
      go_wp2_with fail
      refine (drift_own (edges pts) v6 w6 hel2 P1.out H17.out HDOK.out).mono ?_
      rintro e w7 ⟨rfl, t1⟩
      have T7 := hid (T6.out.trans t1)
      have BA7 := hid (t1.blk BA6.out id)
      have BB7 := hid (t1.blk BB6.out id)
      clear t1
      generalize driftW (edges pts) = dw at d1 hd2
      have hwW : IntKind.i64.wrap ((W : Int) * (H : Int)) = ((W * H : Nat) : Int) := by rw [← Int.natCast_mul]; exact IntWalk.i64_in _ (by omega)
      have hwF : IntKind.i64.wrap (far - 1 + 1) = far := by rw [IntWalk.i64_in _ (by omega)]; omega
      go_wp2_with fail
      refine (alike_any (maskR true W H (pathOps pts)) (maskR true W H (pathOps pts.reverse)) dA dB (W * H) (W * H) (W * H) far w7 hn1 hn BA7.out BB7.out HLA.out HLB.out HALL.out).mono ?_
      rintro e w8 ⟨rfl, t1⟩
      have T8 := hid (T7.out.trans t1)
      clear t1
      go_wp2_with fail
      go_ret
      exact ⟨rfl, T8.out⟩
set_option maxHeartbeats 2000000 in
set_option maxRecDepth 100000 in
theorem walk (W H : Int) (pts : List (Int × Int)) (v : Value) (w : World) (hp : PtsAt w w.heap.size v pts) :
    Calls Try.prog 12 #[.int .i64 W, .int .i64 H, v] w fun e w' => e = .returned (.bool true) ∧ Same w w' := by
  have HV0 := hid hp
  obtain ⟨A, cap, rfl, hl, ha⟩ := hp
  by_cases h0 : (2147483647 : Int) < pts.length
  · clear ha
    go_enter Try.func12, Try.ntmps12
    go_wp2_with fail
    go_ret
    exact ⟨rfl, Kept.refl _ _⟩
  have h0' : (pts.length : Int) ≤ 2147483647 := Int.not_lt.1 h0
  clear h0
  cases hs : sevB W H [pts]
  · have HS := hid hs
    clear ha hs
    go_enter Try.func12, Try.ntmps12
    go_wp2_with fail
    have hrows : RowsAt (w.alloc (.cells #[.slice A pts.length cap] 27)) (w.alloc (.cells #[.slice A pts.length cap] 27)).heap.size (.slice (some ⟨w.heap.size, 0, none⟩) 1 1) [pts] :=
      rows_one (Blk.new w 27 _) (HV0.out.kept (Kept.alloc (Kept.refl (fun _ => False) w) _) (Nat.le_refl _) (fun _ _ hf => hf)) (by simp)
    have HR := hid hrows
    have T0 := hid (show Same w (w.alloc (.cells #[.slice A pts.length cap] 27)) from (Kept.refl _ _).alloc _)
    clear hrows
    generalize w.alloc (.cells #[.slice A pts.length cap] 27) = w0 at HR T0 ⊢
    refine (several_any W H [pts] _ w0 HR.out).mono ?_
    rintro e w1 ⟨v7, v8, rfl, _, t2⟩
    rw [HS.out]
    have T1 := hid (T0.out.trans t2)
    clear t2
    go_wp2_with fail
    go_ret
    exact ⟨rfl, T1.out⟩
  obtain ⟨z1, z2, z3, z4, z5⟩ := sevB_one.1 hs
  obtain ⟨s1, s2, s3, s4, s5⟩ := sizedB_iff.1 z1
  obtain ⟨_, hl3, _⟩ := withinB_iff.1 z4
  obtain ⟨g, off, rfl, hc⟩ := ha (by omega)
  obtain ⟨Wn, rfl⟩ : ∃ n : Nat, W = n := ⟨W.toNat, by omega⟩
  obtain ⟨Hn, rfl⟩ : ∃ n : Nat, H = n := ⟨H.toNat, by omega⟩
  exact walk_long Wn Hn pts g off cap w hs hc hl3 z5

theorem own : ownKnob Try.prog.godebug = none := by kernel_rfl
theorem readable : ∀ t ∈ Try.f12.params.toList, Try.prog.readableRec t = true ∧ t < Try.prog.types.size := by
  rw [Try.params12]
  intro t ht
  simp only [List.mem_cons, List.not_mem_nil, or_false] at ht
  rcases ht with rfl | rfl | rfl
  all_goals exact ⟨by kernel_rfl, of_decide_eq_true (by kernel_rfl)⟩

set_option maxRecDepth 100000 in
theorem lifted (os : Os) (started : os.Started) (H : Type) (enc : TypeId × Value → H) :
    ReturnsInHanded {} Try.checked os 12 .any (Rows.fnWayDoesNotMatterSpec.pre6 enc Try.prog Try.f12 Rows.fnWayDoesNotMatterRow.domain false) (Rows.fnWayDoesNotMatterSpec.post enc Try.prog Try.f12 false true false false) := by
  refine returnsInHanded_of_change (C := Try.checked) own started (by kernel_rfl) Try.func12
    (ChangeSpec.witness6 (enc := enc) (C := Try.checked) false ⟨#[], #[.int .i64 0, .int .i64 0, .slice none 0 0], []⟩ 8 (by kernel_rfl) (by kernel_rfl) (by kernel_rfl) (by kernel_rfl)) ?_
  intro W base args ds gs before hval0 hW hcnd _
  have hval : ∀ (j : Nat) t v, Try.f12.params[j]? = some t → args[j]? = some v → Value.okWide Try.prog W .any base t v := hval0
  have hW' := hW
  obtain ⟨p, q, hA0, hV, rfl, hfz, hnd⟩ := hW
  have hA : DataW.TrodAll enc Try.prog W 0 (fun _ => true) true Try.f12.params.toList args.toList ds p := hA0
  rw [Try.params12] at hA hval
  obtain ⟨v0, vs0, d0, ds0, p0, q0, hargs, rfl, rfl, h0, r0⟩ := trodAll_cons hA
  obtain ⟨v1, vs1, d1, ds1, p1, q1, rfl, rfl, rfl, h1, r1⟩ := trodAll_cons r0
  obtain ⟨v2, vs2, d2, ds2, p2, q2, rfl, rfl, rfl, h2, r2⟩ := trodAll_cons r1
  obtain ⟨rfl, rfl, rfl⟩ := trodAll_nil r2
  obtain rfl : args = #[v0, v1, v2] := by cases args; simp_all
  obtain ⟨rfl, rfl⟩ := trodVars_none hV
  obtain ⟨a0, rfl, rfl, rfl, w0⟩ := open_int Try.underlying3 (hval 0 3 v0 rfl rfl) h0
  obtain ⟨a1, rfl, rfl, rfl, w1⟩ := open_int Try.underlying3 (hval 1 3 v1 rfl rfl) h1
  obtain ⟨pts, hpts⟩ := open_ptsT (hval 2 27 v2 rfl rfl) h2
  clear hA0 hval0
  simp only [List.append_nil] at hW'
  refine (walk a0 a1 pts v2 W hpts).mono fun e W' ⟨he, hg⟩ => ?_
  subst he
  exact ⟨_, rfl, law_post readable rfl rfl rfl hW' hg.toBelow⟩

theorem over : Rows.fnWayDoesNotMatterRow.holds Try.pinned (OpenSpec.ofChange Rows.fnWayDoesNotMatterSpec) :=
  OpenClaim.holds_of_wide 12 Try.f12 rfl rfl rfl rfl rfl rfl rfl ⟨rfl, rfl, rfl, rfl, rfl⟩ rfl rfl rfl rfl rfl (by kernel_rfl) Try.func12 (by kernel_rfl)
    (of_decide_eq_true (by kernel_rfl)) (by unfold Func.isWrapper; first | (rw [if_pos (by decide +kernel)]; kernel_rfl) | (rw [if_neg (by decide +kernel)]; exact ⟨rfl, rfl⟩))
    (fun os started H enc _ => lifted os started H enc)

/-- The statement. -/
theorem proved : Rows.FnWayDoesNotMatterSaid :=
  over
#print axioms proved
end Go.Proofs.Ytmgcbodlolnheaa.fnWay
