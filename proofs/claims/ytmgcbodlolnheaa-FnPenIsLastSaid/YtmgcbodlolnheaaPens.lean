/-
  'impl.Pens', 'laws.zzFits3', 'laws.zzFits4': contracts.
-/
import Derived.Test.YtmgcbodlolnheaaEqual
import Derived.Test.YtmgcbodlolnheaaCurveOk
namespace Go.Proofs.Ytmgcbodlolnheaa
open Go.ChangeShapes Go.WideShapes Go.ChangeAt Go.RowKit
set_option linter.unusedVariables false

theorem fits4_any (kind : Int) (A : Option Addr) (n cap : Nat) (w : World) (hn : n ≤ 9223372036854775807) :
    Calls Try.prog 39 #[.agg #[.int .i64 kind, .slice A n cap]] w fun e w' => e = .returned (.bool (decide (n ≤ 2147483647))) ∧ Same w w' := by
  by_cases h : n ≤ 2147483647
  · have e : decide (n ≤ 2147483647) = true := by simpa using h
    rw [e]
    clear e
    have h' : ¬ (2147483647 : Int) < n := by omega
    go_enter Try.func39, Try.ntmps39
    go_wp2
    go_ret
    exact ⟨rfl, (Kept.refl _ _).alloc _⟩
  · have e : decide (n ≤ 2147483647) = false := by simpa using h
    rw [e]
    clear e
    have h' : (2147483647 : Int) < n := by omega
    go_enter Try.func39, Try.ntmps39
    go_wp2
    go_ret
    exact ⟨rfl, (Kept.refl _ _).alloc _⟩
def fitOps (ops : List (Int × List Int)) : Bool := ops.all fun o => decide (o.2.length ≤ 2147483647)
theorem fitOps_take {ops : List (Int × List Int)} {k : Nat} (h : k < ops.length) (a : fitOps (ops.take k) = true) (b : (ops[k]).2.length ≤ 2147483647) : fitOps (ops.take (k + 1)) = true := by
  unfold fitOps at *
  rw [List.take_succ_eq_append_getElem h, List.all_append, a]
  simpa using b
theorem fitOps_far {ops : List (Int × List Int)} {k : Nat} (h : k < ops.length) (b : ¬ (ops[k]).2.length ≤ 2147483647) : fitOps ops = false := by
  unfold fitOps
  rw [List.all_eq_false]
  exact ⟨ops[k], List.getElem_mem h, by simpa using b⟩
set_option maxHeartbeats 1000000 in
set_option maxRecDepth 100000 in
theorem fits3_cons (ops : List (Int × List Int)) (g off cap : Nat) (w : World) (hpos : 0 < ops.length) (hlen : ops.length ≤ 9223372036854775807) (hfit : ops.length ≤ 2147483647) (hp : OpsCells w w.heap.size g off ops) :
    Calls Try.prog 17 #[.slice (some ⟨g, off, none⟩) ops.length cap] w fun e w' => e = .returned (.bool (fitOps ops)) ∧ Same w w' := by
  have HP := hid hp
  have h0 : ¬ (2147483647 : Int) < ops.length := by omega
  clear hp
  go_enter Try.func17, Try.ntmps17
  go_wp2_with fail
  go_loopw [10] (fun i wr => ∃ k : Nat, k ≤ ops.length ∧ i = .int .i64 k ∧ fitOps (ops.take k) = true ∧ Same w wr) (fun i _ => ops.length - (intOf i).toNat)
  case atStart => exact ⟨0, Nat.zero_le _, rfl, rfl, Kept.refl _ _⟩
  case round =>
    obtain ⟨k, hk, rfl, hn, hs⟩ := hrel
    have HN := hid hn
    have HSM := hid hs
    clear hn
    by_cases hlt : k < ops.length
    · have hpc := HP.out.kept hs (Nat.le_refl _) (fun _ _ hf => hf)
      obtain ⟨pv, c0, c1, c2⟩ := hpc.2 k hlt
      have hg : g < wr.heap.size := Nat.lt_of_lt_of_le hpc.1 hs.size
      have hnear := fun b => fitOps_take hlt HN.out b
      have hfar := fun b => fitOps_far hlt b
      generalize ops[k] = op at c0 c2 hnear hfar
      obtain ⟨A, pcap, rfl, hl, _⟩ := id c2
      have HNE := hid hnear
      have HFA := hid hfar
      clear hpc hs c2 hnear hfar
      by_cases hb : op.2.length ≤ 2147483647
      · have HNX := hid (HNE.out hb)
        have hd : decide (op.2.length ≤ 2147483647) = true := by simpa using hb
        have HD := hid hd
        clear hd hb
        go_wp2_with fail
        refine (fits4_any _ _ _ _ _ hl).mono ?_
        rintro e w' ⟨rfl, t⟩
        rw [HD.out]
        have T := hid t
        clear t
        go_wp2_with fail
        go_roundw
        case measure => simp [intOf]; omega
        case rel => exact ⟨k + 1, by omega, by go_num, HNX.out, (HSM.out.alloc _).trans T.out⟩
      · have HF := hid (HFA.out hb)
        have hd : decide (op.2.length ≤ 2147483647) = false := by simpa using hb
        have HD := hid hd
        clear hd hb
        go_wp2_with fail
        refine (fits4_any _ _ _ _ _ hl).mono ?_
        rintro e w' ⟨rfl, t⟩
        rw [HD.out]
        have T := hid t
        clear t
        go_wp2_with fail
        go_ret
        exact ⟨by rw [HF.out]; rfl, (HSM.out.alloc _).trans T.out⟩
    · obtain rfl : k = ops.length := by omega
      rw [List.take_of_length_le (Nat.le_refl _)] at HN
      clear hs
      go_wp2_with fail
      go_ret
      exact ⟨by rw [HN.out]; rfl, HSM.out⟩

/-! ### Pens -/
def I64ok (a : Nat) : Prop := (floatToIntVal .f32 a .i64).isSome = true
def f32i64 (a : Nat) : Int := (floatToIntVal .f32 a .i64).getD 0
theorem run_f32i64 {P : Program} {a : Nat} (src dst : TypeId) (hs : (P.underlying src).isSome = true) (hd : P.underlying dst = some (.int .i64)) (h : I64ok a) (w : World) :
    (convert src dst (.float .f32 a)).run P w = .ok (.int .i64 (f32i64 a)) w := by
  refine run_convert_float_int w src dst .f32 .i64 a _ hs hd ?_
  unfold I64ok at h
  unfold f32i64
  cases hh : floatToIntVal .f32 a .i64 with
  | none => rw [hh] at h; cases h
  | some r => rfl
/-- A coordinate of the pen, in 64ths. -/
def pen64 (a : Nat) : Int := f32i64 (fop .mul a 1115684864)
def PenOk (a : Nat) : Prop := Fok .mul a 1115684864 ∧ I64ok (fop .mul a 1115684864)
def pensOf : List (Int × List Int) → RS → List (Int × Int)
  | [], _ => []
  | o :: t, s => (pen64 (stepOp 16 16 o s).px, pen64 (stepOp 16 16 o s).py) :: pensOf t (stepOp 16 16 o s)
def PensOk : List (Int × List Int) → RS → Prop
  | [], _ => True
  | o :: t, s => StepOk 16 16 o s ∧ PenOk (stepOp 16 16 o s).px ∧ PenOk (stepOp 16 16 o s).py ∧ PensOk t (stepOp 16 16 o s)
theorem length_pensOf : ∀ (ops : List (Int × List Int)) (s : RS), (pensOf ops s).length = ops.length
  | [], _ => rfl
  | o :: t, s => by simp [pensOf, length_pensOf t]

/-- What holds in the loop, k calls done. -/
def PensS (w : World) (b g : Nat) (ops : List (Int × List Int)) (k : Nat) (v : Value) (wr : World) : Prop :=
  ∃ s acc, wr.ownsRow w.heap.size 28 2 v k (ptCells acc) ∧ acc.length = k ∧ RasS wr b g 16 16 (.slice none 0 0) [] s ∧ PensOk (ops.drop k) s ∧ acc ++ pensOf (ops.drop k) s = pensOf ops (startS false 256) ∧ Kept (fun k => w.heap.size ≤ k) w wr
/-- What Pens returns. -/
def PensIs (w : World) (ps : List (Int × Int)) (e : Ending) (w' : World) : Prop := ∃ v, e = .returned v ∧ w'.ownsRow w.heap.size 28 2 v ps.length (ptCells ps) ∧ Same w w'
theorem ras_own {w w' : World} {b g W H : Nat} {o : Value} {rest : List Value} {s : RS} {D n : Nat} {v : Value} {xs : List Value} (h : RasS w b g W H o rest s) (hown : w.ownsRow D 28 2 v n xs) (hg : w.grownBy w' v.ownBlock) : RasS w' b g W H o rest s := by
  have key : ∀ {k : Nat} {t : TypeId} {cs : Array Value}, Blk w k t cs → t ≠ 28 → Blk w' k t cs := by
    intro k t cs hb ht
    refine (hg.block k hb.lt fun he => ?_).trans hb
    rcases hown.2 with ⟨rfl, _⟩ | ⟨g', cap, cur, rfl, _, hb', _⟩
    · simp [Value.ownBlock] at he
    · simp only [Value.ownBlock, Option.some.injEq] at he
      subst he
      exact ht (hb.eq_ (show Blk w k 28 cur from hb')).1
  unfold RasS Ras at *
  cases s with
  | mk fx fy px py B =>
    cases B with
    | fix l => exact ⟨key h.1 (by decide), key h.2.1 (by decide), h.2.2⟩
    | flo l => exact ⟨key h.1 (by decide), key h.2.1 (by decide), h.2.2⟩
theorem own_ras {w w' : World} {D n b g : Nat} {v : Value} {xs : List Value} (h : w.ownsRow D 28 2 v n xs) (hk : Kept (KS b g) w w') (hb : ∀ k cs, Blk w k 28 cs → k ≠ b ∧ k ≠ g) : w'.ownsRow D 28 2 v n xs := by
  refine ⟨h.1, ?_⟩
  rcases h.2 with hn | ⟨g', cap, cur, rfl, h1, h2, h3⟩
  · exact .inl hn
  · refine .inr ⟨g', cap, cur, rfl, h1, ?_, h3⟩
    have hb2 : Blk w g' 28 cur := h2
    have := hb _ _ hb2
    exact hk.blk hb2 (fun hs => by rcases hs with hs | hs <;> simp_all)
theorem ras_ne28 {w : World} {b g W H : Nat} {o : Value} {rest : List Value} {s : RS} (h : RasS w b g W H o rest s) : ∀ k cs, Blk w k 28 cs → k ≠ b ∧ k ≠ g := by
  intro k cs hb
  unfold RasS Ras at h
  cases s with
  | mk fx fy px py B =>
    cases B with
    | fix l => exact ⟨hb.ne_ h.1 (by decide), hb.ne_ h.2.1 (by decide)⟩
    | flo l => exact ⟨hb.ne_ h.1 (by decide), hb.ne_ h.2.1 (by decide)⟩
theorem own_sub {w w' : World} {D n : Nat} {v : Value} {xs : List Value} (h : w.ownsRow D 28 2 v n xs) (hk : Same w w') : w'.ownsRow D 28 2 v n xs := by
  refine ⟨h.1, ?_⟩
  rcases h.2 with hn | ⟨g', cap, cur, rfl, h1, h2, h3⟩
  · exact .inl hn
  · exact .inr ⟨g', cap, cur, rfl, h1, hk.blk (show Blk w g' 28 cur from h2) id, h3⟩

/-- One pen more. -/
theorem pens_next {w wr w2 w4 : World} {b g nq k : Nat} {ops : List (Int × List Int)} {s : RS} {acc : List (Int × Int)} {v v' : Value} {op : Int × List Int} {o1 o2 : Obj} (hlt : k < ops.length)
    (r3 : acc ++ (pen64 (stepOp 16 16 op s).px, pen64 (stepOp 16 16 op s).py) :: pensOf (ops.drop (k + 1)) (stepOp 16 16 op s) = pensOf ops (startS false 256)) (r00 : acc.length = k)
    (t1 : RasS w2 b g 16 16 (.slice none 0 0) [] (stepOp 16 16 op s)) (r2d : PensOk (ops.drop (k + 1)) (stepOp 16 16 op s)) (r4 : Kept (fun k => w.heap.size ≤ k) w (wr.alloc o1)) (t2 : Kept (KS b g) (wr.alloc o1) w2) (hb : w.heap.size ≤ b) (hg : w.heap.size ≤ g)
    (hown : w4.ownsRow w.heap.size 28 2 v' (k + 1) (ptCells acc ++ [.int .i64 (pen64 (stepOp 16 16 op s).px), .int .i64 (pen64 (stepOp 16 16 op s).py)])) (hgrow : ((w2.drewN nq).alloc o2).grownBy w4 v.ownBlock)
    (how : ((w2.drewN nq).alloc o2).ownsRow w.heap.size 28 2 v k (ptCells acc)) : PensS w b g ops (k + 1) v' w4 := by
  have hk2 : Kept (fun k => w.heap.size ≤ k) w ((w2.drewN nq).alloc o2) := ((r4.trans (t2.mono fun k _ hk => by simp only [KS] at hk; omega)).drewN _).alloc _
  refine ⟨stepOp 16 16 op s, acc ++ [(pen64 (stepOp 16 16 op s).px, pen64 (stepOp 16 16 op s).py)], ?_, by simp [r00], ?_, r2d, ?_, ?_⟩
  · rw [ptCells_snoc]
    exact hown
  · have hr : RasS ((w2.drewN nq).alloc o2) b g 16 16 (.slice none 0 0) [] (stepOp 16 16 op s) := (Ras.drewN t1 nq).same ((Kept.refl _ _).alloc _)
    exact ras_own hr how hgrow
  · rw [← r3]
    simp
  · exact hk2.grown hgrow fun k hk => .inl (by have := (how.lt k hk).1; omega)

set_option maxHeartbeats 2000000 in
set_option maxRecDepth 100000 in
theorem pens_cons (ops : List (Int × List Int)) (gO off cap : Nat) (w : World) (hpos : 0 < ops.length) (hlen : ops.length ≤ 1000000) (hops : OpsCells w w.heap.size gO off ops) (hok : PensOk ops (startS false 256)) :
    Calls Try.prog 19 #[.slice (some ⟨gO, off, none⟩) ops.length cap] w (PensIs w (pensOf ops (startS false 256))) := by
  have Q1 := hid hok
  have HO := hid hops
  clear hok hops
  obtain ⟨i0, hi, hz0, hz1, hz2⟩ := info_parts info28
  go_enter Try.func19, Try.ntmps19
  go_wp2_with fail
  refine (new_any 256 16 16 (by decide) (by decide) (by decide) w).mono ?_
  rintro e wn ⟨b, g, rfl, hb, hg, hf, hk⟩
  have hR := fresh_ras (W := 16) (H := 16) hf
  have hdim : Dims 16 16 [] := Dims.of (by decide) (by decide) (by decide) (by decide) (by decide) (by simp)
  have HR := hid hR
  have HK := hid hk
  have HF := hid hdim
  clear hR hk hf hdim
  go_wp2_with fail
  go_loopw [4, 12] (fun v i wr => ∃ k : Nat, k ≤ ops.length ∧ i = .int .i64 k ∧ PensS w b g ops k v wr) (fun _ i _ => ops.length - (intOf i).toNat)
  case atStart => exact ⟨0, Nat.zero_le _, rfl, startS false 256, [], World.ownsRow_nil _ _ _ _, rfl, HR.out, by simpa using Q1.out, by simp, HK.out.mono fun _ _ hf => hf.elim⟩
  case round =>
    obtain ⟨k, hk, rfl, s, acc, r0, r00, r1, r2, r3, r4⟩ := hrel
    have hS : ∀ k, k < w.heap.size → ¬ w.heap.size ≤ k := fun _ h => by omega
    by_cases hlt : k < ops.length
    · have hoc := HO.out.kept r4 (Nat.le_refl _) hS
      obtain ⟨pv, c0, c1, c2⟩ := hoc.2 k hlt
      have r4s := r4.size
      have hgO : gO < wr.heap.size := Nat.lt_of_lt_of_le hoc.1 r4.size
      rw [drop_cons hlt] at r2 r3
      obtain ⟨r2a, r2b, r2c, r2d⟩ := r2
      rw [pensOf] at r3
      generalize ops[k] = op at c0 c2 r2a r2b r2c r2d r3
      obtain ⟨A, pcap, rfl, _, _⟩ := id c2
      have C2 := hid c2
      have R0 := hid r0
      have R00 := hid r00
      have R1 := hid r1
      have R2a := hid r2a
      have R2d := hid r2d
      have R3 := hid r3
      have R4 := hid r4
      obtain ⟨m1, m2⟩ := r2b
      obtain ⟨m3, m4⟩ := r2c
      have e1 := fun w => run_f32i64 (P := Try.prog) 72 3 (by kernel_rfl) Try.underlying3 m2 w
      have e2 := fun w => run_f32i64 (P := Try.prog) 72 3 (by kernel_rfl) Try.underlying3 m4 w
      clear c2 r0 r00 r1 r2a r2d r3 r4 hoc m2 m4
      go_wp2_with fail
      refine (call_any b g 16 16 (.slice none 0 0) [] s op (.slice A op.2.length pcap) w.heap.size _ HF.out (R1.out.same ((Kept.refl _ _).alloc _)) (C2.out.kept ((Kept.refl (fun _ => False) _).alloc _) r4s (fun _ _ hf => hf)) (by simp; omega) hb hg R2a.out).mono ?_
      rintro e w2 ⟨rfl, t1, t2⟩
      have T1 := hid t1
      have T2 := hid t2
      clear t1 t2
      go_wp2_with fail
      refine (pen_any b g 16 16 (.slice none 0 0) [] _ _ _ _ _ w2 T1.out).mono ?_
      rintro e w3 ⟨rfl, nq, rfl⟩
      have hne := ras_ne28 (R1.out.same ((Kept.refl _ _).alloc (.cells #[.int .i64 op.1, .slice A op.2.length pcap] 31)))
      have OW := hid ((own_ras ((R0.out.alloc (.cells #[.int .i64 op.1, .slice A op.2.length pcap] 31))) T2.out hne))
      have hsz := T2.out.size
      have OW2 := hid (show (w2.drewN nq).ownsRow w.heap.size 28 2 _ k (ptCells acc) from OW.out)
      go_wp2_with (at_builtin; refine wpList_append_own _ rfl _ _ 27 rfl w.heap.size 28 i0 (.agg #[.int .i64 0, .int .i64 0]) 2 16 Try.underlying27 hi hz0 hz1 hz2 rfl (by decide) _ _ _ rfl (OW2.out.alloc _) ⟨w2.heap.size, 0, none⟩ 1 1 [.int .i64 (f32i64 (fop .mul (stepOp 16 16 op s).px 1115684864)), .int .i64 (f32i64 (fop .mul (stepOp 16 16 op s).py 1115684864))] rfl rfl ?c1 ?c2 ?c3 ?c4 ?c5 ?_)
      case c1 => exact cells_new1 (w := w2.drewN nq) _ _ _
      case c2 => intro u hu; simp at hu; rcases hu with rfl | rfl <;> rfl
      case c3 => unfold maxLen; omega
      case c4 => omega
      case c5 => simp at hsz ⊢; omega
      intro v' w4 hown' hgrow _
      have R := pens_next (op := op) hlt R3.out R00.out T1.out R2d.out (R4.out.trans ((Kept.refl _ _).alloc _)) T2.out hb hg hown' hgrow (OW2.out.alloc _)
      clear hown' hgrow
      go_wp2_with fail
      go_roundw
      case measure => simp [intOf]; omega
      case rel => exact ⟨k + 1, by omega, by go_num, R⟩
    · obtain rfl : k = ops.length := by omega
      rw [List.drop_of_length_le (Nat.le_refl _)] at r3
      have r3' : acc = pensOf ops (startS false 256) := by rw [← r3]; simp [pensOf]
      subst r3'
      have R0 := hid r0
      have R4 := hid r4
      clear r0 r1 r2 r3 r4
      go_wp2_with fail
      go_ret
      refine ⟨_, rfl, by rw [length_pensOf]; exact R0.out, R4.out.mono fun k hk hd => by omega⟩
end Go.Proofs.Ytmgcbodlolnheaa
