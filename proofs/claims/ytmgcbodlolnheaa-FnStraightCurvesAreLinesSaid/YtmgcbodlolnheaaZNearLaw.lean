/-
  An argument of type [][][2]int, opened; 'laws.zzFits2' and 'laws.several': contracts.
  'laws.slack' and 'laws.near': contracts.
  'laws.drift' and 'laws.alike': numbers and contracts.
-/
import Derived.Test.YtmgcbodlolnheaaZStOps
import Derived.Test.YtmgcbodlolnheaaZEqual
import Derived.Test.YtmgcbodlolnheaaZAreaLaw
namespace Go.Proofs.Ytmgcbodlolnheaa
open Go.ChangeShapes Go.WideShapes Go.ChangeAt Go.RowKit Go.Deep
set_option linter.unusedVariables false

/-- Rows of points, one behind the other. -/
def RowsCells (w : World) (B g off : Nat) (ls : List (List (Int × Int))) : Prop :=
  g < B ∧ ∀ j, (h : j < ls.length) → ∃ pv, w.cell? ⟨g, off + j, none⟩ = some pv ∧ PtsAt w B pv ls[j]
def RowsAt (w : World) (B : Nat) (v : Value) (ls : List (List (Int × Int))) : Prop :=
  ∃ (A : Option Addr) (cap : Nat), v = .slice A ls.length cap ∧ ls.length ≤ 9223372036854775807 ∧ (0 < ls.length → ∃ g off, A = some ⟨g, off, none⟩ ∧ RowsCells w B g off ls)
section
variable {H : Type} {enc : TypeId × Value → H} {w : World} {spare : Nat → Bool} {held : Bool}
end

/-! ### several -/
@[local go_sem ↓] theorem run_minS {P : Program} {w : World} (ts : Array TypeId) (t : TypeId) (k k1 : IntKind) (x y : Int) : (Builtin.min_ ts t #[.int k x, .int k1 y]).run P w = .ok (.int k (imin x y)) w := by
  have e : imin x y = if y < x then y else x := by unfold imin; split <;> split <;> omega
  rw [e]
  simp [Builtin.min_, Builtin.min2]
def rowOk (W H : Int) (p : List (Int × Int)) : Bool := withinB p (64 * (64 + imin W H)) && decide (p.length ≤ 12)
def sevTest (W H : Int) (ls : List (List (Int × Int))) : Bool := ls.all (rowOk W H)
def sevOps (ls : List (List (Int × Int))) : List (Int × List Int) := ls.flatMap pathOps
def sevEdges (ls : List (List (Int × Int))) : List Edge := ls.flatMap fun p => polyTo p p.length
theorem sevOps_snoc (ls : List (List (Int × Int))) (l : List (Int × Int)) : sevOps (ls ++ [l]) = sevOps ls ++ pathOps l := by simp [sevOps]
theorem sevEdges_snoc (ls : List (List (Int × Int))) (l : List (Int × Int)) : sevEdges (ls ++ [l]) = sevEdges ls ++ polyTo l l.length := by simp [sevEdges]
theorem sevTest_snoc (W H : Int) (ls : List (List (Int × Int))) (l : List (Int × Int)) : sevTest W H (ls ++ [l]) = (sevTest W H ls && rowOk W H l) := by simp [sevTest]
theorem sevTest_false {W H : Int} {ls : List (List (Int × Int))} {l : List (Int × Int)} (hm : l ∈ ls) (h : rowOk W H l = false) : sevTest W H ls = false := by
  unfold sevTest
  rw [List.all_eq_false]
  exact ⟨l, hm, by simp [h]⟩
theorem sev_len {W H : Int} : ∀ {ls : List (List (Int × Int))}, sevTest W H ls = true → (sevOps ls).length ≤ 13 * ls.length ∧ (sevEdges ls).length ≤ 12 * ls.length
  | [], _ => by simp [sevOps, sevEdges]
  | l :: t, h => by
    have h1 : rowOk W H l = true ∧ sevTest W H t = true := by simpa [sevTest] using h
    obtain ⟨i1, i2⟩ := sev_len h1.2
    have h2 : l.length ≤ 12 := by have := h1.1; unfold rowOk at this; rw [Bool.and_eq_true, decide_eq_true_eq] at this; exact this.2
    simp only [sevOps, sevEdges, List.flatMap_cons, List.length_append, length_pathOps, length_polyTo, List.length_cons] at i1 i2 ⊢
    omega
/-- What holds of the calls and the edges so far. -/
structure SevS (w : World) (ls : List (List (Int × Int))) (v v' : Value) (wr : World) : Prop where
  ops : ∃ xs, wr.ownsRow w.heap.size 31 2 v (sevOps ls).length xs ∧ OpsOwn wr w.heap.size (sevOps ls) xs
  edges : wr.ownsRow w.heap.size 78 4 v' (sevEdges ls).length (edgeCells (sevEdges ls))
  same : Same w wr
theorem SevS.start (w : World) {wr : World} (h : Same w wr) : SevS w [] (.slice none 0 0) (.slice none 0 0) wr := ⟨⟨[], World.ownsRow_nil _ _ _ _, trivial⟩, World.ownsRow_nil _ _ _ _, h⟩
def SevRes (w : World) (W H : Int) (ls : List (List (Int × Int))) (e : Ending) (w' : World) : Prop :=
  ∃ v v', e = .returned (.tuple #[v, v', .bool (sevTest W H ls)]) ∧ (sevTest W H ls = true → SevS w ls v v' w') ∧ Same w w'
theorem PtsCells.up {w : World} {B C g off : Nat} {pts : List (Int × Int)} (h : PtsCells w B g off pts) (hB : B ≤ C) : PtsCells w C g off pts := ⟨Nat.lt_of_lt_of_le h.1 hB, h.2⟩
set_option maxHeartbeats 4000000 in
set_option maxRecDepth 100000 in
theorem several_cons (W H : Int) (ls : List (List (Int × Int))) (g off cap : Nat) (w : World) (hpos : 0 < ls.length) (hlen : ls.length ≤ 4) (hs : sizedB W H = true) (hW : W ≤ 200) (hH : H ≤ 200) (hp : RowsCells w w.heap.size g off ls) :
    Calls Try.prog 28 #[.int .i64 W, .int .i64 H, .slice (some ⟨g, off, none⟩) ls.length cap] w (SevRes w W H ls) := by
  obtain ⟨s1, s2, s3, s4, s5⟩ := sizedB_iff.1 hs
  have hm1 : 1 ≤ imin W H := by unfold imin; split <;> omega
  have hm2 : imin W H ≤ 200 := by unfold imin; split <;> omega
  have HS := hid hs
  have HP := hid hp
  clear hp hs s5
  obtain ⟨i31, hi31, hz310, hz311, hz312⟩ := info_parts info31
  obtain ⟨i78, hi78, hz780, hz781, hz782⟩ := info_parts info78
  go_enter Try.func28, Try.ntmps28
  go_wp2_with fail
  refine (sized_any W H w).mono ?_
  rintro e w' ⟨rfl, rfl⟩
  rw [HS.out]
  go_wp2_with fail
  go_loopw [6, 7, 30] (fun v v' i wr => ∃ k : Nat, k ≤ ls.length ∧ i = .int .i64 k ∧ sevTest W H (ls.take k) = true ∧ SevS w (ls.take k) v v' wr) (fun _ _ i _ => ls.length - (intOf i).toNat)
  case atStart => exact ⟨0, Nat.zero_le _, rfl, rfl, SevS.start _ (Kept.refl _ _)⟩
  case round =>
    obtain ⟨k, hk, rfl, htest, hst⟩ := hrel
    by_cases hlt : k < ls.length
    · obtain ⟨pv, c1, c2⟩ := HP.out.2 k hlt
      have hg0 : g < w.heap.size := HP.out.1
      have hc1 := (hst.same.cell (p := ⟨g, off + k, none⟩) hg0 (fun hf => hf)).trans c1
      have hg : g < wr.heap.size := Nat.lt_of_lt_of_le hg0 hst.same.size
      have htk : ls.take (k + 1) = ls.take k ++ [ls[k]] := List.take_succ_eq_append_getElem hlt
      have hmem : ls[k] ∈ ls := List.getElem_mem hlt
      generalize ls[k] = l at c2 htk hmem
      have hin := within_any l (64 * (64 + imin W H)) pv wr (by omega) (by omega) ((c2.kept hst.same (Nat.le_refl _) (fun _ _ hf => hf)).mono hst.same.size)
      obtain ⟨A, pcap, rfl, hl, hA⟩ := id c2
      have HTK := hid htk
      have HMEM := hid hmem
      have HTE := hid htest
      have HST := hid hst
      have HA := hid hA
      have HIN := hid hin
      have hsz := hst.same.size
      clear c1 c2 htk hmem htest hst hA hin
      by_cases hw : withinB l (64 * (64 + imin W H)) = true
      · by_cases h12 : 12 < l.length
        · have HF := hid (sevTest_false (W := W) (H := H) HMEM.out (by unfold rowOk; rw [decide_eq_false (by omega), Bool.and_false]))
          have HWI := hid hw
          have h12' : (12 : Int) < l.length := by omega
          clear hw h12
          go_wp2_with fail
          refine HIN.out.mono ?_
          rintro e w1 ⟨rfl, t1⟩
          rw [HWI.out]
          have T1 := hid (HST.out.same.trans t1)
          clear t1
          go_wp2_with fail
          refine bodyPost_ret (v := .tuple #[.slice none 0 0, .slice none 0 0, .bool false]) (by simp [results, Try.results28, go_sem]) rfl ?_
          exact ⟨_, _, by rw [HF.out], fun h => (by rw [HF.out] at h; cases h), T1.out⟩
        · have hrow : rowOk W H l = true := by unfold rowOk; rw [hw, decide_eq_true (by omega), Bool.true_and]
          have HNX := hid (show sevTest W H (ls.take (k + 1)) = true by rw [HTK.out, sevTest_snoc, HTE.out, hrow]; rfl)
          obtain ⟨_, hl3, _⟩ := withinB_iff.1 hw
          obtain ⟨g13, o13, rfl, hpc⟩ := HA.out (by omega)
          have HWI := hid hw
          have h12' : (l.length : Int) ≤ 12 := by omega
          have HPC := hid hpc
          obtain ⟨hlo, hle⟩ := sev_len HTE.out
          rw [List.length_take] at hlo hle
          clear hw h12 hrow hpc
          go_wp2_with fail
          refine HIN.out.mono ?_
          rintro e w1 ⟨rfl, t1⟩
          rw [HWI.out]
          have S1 := hid (HST.out.same.trans t1)
          have T1 := hid t1
          have hsz1 : w.heap.size ≤ w1.heap.size := S1.out.size
          have hsz2 : wr.heap.size ≤ w1.heap.size := t1.size
          have HPC1 := hid ((HPC.out.kept S1.out (Nat.le_refl _) (fun _ _ hf => hf)).up hsz1)
          clear t1
          go_wp2_with fail
          refine (path_consS l g13 o13 pcap w1 (by omega) (by omega) HPC1.out).mono ?_
          rintro e w2 ⟨vp, rfl, xs2, t1, t2, t3⟩
          have S2 := hid (S1.out.trans t3)
          have S2r := hid (T1.out.trans t3)
          obtain ⟨xs1, r1, r2⟩ := HST.out.ops
          have R1 := hid (own_sameW r1 S2r.out)
          have R2 := hid (opsOwn_same r2 S2r.out)
          have R3 := hid (own_sameW HST.out.edges S2r.out)
          have T3s := t3.size
          have hnews : ∀ u ∈ xs2, u.oneCell' = true := opsOwn_cells t2
          have hxl := t1.1
          have hol : (pathOps l).length = l.length + 1 := length_pathOps l
          rw [hol] at t1 hxl
          obtain ⟨gp, cp, rfl, hgp1, hgp2⟩ := t1.form (by omega)
          have hcells := t1.cells (g := gp) rfl
          have T2 := hid t2
          have NEWS := hid hnews
          have CELLS := hid hcells
          clear r1 r2 t1 t2 t3 hnews hcells
          go_wp2_with (at_builtin; go_loud (refine wpList_append_own _ rfl _ _ 25 rfl w.heap.size 31 i31 (.agg #[.int .i64 0, .slice none 0 0]) 2 32 Try.underlying25 hi31 hz310 hz311 hz312 rfl (by decide) _ _ _ rfl R1.out ⟨gp, 0, none⟩ (l.length + 1) cp xs2 rfl hxl CELLS.out NEWS.out ?c3 ?c4 ?c5 ?_))
          case c3 => unfold maxLen; omega
          case c4 => omega
          case c5 => omega
          intro v3 w3 hown3 hgrow3 _
          have E3 := hid (own_other R3.out R1.out (by decide) hgrow3)
          have O3 := hid (stS_ops (by omega) R1.out R2.out T2.out hgrow3)
          have S3 := hid (grown_same R1.out (Nat.le_refl _) S2.out hgrow3)
          have hown3' : w3.ownsRow w.heap.size 31 2 v3 (sevOps (ls.take k) ++ pathOps l).length (xs1 ++ xs2) := by
            rw [List.length_append, length_pathOps]
            exact hown3
          have R4 := hid hown3'
          have hsz3 : w.heap.size ≤ w3.heap.size := S3.out.size
          have HPC3 := hid ((HPC.out.kept S3.out (Nat.le_refl _) (fun _ _ hf => hf)).up hsz3)
          clear hown3 hown3' hgrow3
          go_wp2_with fail
          refine (poly_cons l g13 o13 pcap w3 (by omega) (by omega) HPC3.out).mono ?_
          rintro e w4 ⟨v4, rfl, t1, t2⟩
          have S4 := hid (S3.out.trans t2)
          have E4 := hid (own_sameW E3.out t2)
          have R5 := hid (own_sameW R4.out t2)
          have O4 := hid (opsOwn_same O3.out t2)
          have hel : (polyTo l l.length).length = l.length := by rw [length_polyTo]
          have hxl2 : (edgeCells (polyTo l l.length)).length = l.length * 4 := by rw [length_edgeCells, hel]
          have hones := edgeCells_one (polyTo l l.length)
          obtain ⟨g4, c4, rfl, hg41, hg42⟩ := t1.form (by omega)
          have hcells4 := t1.cells (g := g4) rfl
          generalize hECs : edgeCells (polyTo l l.length) = ecs at hxl2 hones hcells4
          have ECS := hid hECs
          have EL := hid hel
          have CELLS4 := hid hcells4
          have ONES := hid hones
          have hszw : w.heap.size ≤ w4.heap.size := S4.out.size
          clear t1 t2 hcells4 hones hECs hel
          go_wp2_with (at_builtin; go_loud (refine wpList_append_own _ rfl _ _ 40 rfl w.heap.size 78 i78 (.agg #[.int .i64 0, .int .i64 0, .int .i64 0, .int .i64 0]) 4 32 Try.underlying40 hi78 hz780 hz781 hz782 rfl (by decide) _ _ _ rfl E4.out ⟨g4, 0, none⟩ l.length c4 ecs rfl hxl2 CELLS4.out ONES.out ?c3 ?c4 ?c5 ?_))
          case c3 => unfold maxLen; omega
          case c4 => omega
          case c5 => omega
          intro v5 w5 hown5 hgrow5 _
          have R : SevS w (ls.take (k + 1)) v3 v5 w5 := by
            refine ⟨⟨xs1 ++ xs2, ?_, ?_⟩, ?_, grown_same E4.out (Nat.le_refl _) S4.out hgrow5⟩
            · rw [HTK.out, sevOps_snoc]
              exact own_other R5.out E4.out (by decide) hgrow5
            · rw [HTK.out, sevOps_snoc]
              exact O4.out.to fun g cs _ hb => grown_blk E4.out hgrow5 (by decide) hb
            · rw [HTK.out, sevEdges_snoc, edgeCells_append, List.length_append, EL.out, ECS.out]
              exact hown5
          have RR := hid R
          clear R hown5 hgrow5
          go_wp2_with fail
          go_roundw
          case measure => simp [intOf]; omega
          case rel => exact ⟨k + 1, by omega, by go_num, HNX.out, RR.out⟩
      · have hw' := Bool.eq_false_iff.2 hw
        have HF := hid (sevTest_false (W := W) (H := H) HMEM.out (by unfold rowOk; rw [hw', Bool.false_and]))
        have HWI := hid hw'
        clear hw hw'
        go_wp2_with fail
        refine HIN.out.mono ?_
        rintro e w1 ⟨rfl, t1⟩
        rw [HWI.out]
        have T1 := hid (HST.out.same.trans t1)
        clear t1
        go_wp2_with fail
        refine bodyPost_ret (v := .tuple #[.slice none 0 0, .slice none 0 0, .bool false]) (by simp [results, Try.results28, go_sem]) rfl ?_
        exact ⟨_, _, by rw [HF.out], fun h => (by rw [HF.out] at h; cases h), T1.out⟩
    · obtain rfl : k = ls.length := by omega
      rw [List.take_of_length_le (Nat.le_refl _)] at hst htest
      have HST := hid hst
      have HTE := hid htest
      clear hst htest
      go_wp2_with fail
      refine bodyPost_ret (v := .tuple #[u6, u7, .bool true]) (by simp [results, Try.results28, go_sem]) rfl ?_
      exact ⟨_, _, by rw [HTE.out], fun _ => HST.out, HST.out.same⟩
/-! ### any arguments -/
def sevB (W H : Int) (ls : List (List (Int × Int))) : Bool := sizedB W H && decide (W ≤ 200) && decide (H ≤ 200) && decide (ls.length ≤ 4) && sevTest W H ls
def SevAns (w : World) (W H : Int) (ls : List (List (Int × Int))) (e : Ending) (w' : World) : Prop :=
  ∃ v v', e = .returned (.tuple #[v, v', .bool (sevB W H ls)]) ∧ (sevB W H ls = true → SevS w ls v v' w') ∧ Same w w'
set_option maxRecDepth 100000 in
theorem several_none (W H : Int) (A : Option Addr) (cap : Nat) (w : World) (hs : sizedB W H = true) (hW : W ≤ 200) (hH : H ≤ 200) :
    Calls Try.prog 28 #[.int .i64 W, .int .i64 H, .slice A 0 cap] w fun e w' => e = .returned (.tuple #[.slice none 0 0, .slice none 0 0, .bool true]) ∧ Same w w' := by
  have HS := hid hs
  clear hs
  go_enter Try.func28, Try.ntmps28
  go_wp2_with fail
  refine (sized_any W H w).mono ?_
  rintro e w' ⟨rfl, rfl⟩
  rw [HS.out]
  go_wp2_with fail
  go_loop [6, 7, 30] (fun v2 v3 i => i = .int .i64 0 ∧ v2 = .slice none 0 0 ∧ v3 = .slice none 0 0) (fun _ _ i => 0)
  case atStart => exact ⟨rfl, rfl, rfl⟩
  case round =>
    obtain ⟨rfl, rfl, rfl⟩ := hrel
    go_wp2_with fail
    exact bodyPost_ret (v := .tuple #[.slice none 0 0, .slice none 0 0, .bool true]) (by simp [results, Try.results28, go_sem]) rfl ⟨rfl, Kept.refl _ _⟩
set_option maxRecDepth 100000 in
theorem several_not (W H : Int) (A : Option Addr) (n cap : Nat) (w : World) (h : sizedB W H = false ∨ (sizedB W H = true ∧ 200 < W) ∨ (sizedB W H = true ∧ W ≤ 200 ∧ 200 < H) ∨ (sizedB W H = true ∧ W ≤ 200 ∧ H ≤ 200 ∧ (4 : Int) < n)) :
    Calls Try.prog 28 #[.int .i64 W, .int .i64 H, .slice A n cap] w fun e w' => e = .returned (.tuple #[.slice none 0 0, .slice none 0 0, .bool false]) ∧ Same w w' := by
  rcases h with hs | ⟨hs, h1⟩ | ⟨hs, h1, h2⟩ | ⟨hs, h1, h2, h3⟩
  all_goals
    have HS := hid hs
    clear hs
    go_enter Try.func28, Try.ntmps28
    go_wp2_with fail
    refine (sized_any W H w).mono ?_
    rintro e w' ⟨rfl, rfl⟩
    rw [HS.out]
    go_wp2_with fail
    exact bodyPost_ret (v := .tuple #[.slice none 0 0, .slice none 0 0, .bool false]) (by simp [results, Try.results28, go_sem]) rfl ⟨rfl, Kept.refl _ _⟩
theorem several_any (W H : Int) (ls : List (List (Int × Int))) (v : Value) (w : World) (h : RowsAt w w.heap.size v ls) : Calls Try.prog 28 #[.int .i64 W, .int .i64 H, v] w (SevAns w W H ls) := by
  obtain ⟨A, cap, rfl, hl, ha⟩ := h
  by_cases hc : sizedB W H = false ∨ (sizedB W H = true ∧ 200 < W) ∨ (sizedB W H = true ∧ W ≤ 200 ∧ 200 < H) ∨ (sizedB W H = true ∧ W ≤ 200 ∧ H ≤ 200 ∧ (4 : Int) < ls.length)
  · have e : sevB W H ls = false := by
      unfold sevB
      rcases hc with h | ⟨_, h⟩ | ⟨_, _, h⟩ | ⟨_, _, _, h⟩
      · simp [h]
      · rw [decide_eq_false (show ¬ W ≤ 200 by omega)]; simp
      · rw [decide_eq_false (show ¬ H ≤ 200 by omega)]; simp
      · rw [decide_eq_false (show ¬ ls.length ≤ 4 by omega)]; simp
    refine (several_not W H A ls.length cap w hc).mono ?_
    rintro e' w' ⟨rfl, hs⟩
    exact ⟨_, _, by rw [e], fun h => (by rw [e] at h; cases h), hs⟩
  · have hs : sizedB W H = true := by
      cases h : sizedB W H
      · exact absurd (.inl h) hc
      · rfl
    have hW : W ≤ 200 := by rcases Int.lt_or_le 200 W with h | h; exact absurd (.inr (.inl ⟨hs, h⟩)) hc; exact h
    have hH : H ≤ 200 := by rcases Int.lt_or_le 200 H with h | h; exact absurd (.inr (.inr (.inl ⟨hs, hW, h⟩))) hc; exact h
    have h4 : ls.length ≤ 4 := by
      rcases Int.lt_or_le 4 (ls.length : Int) with h | h
      · exact absurd (.inr (.inr (.inr ⟨hs, hW, hH, h⟩))) hc
      · omega
    have e : sevB W H ls = sevTest W H ls := by
      unfold sevB
      rw [hs, decide_eq_true hW, decide_eq_true hH, decide_eq_true h4]
      rfl
    cases ls with
    | nil =>
      refine (several_none W H A cap w hs hW hH).mono ?_
      rintro e' w' ⟨rfl, hsm⟩
      exact ⟨_, _, by rw [e]; rfl, fun _ => SevS.start _ hsm, hsm⟩
    | cons a t =>
      obtain ⟨g, off, rfl, hc⟩ := ha (by simp)
      refine (several_cons W H (a :: t) g off cap w (by simp) h4 hs hW hH hc).mono ?_
      rintro e' w' ⟨v, v', rfl, hst, hsm⟩
      exact ⟨v, v', by rw [e], fun h => hst (by rw [← e]; exact h), hsm⟩
end Go.Proofs.Ytmgcbodlolnheaa

namespace Go.Proofs.Ytmgcbodlolnheaa
open Go.ChangeShapes Go.WideShapes Go.ChangeAt Go.RowKit Go.Deep
set_option linter.unusedVariables false

@[local go_sem ↓] theorem run_maxS {P : Program} {w : World} (ts : Array TypeId) (t : TypeId) (k k1 : IntKind) (x y : Int) : (Builtin.max_ ts t #[.int k x, .int k1 y]).run P w = .ok (.int k (imax x y)) w := by
  have e : imax x y = if x < y then y else x := by unfold imax; split <;> split <;> omega
  rw [e]
  simp [Builtin.max_, Builtin.max2]
set_option maxRecDepth 100000 in
theorem slack_none (A : Option Addr) (cap : Nat) (w : World) :
    Calls Try.prog 30 #[.slice A 0 cap] w fun e w' => e = .returned (.float .f64 (slackW [])) ∧ Same w w' := by
  have e : slackW [] = floatOfInt .f64 4 := rfl
  rw [e]
  go_enter Try.func30, Try.ntmps30
  go_wp2_with fail
  go_loopw [3, 8] (fun r i wr => i = .int .i64 0 ∧ r = .int .i64 0 ∧ Same w wr) (fun _ i _ => 0)
  case atStart => exact ⟨rfl, rfl, Kept.refl _ _⟩
  case round =>
    obtain ⟨rfl, rfl, hs⟩ := hrel
    go_wp2_with fail
    go_ret
    exact ⟨rfl, hs⟩
/-! ### laws.near -/
theorem near_yes {b : Int} {area far : Nat} (w : World) (h : CloseOk b area far) (hb : closeB b area far = true) :
    Calls Try.prog 45 #[.int .u8 b, .float .f64 area, .float .f64 far] w fun e w' => e = .returned (.bool true) ∧ w = w' := by
  have := near_any b area far w h
  rwa [hb] at this
theorem idx_in2 {W H x y : Nat} (hy : y < H) (hx : x < W) : y * W + x < W * H := by
  have h1 : (y + 1) * W ≤ H * W := Nat.mul_le_mul_right W hy
  rw [Nat.add_mul, Nat.one_mul, Nat.mul_comm H W] at h1
  omega
set_option maxHeartbeats 4000000 in
set_option maxRecDepth 100000 in
theorem nearMask (bs : List Int) (d dcap W H : Nat) (es : List Edge) (v : Value) (far : Nat) (w : World) (hW : W ≤ 600) (hH : H ≤ 600) (hbs : bs.length = W * H) (hd : Blk w d 5 (byteCells bs)) (hall : NearAll bs W H es far)
    (harea : ∀ (X Y : Nat) (wr : World), X < W → Y < H → Same w wr → AreaOk es X Y → Calls Try.prog 46 #[v, .int .i64 X, .int .i64 Y, .int .i64 64] wr fun e w' => e = .returned (.float .f64 (areaW es X Y)) ∧ Same wr w') :
    Calls Try.prog 29 #[.slice (some ⟨d, 0, none⟩) (W * H) dcap, .int .i64 W, .int .i64 H, v, .int .i64 64, .float .f64 far] w fun e w' => e = .returned (.bool true) ∧ Same w w' := by
  have HD := hid hd
  have HALL := hid hall
  have HAR := hid harea
  have HBS := hid hbs
  have hn : W * H ≤ 360000 := Nat.mul_le_mul hW hH
  have hn2 : (W : Int) * (H : Int) ≤ 360000 := by rw [← Int.natCast_mul]; omega
  have hn0 : 0 ≤ (W : Int) * (H : Int) := Int.mul_nonneg (by omega) (by omega)
  have hne : (((W * H : Nat) : Int) != (W : Int) * (H : Int)) = false := by rw [Int.natCast_mul]; simp
  clear hd hall harea hbs
  go_enter Try.func29, Try.ntmps29
  go_wp2_with fail
  go_loopw [22] (fun i wr => ∃ y : Nat, y ≤ H ∧ i = .int .i64 y ∧ Same w wr) (fun i _ => H - (intOf i).toNat)
  case atStart => exact ⟨0, Nat.zero_le _, rfl, Kept.refl _ _⟩
  case round =>
    obtain ⟨y, hy, rfl, hsy⟩ := hrel
    have HSY := hid hsy
    clear hsy
    by_cases hyl : y < H
    · obtain ⟨wo, rfl⟩ : ∃ wo : World, wo = wr := ⟨_, rfl⟩
      have hyi : (y : Int) < (H : Int) := by omega
      go_wp2_with fail
      go_loopw [26] (fun i wr => ∃ x : Nat, x ≤ W ∧ i = .int .i64 x ∧ Same w wr) (fun i _ => W - (intOf i).toNat)
      case atStart => exact ⟨0, Nat.zero_le _, rfl, HSY.out⟩
      case round =>
        obtain ⟨x, hx, rfl, hsx⟩ := hrel
        have HSX := hid hsx
        clear hsx
        by_cases hxl : x < W
        · have hidx := idx_in2 hyl hxl
          obtain ⟨b, f1, f2, f3, f4⟩ := HALL.out y x hyl hxl
          have e1 : IntKind.i64.wrap ((y : Int) * (W : Int)) = (y : Int) * (W : Int) := by
            rw [← Int.natCast_mul]
            exact IntWalk.i64_in _ (by omega)
          obtain ⟨k, hk⟩ : ∃ k, k = y * W + x := ⟨_, rfl⟩
          have e2 : IntKind.i64.wrap ((y : Int) * (W : Int) + (x : Int)) = (k : Int) := by rw [hk]; push_cast; exact IntWalk.i64_in _ (by rw [← Int.natCast_mul]; omega)
          rw [← hk] at f1 hidx
          have c1 : wr.cell? ⟨d, k, none⟩ = some (.int .u8 b) := by
            rw [byte_cell (HSX.out.blk HD.out id) (by rw [HBS.out]; omega)]
            simp [List.getD, f1]
          have hdl : d < wr.heap.size := World.block_lt_of_cell? wr ⟨d, k, none⟩ c1
          have C1 := hid c1
          have hki : (k : Int) < ((W * H : Nat) : Int) := by omega
          have hki2 : (k : Int) < (W : Int) * (H : Int) := by rw [← Int.natCast_mul]; exact hki
          have hkn : k < W * H := hidx
          have AR := hid (HAR.out x y wr.drew hxl hyl HSX.out.drew f2)
          have NR := hid (fun wz => near_yes wz f3 f4)
          have hxi : (x : Int) < (W : Int) := by omega
          generalize areaW es x y = area at AR NR
          clear f1 f2 f3 f4 hk hidx
          go_wp2_with fail
          go_region_held3 (fun w' => w'.cell? ⟨d, k, none⟩ = some (.int .u8 b))
            (first
              | exact C1.out
              | exact (T1.out.cell (p := ⟨d, k, none⟩) hdl (fun hf => hf)).trans C1.out)
            (first
              | (go_at_call 46; refine AR.out.mono ?_; rintro e w1 ⟨rfl, t1⟩; have T1 := hid t1; clear t1)
              | (go_at_call 45; refine (NR.out _).mono ?_; rintro e w2 ⟨rfl, rfl⟩))
          go_wp2_with fail
          go_roundw
          case measure => simp [intOf]; omega
          case rel => exact ⟨x + 1, by omega, by go_num, HSX.out.drew.trans T1.out⟩
        · obtain rfl : x = W := by omega
          go_wp2_with fail
          go_roundw
          case measure => simp [intOf]; omega
          case rel => exact ⟨y + 1, by omega, by go_num, HSX.out⟩
    · obtain rfl : y = H := by omega
      go_wp2_with fail
      go_ret
      exact ⟨rfl, HSY.out⟩
end Go.Proofs.Ytmgcbodlolnheaa

namespace Go.Proofs.Ytmgcbodlolnheaa
open Flt
open Go.ChangeShapes Go.WideShapes Go.ChangeAt Go.RowKit Go.Deep
set_option linter.unusedVariables false

/-! ### numbers -/
theorem R64.ofIntEq {x : Rat} {r : Nat} (h : R64 x r) {n : Int} (hx : x = n) (h1 : -4503599627370496 ≤ n) (h2 : n ≤ 4503599627370496) : VV r = n := by
  have hr : Rep Ieee.double x := ⟨n, 0, by rw [p2_zero, hx, Rat.mul_one], by rw [binade_double]; omega, by rw [binade_double]; omega, by rw [least_double]; decide⟩
  have := Rounds.exact h hr
  rw [hx] at this
  exact this
theorem R64.geInt {x : Rat} {r : Nat} (h : R64 x r) {n : Int} (hx : (n : Rat) ≤ x) (h1 : -4503599627370496 ≤ n) (h2 : n ≤ 4503599627370496) : (n : Rat) ≤ VV r :=
  Rounds.dn h _ ⟨n, 0, by rw [p2_zero, Rat.mul_one], by rw [binade_double]; omega, by rw [binade_double]; omega, by rw [least_double]; decide⟩ hx
theorem c4d : F64 4616189618054758400 ∧ VV 4616189618054758400 = 4 := by
  obtain ⟨h1, h2⟩ := read_VV (a := 4616189618054758400) (s := false) (m := 4503599627370496) (e := -50) (by decide)
  refine ⟨h1, ?_⟩
  rw [h2]
  have := p2_neg 50
  simp only [sgn]
  push_cast at this ⊢
  grind
theorem c100d : F64 4636737291354636288 ∧ VV 4636737291354636288 = 100 := by
  obtain ⟨h1, h2⟩ := read_VV (a := 4636737291354636288) (s := false) (m := 7036874417766400) (e := -46) (by decide)
  refine ⟨h1, ?_⟩
  rw [h2]
  have := p2_neg 46
  simp only [sgn]
  push_cast at this ⊢
  grind
/-- 'laws.drift'. -/
def driftW (es : List (Pt × Pt)) : Nat := fop64 .add 4611686018427387904 (fop64 .quo (fop64 .sub (slackW es) 4616189618054758400) 4636737291354636288)
structure DriftOk (es : List (Pt × Pt)) : Prop where
  o1 : Fok64 .sub (slackW es) 4616189618054758400
  o2 : Fok64 .quo (fop64 .sub (slackW es) 4616189618054758400) 4636737291354636288
  o3 : Fok64 .add 4611686018427387904 (fop64 .quo (fop64 .sub (slackW es) 4616189618054758400) 4636737291354636288)
/-! ### contracts -/
@[local go_sem ↓] theorem run_maxD {P : Program} {w : World} (ts : Array TypeId) (t : TypeId) (k k1 : IntKind) (x y : Int) : (Builtin.max_ ts t #[.int k x, .int k1 y]).run P w = .ok (.int k (imax x y)) w := by
  have e : imax x y = if x < y then y else x := by unfold imax; split <;> split <;> omega
  rw [e]
  simp [Builtin.max_, Builtin.max2]
end Go.Proofs.Ytmgcbodlolnheaa
