/-
  'impl.Mask', 'impl.MaskBy', 'impl.MaskAgain': contracts.
  'impl.Mask', 'impl.MaskBy' for any calls; 'impl.MaskAgain'.
-/
import Derived.Test.YtmgcbodlolnheaaZReset
namespace Go.Proofs.Ytmgcbodlolnheaa
open Go.ChangeShapes Go.WideShapes Go.ChangeAt Go.RowKit
set_option linter.unusedVariables false

/-- Where a slice of calls stands: at block g from cell off on; all of it below block B. -/
def OpsCells (w : World) (B g off : Nat) (ops : List (Int × List Int)) : Prop :=
  g < B ∧ ∀ j, (h : j < ops.length) → ∃ pv, w.cell? ⟨g, off + j * 2, none⟩ = some (.int .i64 (ops[j]).1) ∧ w.cell? ⟨g, off + j * 2 + 1, none⟩ = some pv ∧ IntsAt w B pv (ops[j]).2
/-- A slice of calls below block B. -/
def OpsAt (w : World) (B : Nat) (v : Value) (ops : List (Int × List Int)) : Prop :=
  ∃ (A : Option Addr) (cap : Nat), v = .slice A ops.length cap ∧ ops.length ≤ 9223372036854775807 ∧ (0 < ops.length → ∃ g off, A = some ⟨g, off, none⟩ ∧ OpsCells w B g off ops)
theorem OpsCells.kept {S : Nat → Prop} {w w' : World} {B g off : Nat} {ops : List (Int × List Int)} (h : OpsCells w B g off ops) (hk : Kept S w w') (hB : B ≤ w.heap.size) (hS : ∀ k, k < B → ¬ S k) : OpsCells w' B g off ops := by
  obtain ⟨h1, h2⟩ := h
  refine ⟨h1, fun j hj => ?_⟩
  obtain ⟨pv, a, b, c⟩ := h2 j hj
  exact ⟨pv, (hk.cell (p := ⟨g, off + j * 2, none⟩) (Nat.lt_of_lt_of_le h1 hB) (hS g h1)).trans a, (hk.cell (p := ⟨g, off + j * 2 + 1, none⟩) (Nat.lt_of_lt_of_le h1 hB) (hS g h1)).trans b, c.kept hk hB hS⟩
/-- Calls, one behind the other. -/
def stepOps (W : Nat) (H : Int) : List (Int × List Int) → RS → RS
  | [], s => s
  | o :: t, s => stepOps W H t (stepOp W H o s)
def StepsOpOk (W : Nat) (H : Int) : List (Int × List Int) → RS → Prop
  | [], _ => True
  | o :: t, s => StepOk W H o s ∧ StepsOpOk W H t (stepOp W H o s)
theorem stepOps_append (W : Nat) (H : Int) : ∀ (l m : List (Int × List Int)) (s : RS), stepOps W H (l ++ m) s = stepOps W H m (stepOps W H l s)
  | [], _, _ => rfl
  | o :: t, m, s => by rw [List.cons_append, stepOps, stepOps_append W H t, stepOps]
theorem StepsOpOk_append (W : Nat) (H : Int) : ∀ (l m : List (Int × List Int)) (s : RS), StepsOpOk W H (l ++ m) s ↔ StepsOpOk W H l s ∧ StepsOpOk W H m (stepOps W H l s)
  | [], _, _ => by simp [StepsOpOk, stepOps]
  | o :: t, m, s => by rw [List.cons_append, StepsOpOk, StepsOpOk, StepsOpOk_append W H t, stepOps, and_assoc]
/-- A new path. -/
def startS (mode : Bool) (n : Nat) : RS := ⟨0, 0, 0, 0, zeroB mode n⟩
/-- What the mask functions return. -/
def MaskIs (w : World) (n : Nat) (m : List Int) (e : Ending) (w' : World) : Prop :=
  ∃ d, e = .returned (.slice (some ⟨d, 0, none⟩) n n) ∧ w.heap.size ≤ d ∧ Blk w' d 5 (byteCells m) ∧ Same w w'
/-- The mask of calls. -/
def maskR (mode : Bool) (W H : Nat) (ops : List (Int × List Int)) : List Int := maskOf (stepOps W H ops (startS mode (W * H))).B
def MaskROk (mode : Bool) (W H : Nat) (ops : List (Int × List Int)) : Prop := StepsOpOk W H ops (startS mode (W * H)) ∧ MaskOk (stepOps W H ops (startS mode (W * H))).B

theorem Dims.of {W H : Nat} {rest : List Value} (w1 : 1 ≤ W) (w2 : W ≤ 2000) (h1 : 1 ≤ H) (h2 : H ≤ 2000) (n : W * H ≤ 65536) (c : W * H + rest.length ≤ 65536) : Dims W H rest :=
  ⟨w1, w2, h1, h2, by omega, by omega⟩
theorem drop_cons {α : Type} {l : List α} {k : Nat} (h : k < l.length) : l.drop k = l[k] :: l.drop (k + 1) := List.drop_eq_getElem_cons h

/-- What holds in the loop over the calls, k of them done. -/
def LoopS (w : World) (b g W H : Nat) (o : Value) (rest : List Value) (ops : List (Int × List Int)) (s0 : RS) (D k : Nat) (wr : World) : Prop :=
  ∃ s, RasS wr b g W H o rest s ∧ StepsOpOk W H (ops.drop k) s ∧ stepOps W H (ops.drop k) s = stepOps W H ops s0 ∧ Kept (fun k => D ≤ k) w wr

-- BY PROGRAM (gen_masks.py)
theorem fresh_slot (mode : Bool) {w : World} {D b g W H : Nat} {fl : Bool} (hg : D ≤ g) (h : Fresh w b g (W * H) fl W H) (hn : W * H ≤ 65536 := by assumption) :
    ∃ f u cs, Blk w b 87 (rz f u fl W H 0 0 0 0) ∧ cs.length ≤ 65536 ∧ SlotM mode w D f u cs := by
  cases fl
  · cases mode
    · refine ⟨_, _, (List.replicate (W * H) (Value.int .u32 0)), h.1, by simpa using hn, .inr ⟨g, W * H, hg, by simp, ?_⟩⟩
      have := h.2
      rw [made_u] at this
      simpa [bufCells] using this
    · exact ⟨_, _, [], h.1, by simp, .inl ⟨rfl, rfl⟩⟩
  · cases mode
    · exact ⟨_, _, [], h.1, by simp, .inl ⟨rfl, rfl⟩⟩
    · refine ⟨_, _, (List.replicate (W * H) (Value.float .f32 0)), h.1, by simpa using hn, .inr ⟨g, W * H, hg, by simp, ?_⟩⟩
      have := h.2
      rw [made_f] at this
      simpa [fbufCells] using this
set_option maxHeartbeats 1000000 in
set_option maxRecDepth 100000 in
theorem maskBy_cons (mode : Bool) (W H : Nat) (ops : List (Int × List Int)) (gO off cap : Nat) (w : World) (w1 : 1 ≤ W) (w2 : W ≤ 2000) (h1 : 1 ≤ H) (h2 : H ≤ 2000) (hn : W * H ≤ 65536) (hn1 : 1 ≤ W * H)
    (hpos : 0 < ops.length) (hlen : ops.length ≤ 9223372036854775807) (hops : OpsCells w w.heap.size gO off ops) (hok : MaskROk (mode) W H ops) :
    Calls Try.prog 27 #[.bool mode, .int .i64 W, .int .i64 H, .slice (some ⟨gO, off, none⟩) ops.length cap] w (MaskIs w (W * H) (maskR (mode) W H ops)) := by
  obtain ⟨q1, q2⟩ := hok
  have Q1 := hid q1
  have Q2 := hid q2
  have HO := hid hops
  clear q1 q2 hops
  go_enter Try.func27, Try.ntmps27
  go_wp2_with fail
  refine (new_any (W * H) W H (by push_cast; rfl) hn1 hn w).mono ?_
  rintro e wn ⟨b, g, rfl, hb, hg, hf, hk⟩
  obtain ⟨fv, uv, cs, hb87, hcs, hslot⟩ := fresh_slot mode hg hf
  have HB := hid hb87
  have HS := hid hslot
  have HK := hid hk
  clear hb87 hslot hk hf
  go_wp2_with fail
  refine (zzuse_any mode b w.heap.size W H fv uv _ 0 0 0 0 cs hn1 hn hcs _ hb HK.out.size HB.out HS.out).mono ?_
  rintro e wu ⟨rfl, hready⟩
  obtain ⟨g', rest, hg', hrest, hR, hKu⟩ := hready
  have hdim : Dims W H rest := Dims.of w1 w2 h1 h2 hn hrest
  have HR := hid hR
  have HF := hid hdim
  have HKU := hid ((HK.out.mono (T := fun k => w.heap.size ≤ k) fun _ _ hf => hf.elim).trans hKu)
  clear hR hKu hdim HK HB HS
  obtain ⟨o, ho⟩ : ∃ o, o = other mode fv uv := ⟨_, rfl⟩
  rw [← ho] at HR
  go_wp2_with fail
  go_loopw [20] (fun i wr => ∃ k : Nat, k ≤ ops.length ∧ i = .int .i64 k ∧ LoopS w b g' W H o rest ops (startS (mode) (W * H)) w.heap.size k wr) (fun i _ => ops.length - (intOf i).toNat)
  case atStart => exact ⟨0, Nat.zero_le _, rfl, startS (mode) (W * H), HR.out, by simpa using Q1.out, by simp, HKU.out⟩
  case round =>
    obtain ⟨k, hk, rfl, s, r1, r2, r3, r4⟩ := hrel
    have hS : ∀ k, k < w.heap.size → ¬ w.heap.size ≤ k := fun _ h => by omega
    by_cases hlt : k < ops.length
    · have hoc := HO.out.kept r4 (Nat.le_refl _) hS
      obtain ⟨pv, c0, c1, c2⟩ := hoc.2 k hlt
      have r4s := r4.size
      have hgO : gO < wr.heap.size := Nat.lt_of_lt_of_le hoc.1 r4.size
      rw [drop_cons hlt] at r2 r3
      obtain ⟨r2a, r2b⟩ := r2
      rw [stepOps] at r3
      generalize ops[k] = op at c0 c2 r2a r2b r3
      obtain ⟨A, pcap, rfl, _, _⟩ := id c2
      have C2 := hid c2
      have R1 := hid r1
      have R2a := hid r2a
      have R2b := hid r2b
      have R3 := hid r3
      have R4 := hid r4
      clear c2 r1 r2a r2b r3 r4 hoc
      go_wp2_with fail
      refine (call_any b g' W H o rest s op (.slice A op.2.length pcap) w.heap.size _ HF.out (R1.out.same ((Kept.refl _ _).alloc _)) (C2.out.kept ((Kept.refl (fun _ => False) _).alloc _) r4s (fun _ _ hf => hf)) (by simp; omega) hb hg' R2a.out).mono ?_
      rintro e w2 ⟨rfl, t1, t2⟩
      have T1 := hid t1
      have T2 := hid t2
      clear t1 t2
      go_wp2_with fail
      go_roundw
      case measure => simp [intOf]; omega
      case rel => exact ⟨k + 1, by omega, by go_num, stepOp W H op s, T1.out, R2b.out, R3.out, (R4.out.trans ((Kept.refl _ _).alloc _)).trans (T2.out.mono fun k _ hk => by simp only [KS] at hk; omega)⟩
    · obtain rfl : k = ops.length := by omega
      rw [List.drop_of_length_le (Nat.le_refl _)] at r3
      have r3' : s = stepOps W H ops (startS (mode) (W * H)) := r3
      subst r3'
      have R1 := hid r1
      have R4 := hid r4
      clear r1 r2 r3 r4
      go_wp2_with fail
      refine (zzmask_any b g' W H o rest _ _ _ _ _ _ HF.out R1.out Q2.out).mono ?_
      rintro e w2 ⟨d, rfl, t1, t2, t3⟩
      have T2 := hid t2
      have T3 := hid t3
      clear t2 t3
      go_wp2_with fail
      go_ret
      have := R4.out.size
      exact ⟨d, rfl, by omega, T2.out, (R4.out.trans (Kept.of_same T3.out)).mono fun k hk hd => by omega⟩
set_option maxHeartbeats 1000000 in
set_option maxRecDepth 100000 in
theorem maskBy_nil (mode : Bool) (W H : Nat) (A : Option Addr) (cap : Nat) (w : World) (w1 : 1 ≤ W) (w2 : W ≤ 2000) (h1 : 1 ≤ H) (h2 : H ≤ 2000) (hn : W * H ≤ 65536) (hn1 : 1 ≤ W * H)
    (hok : MaskROk (mode) W H []) :
    Calls Try.prog 27 #[.bool mode, .int .i64 W, .int .i64 H, .slice A 0 cap] w (MaskIs w (W * H) (maskR (mode) W H [])) := by
  obtain ⟨q1, q2⟩ := hok
  have Q1 := hid q1
  have Q2 := hid q2
  clear q1 q2
  go_enter Try.func27, Try.ntmps27
  go_wp2_with fail
  refine (new_any (W * H) W H (by push_cast; rfl) hn1 hn w).mono ?_
  rintro e wn ⟨b, g, rfl, hb, hg, hf, hk⟩
  obtain ⟨fv, uv, cs, hb87, hcs, hslot⟩ := fresh_slot mode hg hf
  have HB := hid hb87
  have HS := hid hslot
  have HK := hid hk
  clear hb87 hslot hk hf
  go_wp2_with fail
  refine (zzuse_any mode b w.heap.size W H fv uv _ 0 0 0 0 cs hn1 hn hcs _ hb HK.out.size HB.out HS.out).mono ?_
  rintro e wu ⟨rfl, hready⟩
  obtain ⟨g', rest, hg', hrest, hR, hKu⟩ := hready
  have hdim : Dims W H rest := Dims.of w1 w2 h1 h2 hn hrest
  have HR := hid hR
  have HF := hid hdim
  have HKU := hid ((HK.out.mono (T := fun k => w.heap.size ≤ k) fun _ _ hf => hf.elim).trans hKu)
  clear hR hKu hdim HK HB HS
  obtain ⟨o, ho⟩ : ∃ o, o = other mode fv uv := ⟨_, rfl⟩
  rw [← ho] at HR
  go_wp2_with fail
  go_loopw [20] (fun i wr => ∃ k : Nat, k ≤ 0 ∧ i = .int .i64 k ∧ LoopS w b g' W H o rest [] (startS (mode) (W * H)) w.heap.size k wr) (fun i _ => 0 - (intOf i).toNat)
  case atStart => exact ⟨0, Nat.zero_le _, rfl, startS (mode) (W * H), HR.out, by simpa using Q1.out, by simp, HKU.out⟩
  case round =>
    obtain ⟨k, hk, rfl, s, r1, r2, r3, r4⟩ := hrel
    have hS : ∀ k, k < w.heap.size → ¬ w.heap.size ≤ k := fun _ h => by omega
    obtain rfl : k = 0 := by omega
    rw [List.drop_zero] at r3
    have r3' : s = stepOps W H [] (startS (mode) (W * H)) := r3
    subst r3'
    have R1 := hid r1
    have R4 := hid r4
    clear r1 r2 r3 r4
    go_wp2_with fail
    refine (zzmask_any b g' W H o rest _ _ _ _ _ _ HF.out R1.out Q2.out).mono ?_
    rintro e w2 ⟨d, rfl, t1, t2, t3⟩
    have T2 := hid t2
    have T3 := hid t3
    clear t2 t3
    go_wp2_with fail
    go_ret
    have := R4.out.size
    exact ⟨d, rfl, by omega, T2.out, (R4.out.trans (Kept.of_same T3.out)).mono fun k hk hd => by omega⟩
end Go.Proofs.Ytmgcbodlolnheaa

namespace Go.Proofs.Ytmgcbodlolnheaa
open Go.ChangeShapes Go.WideShapes Go.ChangeAt Go.RowKit
set_option linter.unusedVariables false

section
variable (W H : Nat) (ops : List (Int × List Int)) (v : Value) (w : World) (w1 : 1 ≤ W) (w2 : W ≤ 2000) (h1 : 1 ≤ H) (h2 : H ≤ 2000) (hn : W * H ≤ 65536)
include w1 w2 h1 h2 hn
theorem maskBy_any (mode : Bool) (hops : OpsAt w w.heap.size v ops) (hok : MaskROk mode W H ops) :
    Calls Try.prog 27 #[.bool mode, .int .i64 W, .int .i64 H, v] w (MaskIs w (W * H) (maskR mode W H ops)) := by
  obtain ⟨A, cap, rfl, hl, ha⟩ := hops
  have hn1 : 1 ≤ W * H := Nat.mul_pos w1 h1
  cases ops with
  | nil => exact maskBy_nil mode W H A cap w w1 w2 h1 h2 hn hn1 hok
  | cons a t =>
    obtain ⟨g, off, rfl, hc⟩ := ha (by simp)
    exact maskBy_cons mode W H (a :: t) g off cap w w1 w2 h1 h2 hn hn1 (by simp) hl hc hok
end

end Go.Proofs.Ytmgcbodlolnheaa
