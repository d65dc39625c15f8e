/-
  'setUseFloatingPointMath' where the buffer is there: it is cut to size and made zero.
-/
import Derived.Test.YtmgcbodlolnheaaZMask
namespace Go.Proofs.Ytmgcbodlolnheaa
open Go.ChangeShapes Go.WideShapes Go.ChangeAt Go.RowKit
set_option linter.unusedVariables false

/-- The first k cells made z. -/
def zeroed (z : Value) (k : Nat) (cs : List Value) : Array Value := (List.replicate k z ++ cs.drop k).toArray
theorem zeroed_zero (z : Value) (cs : List Value) : zeroed z 0 cs = cs.toArray := by simp [zeroed]
theorem zeroed_set {z : Value} {k : Nat} {cs : List Value} (h : k < cs.length) : (zeroed z k cs).setIfInBounds k z = zeroed z (k + 1) cs := by
  unfold zeroed
  apply Array.ext'
  simp only [Array.toList_setIfInBounds]
  rw [List.set_append_right _ _ (by simp), List.length_replicate, Nat.sub_self, List.drop_eq_getElem_cons h, List.set_cons_zero, List.replicate_succ', List.append_assoc]
  rfl
theorem zeroed_get {z : Value} {k : Nat} {cs : List Value} (h : k < cs.length) : (zeroed z k cs)[k]? = some cs[k] := by
  unfold zeroed
  rw [List.getElem?_toArray, List.getElem?_append_right (by simp), List.length_replicate, Nat.sub_self, List.drop_eq_getElem_cons h]
  rfl
theorem zeroed_f (n : Nat) (cs : List Value) : zeroed (.float .f32 0) n cs = fbufCells (List.replicate n 0) (cs.drop n) := by simp [zeroed, fbufCells]
theorem zeroed_u (n : Nat) (cs : List Value) : zeroed (.int .u32 0) n cs = bufCells (List.replicate n 0) (cs.drop n) := by simp [zeroed, bufCells]

set_option maxHeartbeats 1000000 in
set_option maxRecDepth 100000 in
theorem use_old_f (b g n c len0 : Nat) (W H : Int) (o : Value) (fl : Bool) (fx fy px py : Nat) (cs : List Value) (hn : W * H = n) (h1 : 1 ≤ n) (h2 : n ≤ 65536) (hc : cs.length = c) (hnc : n ≤ c) (hc2 : c ≤ 100000) (w : World)
    (hb : Blk w b 87 (rz (.slice (some ⟨g, 0, none⟩) len0 c) o fl W H fx fy px py)) (hg : Blk w g 72 cs.toArray) :
    Calls Try.prog 56 #[.pointer (some ⟨b, 0, none⟩), .bool true] w fun e w' => e = .returned (.tuple #[]) ∧
      Blk w' b 87 (rz (.slice (some ⟨g, 0, none⟩) n c) o true W H fx fy px py) ∧ Blk w' g 72 (fbufCells (List.replicate n 0) (cs.drop n)) ∧ Kept (KS b g) w w' := by
  obtain ⟨c0, c1, c2, c3, c4, c5, c6, c7, c8, c9⟩ := rz_cells hb
  have f0 := hb.frozen 0
  have f2 := hb.frozen 2
  have hne := hb.ne_ hg (by decide)
  have hN : (0:Int) < (n:Int) := by omega
  have hlc : (n : Int) ≤ (c : Int) := by omega
  have HB := hid hb
  have HG := hid hg
  have HC := hid hc
  clear hb hg c1 c5 c6 c7 c8 c9 hc
  go_enter Try.func56, Try.ntmps56
  go_wp2
  go_region
  go_wp2
  have hb2 : Blk ((w.setCell ⟨b, 2, none⟩ (.bool true)).setCell ⟨b, 0, none⟩ (.slice (some ⟨g, 0, none⟩) n c)).drew b 87 (rz (.slice (some ⟨g, 0, none⟩) n c) o true W H fx fy px py) := by
    have := ((HB.out.set_ 2 (.bool true)).set_ 0 (.slice (some ⟨g, 0, none⟩) n c)).drew
    simpa [rz] using this
  have hg2 : Blk ((w.setCell ⟨b, 2, none⟩ (.bool true)).setCell ⟨b, 0, none⟩ (.slice (some ⟨g, 0, none⟩) n c)).drew g 72 (zeroed (.float .f32 0) 0 cs) := by
    rw [zeroed_zero]
    exact ((HG.out.far (p := ⟨b, 2, none⟩) hne.symm _).far (p := ⟨b, 0, none⟩) hne.symm _).drew
  have HB2 := hid hb2
  have HG2 := hid hg2
  clear hb2 hg2
  go_loopw [53] (fun i wr => ∃ k : Nat, k ≤ n ∧ i = .int .i64 k ∧ Blk wr b 87 (rz (.slice (some ⟨g, 0, none⟩) n c) o true W H fx fy px py) ∧ Blk wr g 72 (zeroed (.float .f32 0) k cs) ∧ Kept (KS b g) w wr) (fun i _ => n - (intOf i).toNat)
  case atStart => exact ⟨0, Nat.zero_le _, rfl, HB2.out, HG2.out, (((Kept.refl _ _).set_in (.inl rfl)).set_in (.inl rfl)).drew⟩
  case round =>
    obtain ⟨k, hk, rfl, q1, q2, q3⟩ := hrel
    by_cases hlt : k < n
    · have d0 := (rz_cells q1).1
      have d1 : wr.cell? ⟨g, k, none⟩ = some (cs[k]'(by have := HC.out; omega)) := by rw [q2.cell, zeroed_get]
      have d2 := q2.frozen k
      go_wp2
      go_roundw
      case measure => simp [intOf]; omega
      case rel =>
        refine ⟨k + 1, by omega, by go_num, q1.far hne _, ?_, q3.set_in (.inr rfl)⟩
        rw [← zeroed_set (by have := HC.out; omega)]
        exact q2.set_ _ _
    · obtain rfl : k = n := by omega
      go_wp2
      go_end0
      exact ⟨rfl, q1, by rw [← zeroed_f]; exact q2, q3⟩
set_option maxHeartbeats 1000000 in
set_option maxRecDepth 100000 in
theorem use_old_u (b g n c len0 : Nat) (W H : Int) (o : Value) (fl : Bool) (fx fy px py : Nat) (cs : List Value) (hn : W * H = n) (h1 : 1 ≤ n) (h2 : n ≤ 65536) (hc : cs.length = c) (hnc : n ≤ c) (hc2 : c ≤ 100000) (w : World)
    (hb : Blk w b 87 (rz o (.slice (some ⟨g, 0, none⟩) len0 c) fl W H fx fy px py)) (hg : Blk w g 100 cs.toArray) :
    Calls Try.prog 56 #[.pointer (some ⟨b, 0, none⟩), .bool false] w fun e w' => e = .returned (.tuple #[]) ∧
      Blk w' b 87 (rz o (.slice (some ⟨g, 0, none⟩) n c) false W H fx fy px py) ∧ Blk w' g 100 (bufCells (List.replicate n 0) (cs.drop n)) ∧ Kept (KS b g) w w' := by
  obtain ⟨c0, c1, c2, c3, c4, c5, c6, c7, c8, c9⟩ := rz_cells hb
  have f1 := hb.frozen 1
  have f2 := hb.frozen 2
  have hne := hb.ne_ hg (by decide)
  have hN : (0:Int) < (n:Int) := by omega
  have hlc : (n : Int) ≤ (c : Int) := by omega
  have HB := hid hb
  have HG := hid hg
  have HC := hid hc
  clear hb hg c0 c5 c6 c7 c8 c9 hc
  go_enter Try.func56, Try.ntmps56
  go_wp2
  go_region
  go_wp2
  have hb2 : Blk ((w.setCell ⟨b, 2, none⟩ (.bool false)).setCell ⟨b, 1, none⟩ (.slice (some ⟨g, 0, none⟩) n c)).drew b 87 (rz o (.slice (some ⟨g, 0, none⟩) n c) false W H fx fy px py) := by
    have := ((HB.out.set_ 2 (.bool false)).set_ 1 (.slice (some ⟨g, 0, none⟩) n c)).drew
    simpa [rz] using this
  have hg2 : Blk ((w.setCell ⟨b, 2, none⟩ (.bool false)).setCell ⟨b, 1, none⟩ (.slice (some ⟨g, 0, none⟩) n c)).drew g 100 (zeroed (.int .u32 0) 0 cs) := by
    rw [zeroed_zero]
    exact ((HG.out.far (p := ⟨b, 2, none⟩) hne.symm _).far (p := ⟨b, 1, none⟩) hne.symm _).drew
  have HB2 := hid hb2
  have HG2 := hid hg2
  clear hb2 hg2
  go_loopw [100] (fun i wr => ∃ k : Nat, k ≤ n ∧ i = .int .i64 k ∧ Blk wr b 87 (rz o (.slice (some ⟨g, 0, none⟩) n c) false W H fx fy px py) ∧ Blk wr g 100 (zeroed (.int .u32 0) k cs) ∧ Kept (KS b g) w wr) (fun i _ => n - (intOf i).toNat)
  case atStart => exact ⟨0, Nat.zero_le _, rfl, HB2.out, HG2.out, (((Kept.refl _ _).set_in (.inl rfl)).set_in (.inl rfl)).drew⟩
  case round =>
    obtain ⟨k, hk, rfl, q1, q2, q3⟩ := hrel
    by_cases hlt : k < n
    · have d0 := (rz_cells q1).2.1
      have d1 : wr.cell? ⟨g, k, none⟩ = some (cs[k]'(by have := HC.out; omega)) := by rw [q2.cell, zeroed_get]
      have d2 := q2.frozen k
      go_wp2
      go_roundw
      case measure => simp [intOf]; omega
      case rel =>
        refine ⟨k + 1, by omega, by go_num, q1.far hne _, ?_, q3.set_in (.inr rfl)⟩
        rw [← zeroed_set (by have := HC.out; omega)]
        exact q2.set_ _ _
    · obtain rfl : k = n := by omega
      go_wp2
      go_end0
      exact ⟨rfl, q1, by rw [← zeroed_u]; exact q2, q3⟩
set_option maxRecDepth 100000 in
/-- 'setUseFloatingPointMath(true)' where that buffer is too short: it is made anew, of zeros. -/
theorem use_grow_f (b n len c : Nat) (A : Option Addr) (W H : Int) (o : Value) (fl : Bool) (fx fy px py : Nat) (hn : W * H = n) (h1 : 1 ≤ n) (h2 : n ≤ 65536) (hcn : c < n) (w : World)
   (hb : Blk w b 87 (rz (.slice A len c) o fl W H fx fy px py)) :
    Calls Try.prog 56 #[.pointer (some ⟨b, 0, none⟩), .bool true] w fun e w' => e = .returned (.tuple #[]) ∧
      ∃ g, w.heap.size ≤ g ∧ Blk w' b 87 (rz (.slice (some ⟨g, 0, none⟩) n n) o true W H fx fy px py) ∧ Blk w' g 72 (madeCells #[.float .f32 0] n) ∧ Kept (· = b) w w' := by
  obtain ⟨c0, c1, c2, c3, c4, c5, c6, c7, c8, c9⟩ := rz_cells hb
  have f0 := hb.frozen 0
  have f2 := hb.frozen 2
  have hmk := make_f32 n (by omega)
  have hlt := hb.lt
  have hN : (c:Int) < (n:Int) := by omega
  clear c1 c5 c6 c7 c8 c9
  have HB := hid hb
  clear hb
  go_enter Try.func56, Try.ntmps56
  go_wp2
  go_region
  go_wp2
  go_end0
  have hb := HB.out
  refine ⟨rfl, w.heap.size, Nat.le_refl _, ?_, ?_, ?_⟩
  · exact ((((hb.set_ 2 _).set_ 0 _).alloc _).drew)
  · have := Blk.new ((w.setCell ⟨b, 2, none⟩ (.bool true)).setCell ⟨b, 0, none⟩ (.slice (some ⟨w.heap.size, 0, none⟩) n n)) 72 (madeCells #[.float .f32 0] n)
    simpa using this.drew
  · exact ((((Kept.refl (· = b) w).setCell (.inr rfl) _).setCell (.inr rfl) _).alloc _).drew
set_option maxRecDepth 100000 in
/-- 'setUseFloatingPointMath(false)' where that buffer is too short: it is made anew, of zeros. -/
theorem use_grow_u (b n len c : Nat) (A : Option Addr) (W H : Int) (o : Value) (fl : Bool) (fx fy px py : Nat) (hn : W * H = n) (h1 : 1 ≤ n) (h2 : n ≤ 65536) (hcn : c < n) (w : World)
   (hb : Blk w b 87 (rz o (.slice A len c) fl W H fx fy px py)) :
    Calls Try.prog 56 #[.pointer (some ⟨b, 0, none⟩), .bool false] w fun e w' => e = .returned (.tuple #[]) ∧
      ∃ g, w.heap.size ≤ g ∧ Blk w' b 87 (rz o (.slice (some ⟨g, 0, none⟩) n n) false W H fx fy px py) ∧ Blk w' g 100 (madeCells #[.int .u32 0] n) ∧ Kept (· = b) w w' := by
  obtain ⟨c0, c1, c2, c3, c4, c5, c6, c7, c8, c9⟩ := rz_cells hb
  have f1 := hb.frozen 1
  have f2 := hb.frozen 2
  have hmk := make_u32 n (by omega)
  have hlt := hb.lt
  have hN : (c:Int) < (n:Int) := by omega
  clear c0 c5 c6 c7 c8 c9
  have HB := hid hb
  clear hb
  go_enter Try.func56, Try.ntmps56
  go_wp2
  go_region
  go_wp2
  go_end0
  have hb := HB.out
  refine ⟨rfl, w.heap.size, Nat.le_refl _, ?_, ?_, ?_⟩
  · exact ((((hb.set_ 2 _).set_ 1 _).alloc _).drew)
  · have := Blk.new ((w.setCell ⟨b, 2, none⟩ (.bool false)).setCell ⟨b, 1, none⟩ (.slice (some ⟨w.heap.size, 0, none⟩) n n)) 100 (madeCells #[.int .u32 0] n)
    simpa using this.drew
  · exact ((((Kept.refl (· = b) w).setCell (.inr rfl) _).setCell (.inr rfl) _).alloc _).drew

/-- What a buffer's field holds: nothing, or a buffer (from block D on). -/
def SlotAt (w : World) (D : Nat) (v : Value) (t : TypeId) (cs : List Value) : Prop :=
  (v = .slice none 0 0 ∧ cs = []) ∨ ∃ g len, D ≤ g ∧ v = .slice (some ⟨g, 0, none⟩) len cs.length ∧ Blk w g t cs.toArray
/-- A buffer of zeros. -/
def zeroB (fl : Bool) (n : Nat) : Buf := match fl with
  | true => .flo (List.replicate n 0)
  | false => .fix (List.replicate n 0)
theorem made_f (n : Nat) : madeCells #[.float .f32 0] n = fbufCells (List.replicate n 0) [] := by
  apply Array.ext'
  rw [toList_madeCells_one]
  simp [fbufCells]
theorem made_u (n : Nat) : madeCells #[.int .u32 0] n = bufCells (List.replicate n 0) [] := by
  apply Array.ext'
  rw [toList_madeCells_one]
  simp [bufCells]
/-- 'setUseFloatingPointMath', whatever was there. -/
theorem use_any (mode : Bool) (b D W H : Nat) (f u : Value) (fl : Bool) (fx fy px py : Nat) (cs : List Value) (h1 : 1 ≤ W * H) (h2 : W * H ≤ 65536) (hcs : cs.length ≤ 65536) (w : World) (hD : D ≤ b) (hDw : D ≤ w.heap.size)
    (hb : Blk w b 87 (rz f u fl W H fx fy px py)) (hs : SlotAt w D (if mode then f else u) (if mode then 72 else 100) cs) :
    Calls Try.prog 56 #[.pointer (some ⟨b, 0, none⟩), .bool mode] w fun e w' => e = .returned (.tuple #[]) ∧
      ∃ g rest, D ≤ g ∧ W * H + rest.length ≤ 65536 ∧ Ras w' b g W H (if mode then u else f) rest fx fy px py (zeroB mode (W * H)) ∧ Kept (fun k => D ≤ k) w w' := by
  have hn : (W : Int) * (H : Int) = ((W * H : Nat) : Int) := by push_cast; rfl
  cases mode
  · simp only [Bool.false_eq_true, ↓reduceIte] at hs ⊢
    rcases hs with ⟨rfl, rfl⟩ | ⟨g, len, hg, rfl, hblk⟩
    · refine (use_grow_u b (W * H) 0 0 none W H f fl fx fy px py hn h1 h2 (by omega) w hb).mono ?_
      rintro e w' ⟨rfl, g, hg, r1, r2, r3⟩
      exact ⟨rfl, g, [], by omega, by simpa using h2, ⟨r1, by rw [← made_u]; exact r2, by simp⟩, r3.mono fun k _ hk => by omega⟩
    · by_cases hc : W * H ≤ cs.length
      · refine (use_old_u b g (W * H) cs.length len W H f fl fx fy px py cs hn h1 h2 rfl hc (by omega) w hb hblk).mono ?_
        rintro e w' ⟨rfl, r1, r2, r3⟩
        refine ⟨rfl, g, cs.drop (W * H), hg, by simp; omega, ⟨?_, r2, by simp⟩, r3.mono fun k _ hk => by simp only [KS] at hk; omega⟩
        have e2 : W * H + (cs.drop (W * H)).length = cs.length := by simp; omega
        rw [e2]
        exact r1
      · refine (use_grow_u b (W * H) len cs.length (some ⟨g, 0, none⟩) W H f fl fx fy px py hn h1 h2 (by omega) w hb).mono ?_
        rintro e w' ⟨rfl, g, hg, r1, r2, r3⟩
        exact ⟨rfl, g, [], by omega, by simpa using h2, ⟨r1, by rw [← made_u]; exact r2, by simp⟩, r3.mono fun k _ hk => by omega⟩
  · simp only [↓reduceIte] at hs ⊢
    rcases hs with ⟨rfl, rfl⟩ | ⟨g, len, hg, rfl, hblk⟩
    · refine (use_grow_f b (W * H) 0 0 none W H u fl fx fy px py hn h1 h2 (by omega) w hb).mono ?_
      rintro e w' ⟨rfl, g, hg, r1, r2, r3⟩
      exact ⟨rfl, g, [], by omega, by simpa using h2, ⟨r1, by rw [← made_f]; exact r2, by simp⟩, r3.mono fun k _ hk => by omega⟩
    · by_cases hc : W * H ≤ cs.length
      · refine (use_old_f b g (W * H) cs.length len W H u fl fx fy px py cs hn h1 h2 rfl hc (by omega) w hb hblk).mono ?_
        rintro e w' ⟨rfl, r1, r2, r3⟩
        refine ⟨rfl, g, cs.drop (W * H), hg, by simp; omega, ⟨?_, r2, by simp⟩, r3.mono fun k _ hk => by simp only [KS] at hk; omega⟩
        have e2 : W * H + (cs.drop (W * H)).length = cs.length := by simp; omega
        rw [e2]
        exact r1
      · refine (use_grow_f b (W * H) len cs.length (some ⟨g, 0, none⟩) W H u fl fx fy px py hn h1 h2 (by omega) w hb).mono ?_
        rintro e w' ⟨rfl, g, hg, r1, r2, r3⟩
        exact ⟨rfl, g, [], by omega, by simpa using h2, ⟨r1, by rw [← made_f]; exact r2, by simp⟩, r3.mono fun k _ hk => by omega⟩

end Go.Proofs.Ytmgcbodlolnheaa
