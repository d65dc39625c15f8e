/- 'setUseFloatingPointMath' where the buffer is there: it is cut to size and made zero. 'ZZUse'; 'Reset' of a Rasterizer that has been used. 'impl.Mask', 'impl.MaskBy', 'impl.MaskAgain': contracts. 'impl.Mask', 'impl.MaskBy' for any calls; 'impl.MaskAgain'. 'laws.FnSizes' returns true for every input (no condition). Slices of points; 'laws.beyond', 'laws.within'. 'laws.path': the calls that make a -/
import Derived.Test.YtmgcbodlolnheaaZ05
import Derived.Test.YtmgcbodlolnheaaZ01
import Derived.Deep.Slices
import Derived.Test.YtmgcbodlolnheaaZ00
import Derived.Laws.BytesArg
namespace Go.Proofs.Ytmgcbodlolnheaa
open Go.ChangeShapes Go.WideShapes Go.ChangeAt Go.RowKit
set_option linter.unusedVariables false
def zeroed (z : Value) (k : Nat) (cs : List Value) : Array Value := (List.replicate k z ++ cs.drop k).toArray
theorem zeroed_zero (z : Value) (cs : List Value) : zeroed z 0 cs = cs.toArray := by simp [zeroed]
theorem zeroed_set {z : Value} {k : Nat} {cs : List Value} (h : k < cs.length) : (zeroed z k cs).setIfInBounds k z = zeroed z (k + 1) cs := by
 unfold zeroed
 apply Array.ext'
 simp only [Array.toList_setIfInBounds]
 rw [List.set_append_right _ _ (by simp), List.length_replicate, Nat.sub_self, List.drop_eq_getElem_cons h, List.set_cons_zero, List.replicate_succ', List.append_assoc]
 rfl
theorem zeroed_get {z : Value} {k : Nat} {cs : List Value} (h : k < cs.length) : (zeroed z k cs)[k]? = some cs[k] := by
 unfold zeroed
 rw [List.getElem?_toArray, List.getElem?_append_right (by simp), List.length_replicate, Nat.sub_self, List.drop_eq_getElem_cons h]
 rfl
theorem zeroed_f (n : Nat) (cs : List Value) : zeroed (.float .f32 0) n cs = fbufCells (List.replicate n 0) (cs.drop n) := by simp [zeroed, fbufCells]
theorem zeroed_u (n : Nat) (cs : List Value) : zeroed (.int .u32 0) n cs = bufCells (List.replicate n 0) (cs.drop n) := by simp [zeroed, bufCells]
set_option maxHeartbeats 1000000 in
set_option maxRecDepth 100000 in
theorem use_old_f (b g n c len0 : Nat) (W H : Int) (o : Value) (fl : Bool) (fx fy px py : Nat) (cs : List Value) (hn : W * H = n) (h1 : 1 <= n) (h2 : n <= 65536) (hc : cs.length = c) (hnc : n <= c) (hc2 : c <= 100000) (w : World)
  (hb : Blk w b 87 (rz (.slice (some ⟨g, 0, none⟩) len0 c) o fl W H fx fy px py)) (hg : Blk w g 72 cs.toArray) :
  Calls Try.prog 56 #[.pointer (some ⟨b, 0, none⟩), .bool true] w fun e w' => e = .returned (.tuple #[]) /\
   Blk w' b 87 (rz (.slice (some ⟨g, 0, none⟩) n c) o true W H fx fy px py) /\ Blk w' g 72 (fbufCells (List.replicate n 0) (cs.drop n)) /\ Kept (KS b g) w w' := by
 obtain ⟨c0, c1, c2, c3, c4, c5, c6, c7, c8, c9⟩ := rz_cells hb
 have f0 := hb.frozen 0
 have f2 := hb.frozen 2
 have hne := hb.ne_ hg (by decide)
 have hN : (0:Int) < (n:Int) := by omega
 have hlc : (n : Int) <= (c : Int) := by omega
 have HB := hid hb
 have HG := hid hg
 have HC := hid hc
 clear hb hg c1 c5 c6 c7 c8 c9 hc
 go_enter Try.func56, Try.ntmps56
 go_wp2
 go_region
 go_wp2
 have hb2 : Blk ((w.setCell ⟨b, 2, none⟩ (.bool true)).setCell ⟨b, 0, none⟩ (.slice (some ⟨g, 0, none⟩) n c)).drew b 87 (rz (.slice (some ⟨g, 0, none⟩) n c) o true W H fx fy px py) := by
  have := ((HB.out.set_ 2 (.bool true)).set_ 0 (.slice (some ⟨g, 0, none⟩) n c)).drew
  simpa [rz] using this
 have hg2 : Blk ((w.setCell ⟨b, 2, none⟩ (.bool true)).setCell ⟨b, 0, none⟩ (.slice (some ⟨g, 0, none⟩) n c)).drew g 72 (zeroed (.float .f32 0) 0 cs) := by
  rw [zeroed_zero]
  exact ((HG.out.far (p := ⟨b, 2, none⟩) hne.symm _).far (p := ⟨b, 0, none⟩) hne.symm _).drew
 have HB2 := hid hb2
 have HG2 := hid hg2
 clear hb2 hg2
 go_loopw [53] (fun i wr => ∃ k : Nat, k <= n /\ i = .int .i64 k /\ Blk wr b 87 (rz (.slice (some ⟨g, 0, none⟩) n c) o true W H fx fy px py) /\ Blk wr g 72 (zeroed (.float .f32 0) k cs) /\ Kept (KS b g) w wr) (fun i _ => n - (intOf i).toNat)
 case atStart => exact ⟨0, Nat.zero_le _, rfl, HB2.out, HG2.out, (((Kept.refl _ _).set_in (.inl rfl)).set_in (.inl rfl)).drew⟩
 case round =>
  obtain ⟨k, hk, rfl, q1, q2, q3⟩ := hrel
  by_cases hlt : k < n
  ·have d0 := (rz_cells q1).1
   have d1 : wr.cell? ⟨g, k, none⟩ = some (cs[k]'(by have := HC.out; omega)) := by rw [q2.cell, zeroed_get]
   have d2 := q2.frozen k
   go_wp2
   go_roundw
   case measure => simp [intOf]; omega
   case rel =>
    refine ⟨k + 1, by omega, by go_num, q1.far hne _, ?_, q3.set_in (.inr rfl)⟩
    rw [<- zeroed_set (by have := HC.out; omega)]
    exact q2.set_ _ _
  ·obtain rfl : k = n := by omega
   go_wp2
   go_end0
   exact ⟨rfl, q1, by rw [<- zeroed_f]; exact q2, q3⟩
set_option maxHeartbeats 1000000 in
set_option maxRecDepth 100000 in
theorem use_old_u (b g n c len0 : Nat) (W H : Int) (o : Value) (fl : Bool) (fx fy px py : Nat) (cs : List Value) (hn : W * H = n) (h1 : 1 <= n) (h2 : n <= 65536) (hc : cs.length = c) (hnc : n <= c) (hc2 : c <= 100000) (w : World)
  (hb : Blk w b 87 (rz o (.slice (some ⟨g, 0, none⟩) len0 c) fl W H fx fy px py)) (hg : Blk w g 100 cs.toArray) :
  Calls Try.prog 56 #[.pointer (some ⟨b, 0, none⟩), .bool false] w fun e w' => e = .returned (.tuple #[]) /\
   Blk w' b 87 (rz o (.slice (some ⟨g, 0, none⟩) n c) false W H fx fy px py) /\ Blk w' g 100 (bufCells (List.replicate n 0) (cs.drop n)) /\ Kept (KS b g) w w' := by
 obtain ⟨c0, c1, c2, c3, c4, c5, c6, c7, c8, c9⟩ := rz_cells hb
 have f1 := hb.frozen 1
 have f2 := hb.frozen 2
 have hne := hb.ne_ hg (by decide)
 have hN : (0:Int) < (n:Int) := by omega
 have hlc : (n : Int) <= (c : Int) := by omega
 have HB := hid hb
 have HG := hid hg
 have HC := hid hc
 clear hb hg c0 c5 c6 c7 c8 c9 hc
 go_enter Try.func56, Try.ntmps56
 go_wp2
 go_region
 go_wp2
 have hb2 : Blk ((w.setCell ⟨b, 2, none⟩ (.bool false)).setCell ⟨b, 1, none⟩ (.slice (some ⟨g, 0, none⟩) n c)).drew b 87 (rz o (.slice (some ⟨g, 0, none⟩) n c) false W H fx fy px py) := by
  have := ((HB.out.set_ 2 (.bool false)).set_ 1 (.slice (some ⟨g, 0, none⟩) n c)).drew
  simpa [rz] using this
 have hg2 : Blk ((w.setCell ⟨b, 2, none⟩ (.bool false)).setCell ⟨b, 1, none⟩ (.slice (some ⟨g, 0, none⟩) n c)).drew g 100 (zeroed (.int .u32 0) 0 cs) := by
  rw [zeroed_zero]
  exact ((HG.out.far (p := ⟨b, 2, none⟩) hne.symm _).far (p := ⟨b, 1, none⟩) hne.symm _).drew
 have HB2 := hid hb2
 have HG2 := hid hg2
 clear hb2 hg2
 go_loopw [100] (fun i wr => ∃ k : Nat, k <= n /\ i = .int .i64 k /\ Blk wr b 87 (rz o (.slice (some ⟨g, 0, none⟩) n c) false W H fx fy px py) /\ Blk wr g 100 (zeroed (.int .u32 0) k cs) /\ Kept (KS b g) w wr) (fun i _ => n - (intOf i).toNat)
 case atStart => exact ⟨0, Nat.zero_le _, rfl, HB2.out, HG2.out, (((Kept.refl _ _).set_in (.inl rfl)).set_in (.inl rfl)).drew⟩
 case round =>
  obtain ⟨k, hk, rfl, q1, q2, q3⟩ := hrel
  by_cases hlt : k < n
  ·have d0 := (rz_cells q1).2.1
   have d1 : wr.cell? ⟨g, k, none⟩ = some (cs[k]'(by have := HC.out; omega)) := by rw [q2.cell, zeroed_get]
   have d2 := q2.frozen k
   go_wp2
   go_roundw
   case measure => simp [intOf]; omega
   case rel =>
    refine ⟨k + 1, by omega, by go_num, q1.far hne _, ?_, q3.set_in (.inr rfl)⟩
    rw [<- zeroed_set (by have := HC.out; omega)]
    exact q2.set_ _ _
  ·obtain rfl : k = n := by omega
   go_wp2
   go_end0
   exact ⟨rfl, q1, by rw [<- zeroed_u]; exact q2, q3⟩
set_option maxRecDepth 100000 in
theorem use_grow_f (b n len c : Nat) (A : Option Addr) (W H : Int) (o : Value) (fl : Bool) (fx fy px py : Nat) (hn : W * H = n) (h1 : 1 <= n) (h2 : n <= 65536) (hcn : c < n) (w : World)
  (hb : Blk w b 87 (rz (.slice A len c) o fl W H fx fy px py)) :
  Calls Try.prog 56 #[.pointer (some ⟨b, 0, none⟩), .bool true] w fun e w' => e = .returned (.tuple #[]) /\
   ∃ g, w.heap.size <= g /\ Blk w' b 87 (rz (.slice (some ⟨g, 0, none⟩) n n) o true W H fx fy px py) /\ Blk w' g 72 (madeCells #[.float .f32 0] n) /\ Kept (· = b) w w' := by
 obtain ⟨c0, c1, c2, c3, c4, c5, c6, c7, c8, c9⟩ := rz_cells hb
 have f0 := hb.frozen 0
 have f2 := hb.frozen 2
 have hmk := make_f32 n (by omega)
 have hlt := hb.lt
 have hN : (c:Int) < (n:Int) := by omega
 clear c1 c5 c6 c7 c8 c9
 have HB := hid hb
 clear hb
 go_enter Try.func56, Try.ntmps56
 go_wp2
 go_region
 go_wp2
 go_end0
 have hb := HB.out
 refine ⟨rfl, w.heap.size, Nat.le_refl _, ?_, ?_, ?_⟩
 ·exact ((((hb.set_ 2 _).set_ 0 _).alloc _).drew)
 ·have := Blk.new ((w.setCell ⟨b, 2, none⟩ (.bool true)).setCell ⟨b, 0, none⟩ (.slice (some ⟨w.heap.size, 0, none⟩) n n)) 72 (madeCells #[.float .f32 0] n)
  simpa using this.drew
 ·exact ((((Kept.refl (· = b) w).setCell (.inr rfl) _).setCell (.inr rfl) _).alloc _).drew
set_option maxRecDepth 100000 in
theorem use_grow_u (b n len c : Nat) (A : Option Addr) (W H : Int) (o : Value) (fl : Bool) (fx fy px py : Nat) (hn : W * H = n) (h1 : 1 <= n) (h2 : n <= 65536) (hcn : c < n) (w : World)
  (hb : Blk w b 87 (rz o (.slice A len c) fl W H fx fy px py)) :
  Calls Try.prog 56 #[.pointer (some ⟨b, 0, none⟩), .bool false] w fun e w' => e = .returned (.tuple #[]) /\
   ∃ g, w.heap.size <= g /\ Blk w' b 87 (rz o (.slice (some ⟨g, 0, none⟩) n n) false W H fx fy px py) /\ Blk w' g 100 (madeCells #[.int .u32 0] n) /\ Kept (· = b) w w' := by
 obtain ⟨c0, c1, c2, c3, c4, c5, c6, c7, c8, c9⟩ := rz_cells hb
 have f1 := hb.frozen 1
 have f2 := hb.frozen 2
 have hmk := make_u32 n (by omega)
 have hlt := hb.lt
 have hN : (c:Int) < (n:Int) := by omega
 clear c0 c5 c6 c7 c8 c9
 have HB := hid hb
 clear hb
 go_enter Try.func56, Try.ntmps56
 go_wp2
 go_region
 go_wp2
 go_end0
 have hb := HB.out
 refine ⟨rfl, w.heap.size, Nat.le_refl _, ?_, ?_, ?_⟩
 ·exact ((((hb.set_ 2 _).set_ 1 _).alloc _).drew)
 ·have := Blk.new ((w.setCell ⟨b, 2, none⟩ (.bool false)).setCell ⟨b, 1, none⟩ (.slice (some ⟨w.heap.size, 0, none⟩) n n)) 100 (madeCells #[.int .u32 0] n)
  simpa using this.drew
 ·exact ((((Kept.refl (· = b) w).setCell (.inr rfl) _).setCell (.inr rfl) _).alloc _).drew
def SlotAt (w : World) (D : Nat) (v : Value) (t : TypeId) (cs : List Value) : Prop :=
 (v = .slice none 0 0 /\ cs = []) ∨ ∃ g len, D <= g /\ v = .slice (some ⟨g, 0, none⟩) len cs.length /\ Blk w g t cs.toArray
def zeroB (fl : Bool) (n : Nat) : Buf := match fl with
 | true => .flo (List.replicate n 0)
 | false => .fix (List.replicate n 0)
theorem len_zeroB (fl : Bool) (n : Nat) : (zeroB fl n).len = n := by cases fl <;> simp [zeroB, Buf.len]
theorem made_f (n : Nat) : madeCells #[.float .f32 0] n = fbufCells (List.replicate n 0) [] := by
 apply Array.ext'
 rw [toList_madeCells_one]
 simp [fbufCells]
theorem made_u (n : Nat) : madeCells #[.int .u32 0] n = bufCells (List.replicate n 0) [] := by
 apply Array.ext'
 rw [toList_madeCells_one]
 simp [bufCells]
theorem use_any (mode : Bool) (b D W H : Nat) (f u : Value) (fl : Bool) (fx fy px py : Nat) (cs : List Value) (h1 : 1 <= W * H) (h2 : W * H <= 65536) (hcs : cs.length <= 65536) (w : World) (hD : D <= b) (hDw : D <= w.heap.size)
  (hb : Blk w b 87 (rz f u fl W H fx fy px py)) (hs : SlotAt w D (if mode then f else u) (if mode then 72 else 100) cs) :
  Calls Try.prog 56 #[.pointer (some ⟨b, 0, none⟩), .bool mode] w fun e w' => e = .returned (.tuple #[]) /\
   ∃ g rest, D <= g /\ W * H + rest.length <= 65536 /\ Ras w' b g W H (if mode then u else f) rest fx fy px py (zeroB mode (W * H)) /\ Kept (fun k => D <= k) w w' := by
 have hn : (W : Int) * (H : Int) = ((W * H : Nat) : Int) := by push_cast; rfl
 cases mode
 ·simp only [Bool.false_eq_true, ↓reduceIte] at hs ⊢
  rcases hs with ⟨rfl, rfl⟩ | ⟨g, len, hg, rfl, hblk⟩
  ·refine (use_grow_u b (W * H) 0 0 none W H f fl fx fy px py hn h1 h2 (by omega) w hb).mono ?_
   rintro e w' ⟨rfl, g, hg, r1, r2, r3⟩
   exact ⟨rfl, g, [], by omega, by simpa using h2, ⟨r1, by rw [<- made_u]; exact r2, by simp⟩, r3.mono fun k _ hk => by omega⟩
  ·by_cases hc : W * H <= cs.length
   ·refine (use_old_u b g (W * H) cs.length len W H f fl fx fy px py cs hn h1 h2 rfl hc (by omega) w hb hblk).mono ?_
    rintro e w' ⟨rfl, r1, r2, r3⟩
    refine ⟨rfl, g, cs.drop (W * H), hg, by simp; omega, ⟨?_, r2, by simp⟩, r3.mono fun k _ hk => by simp only [KS] at hk; omega⟩
    have e2 : W * H + (cs.drop (W * H)).length = cs.length := by simp; omega
    rw [e2]
    exact r1
   ·refine (use_grow_u b (W * H) len cs.length (some ⟨g, 0, none⟩) W H f fl fx fy px py hn h1 h2 (by omega) w hb).mono ?_
    rintro e w' ⟨rfl, g, hg, r1, r2, r3⟩
    exact ⟨rfl, g, [], by omega, by simpa using h2, ⟨r1, by rw [<- made_u]; exact r2, by simp⟩, r3.mono fun k _ hk => by omega⟩
 ·simp only [↓reduceIte] at hs ⊢
  rcases hs with ⟨rfl, rfl⟩ | ⟨g, len, hg, rfl, hblk⟩
  ·refine (use_grow_f b (W * H) 0 0 none W H u fl fx fy px py hn h1 h2 (by omega) w hb).mono ?_
   rintro e w' ⟨rfl, g, hg, r1, r2, r3⟩
   exact ⟨rfl, g, [], by omega, by simpa using h2, ⟨r1, by rw [<- made_f]; exact r2, by simp⟩, r3.mono fun k _ hk => by omega⟩
  ·by_cases hc : W * H <= cs.length
   ·refine (use_old_f b g (W * H) cs.length len W H u fl fx fy px py cs hn h1 h2 rfl hc (by omega) w hb hblk).mono ?_
    rintro e w' ⟨rfl, r1, r2, r3⟩
    refine ⟨rfl, g, cs.drop (W * H), hg, by simp; omega, ⟨?_, r2, by simp⟩, r3.mono fun k _ hk => by simp only [KS] at hk; omega⟩
    have e2 : W * H + (cs.drop (W * H)).length = cs.length := by simp; omega
    rw [e2]
    exact r1
   ·refine (use_grow_f b (W * H) len cs.length (some ⟨g, 0, none⟩) W H u fl fx fy px py hn h1 h2 (by omega) w hb).mono ?_
    rintro e w' ⟨rfl, g, hg, r1, r2, r3⟩
    exact ⟨rfl, g, [], by omega, by simpa using h2, ⟨r1, by rw [<- made_f]; exact r2, by simp⟩, r3.mono fun k _ hk => by omega⟩
def Ready (mode : Bool) (b D W H : Nat) (o : Value) (fx fy px py : Nat) (w w' : World) : Prop :=
 ∃ g rest, D <= g /\ W * H + rest.length <= 65536 /\ Ras w' b g W H o rest fx fy px py (zeroB mode (W * H)) /\ Kept (fun k => D <= k) w w'
def other (mode : Bool) (f u : Value) : Value := if mode then u else f
def SlotM (mode : Bool) (w : World) (D : Nat) (f u : Value) (cs : List Value) : Prop := SlotAt w D (if mode then f else u) (if mode then 72 else 100) cs
theorem use_all (mode : Bool) (b D W H : Nat) (f u : Value) (fl : Bool) (fx fy px py : Nat) (cs : List Value) (h1 : 1 <= W * H) (h2 : W * H <= 65536) (hcs : cs.length <= 65536) (w : World) (hD : D <= b) (hDw : D <= w.heap.size)
  (hb : Blk w b 87 (rz f u fl W H fx fy px py)) (hs : SlotM mode w D f u cs) :
  Calls Try.prog 56 #[.pointer (some ⟨b, 0, none⟩), .bool mode] w fun e w' => e = .returned (.tuple #[]) /\ Ready mode b D W H (other mode f u) fx fy px py w w' :=
 use_any mode b D W H f u fl fx fy px py cs h1 h2 hcs w hD hDw hb hs
theorem zzuse_any (mode : Bool) (b D W H : Nat) (f u : Value) (fl : Bool) (fx fy px py : Nat) (cs : List Value) (h1 : 1 <= W * H) (h2 : W * H <= 65536) (hcs : cs.length <= 65536) (w : World) (hD : D <= b) (hDw : D <= w.heap.size)
  (hb : Blk w b 87 (rz f u fl W H fx fy px py)) (hs : SlotM mode w D f u cs) :
  Calls Try.prog 44 #[.pointer (some ⟨b, 0, none⟩), .bool mode] w fun e w' => e = .returned (.tuple #[]) /\ Ready mode b D W H (other mode f u) fx fy px py w w' := by
 have HU := hid (use_all mode b D W H f u fl fx fy px py cs h1 h2 hcs w hD hDw hb hs)
 clear hb hs h1 h2 hcs
 go_enter Try.func44, Try.ntmps44
 go_wp2_with fail
 refine HU.out.mono ?_
 rintro e w' ⟨rfl, hx⟩
 have HX := hid hx
 clear hx
 go_wp2_with fail
 go_end0
 exact ⟨rfl, HX.out⟩
section
variable (b D W H : Nat) (f u : Value) (fl : Bool) (W0 H0 : Int) (fx fy px py : Nat) (cs : List Value) (w : World)
end
def OpsCells (w : World) (B g off : Nat) (ops : List (Int × List Int)) : Prop :=
 g < B /\ ∀ j, (h : j < ops.length) -> ∃ pv, w.cell? ⟨g, off + j * 2, none⟩ = some (.int .i64 (ops[j]).1) /\ w.cell? ⟨g, off + j * 2 + 1, none⟩ = some pv /\ IntsAt w B pv (ops[j]).2
def OpsAt (w : World) (B : Nat) (v : Value) (ops : List (Int × List Int)) : Prop :=
 ∃ (A : Option Addr) (cap : Nat), v = .slice A ops.length cap /\ ops.length <= 9223372036854775807 /\ (0 < ops.length -> ∃ g off, A = some ⟨g, off, none⟩ /\ OpsCells w B g off ops)
theorem OpsCells.kept {S : Nat -> Prop} {w w' : World} {B g off : Nat} {ops : List (Int × List Int)} (h : OpsCells w B g off ops) (hk : Kept S w w') (hB : B <= w.heap.size) (hS : ∀ k, k < B -> ¬ S k) : OpsCells w' B g off ops := by
 obtain ⟨h1, h2⟩ := h
 refine ⟨h1, fun j hj => ?_⟩
 obtain ⟨pv, a, b, c⟩ := h2 j hj
 exact ⟨pv, (hk.cell (p := ⟨g, off + j * 2, none⟩) (Nat.lt_of_lt_of_le h1 hB) (hS g h1)).trans a, (hk.cell (p := ⟨g, off + j * 2 + 1, none⟩) (Nat.lt_of_lt_of_le h1 hB) (hS g h1)).trans b, c.kept hk hB hS⟩
def stepOps (W : Nat) (H : Int) : List (Int × List Int) -> RS -> RS
 | [], s => s
 | o :: t, s => stepOps W H t (stepOp W H o s)
def StepsOpOk (W : Nat) (H : Int) : List (Int × List Int) -> RS -> Prop
 | [], _ => True
 | o :: t, s => StepOk W H o s /\ StepsOpOk W H t (stepOp W H o s)
theorem stepOps_append (W : Nat) (H : Int) : ∀ (l m : List (Int × List Int)) (s : RS), stepOps W H (l ++ m) s = stepOps W H m (stepOps W H l s)
 | [], _, _ => rfl
 | o :: t, m, s => by rw [List.cons_append, stepOps, stepOps_append W H t, stepOps]
theorem StepsOpOk_append (W : Nat) (H : Int) : ∀ (l m : List (Int × List Int)) (s : RS), StepsOpOk W H (l ++ m) s ↔ StepsOpOk W H l s /\ StepsOpOk W H m (stepOps W H l s)
 | [], _, _ => by simp [StepsOpOk, stepOps]
 | o :: t, m, s => by rw [List.cons_append, StepsOpOk, StepsOpOk, StepsOpOk_append W H t, stepOps, and_assoc]
def startS (mode : Bool) (n : Nat) : RS := ⟨0, 0, 0, 0, zeroB mode n⟩
def MaskIs (w : World) (n : Nat) (m : List Int) (e : Ending) (w' : World) : Prop :=
 ∃ d, e = .returned (.slice (some ⟨d, 0, none⟩) n n) /\ w.heap.size <= d /\ Blk w' d 5 (byteCells m) /\ Same w w'
def maskR (mode : Bool) (W H : Nat) (ops : List (Int × List Int)) : List Int := maskOf (stepOps W H ops (startS mode (W * H))).B
def MaskROk (mode : Bool) (W H : Nat) (ops : List (Int × List Int)) : Prop := StepsOpOk W H ops (startS mode (W * H)) /\ MaskOk (stepOps W H ops (startS mode (W * H))).B
theorem Dims.of {W H : Nat} {rest : List Value} (w1 : 1 <= W) (w2 : W <= 2000) (h1 : 1 <= H) (h2 : H <= 2000) (n : W * H <= 65536) (c : W * H + rest.length <= 65536) : Dims W H rest :=
 ⟨w1, w2, h1, h2, by omega, by omega⟩
theorem drop_cons {α : Type} {l : List α} {k : Nat} (h : k < l.length) : l.drop k = l[k] :: l.drop (k + 1) := List.drop_eq_getElem_cons h
def LoopS (w : World) (b g W H : Nat) (o : Value) (rest : List Value) (ops : List (Int × List Int)) (s0 : RS) (D k : Nat) (wr : World) : Prop :=
 ∃ s, RasS wr b g W H o rest s /\ StepsOpOk W H (ops.drop k) s /\ stepOps W H (ops.drop k) s = stepOps W H ops s0 /\ Kept (fun k => D <= k) w wr
theorem fresh_slot (mode : Bool) {w : World} {D b g W H : Nat} {fl : Bool} (hg : D <= g) (h : Fresh w b g (W * H) fl W H) (hn : W * H <= 65536 := by assumption) :
  ∃ f u cs, Blk w b 87 (rz f u fl W H 0 0 0 0) /\ cs.length <= 65536 /\ SlotM mode w D f u cs := by
 cases fl
 ·cases mode
  ·refine ⟨_, _, (List.replicate (W * H) (Value.int .u32 0)), h.1, by simpa using hn, .inr ⟨g, W * H, hg, by simp, ?_⟩⟩
   have := h.2
   rw [made_u] at this
   simpa [bufCells] using this
  ·exact ⟨_, _, [], h.1, by simp, .inl ⟨rfl, rfl⟩⟩
 ·cases mode
  ·exact ⟨_, _, [], h.1, by simp, .inl ⟨rfl, rfl⟩⟩
  ·refine ⟨_, _, (List.replicate (W * H) (Value.float .f32 0)), h.1, by simpa using hn, .inr ⟨g, W * H, hg, by simp, ?_⟩⟩
   have := h.2
   rw [made_f] at this
   simpa [fbufCells] using this
set_option maxHeartbeats 1000000 in
set_option maxRecDepth 100000 in
theorem maskBy_cons (mode : Bool) (W H : Nat) (ops : List (Int × List Int)) (gO off cap : Nat) (w : World) (w1 : 1 <= W) (w2 : W <= 2000) (h1 : 1 <= H) (h2 : H <= 2000) (hn : W * H <= 65536) (hn1 : 1 <= W * H)
  (hpos : 0 < ops.length) (hlen : ops.length <= 9223372036854775807) (hops : OpsCells w w.heap.size gO off ops) (hok : MaskROk (mode) W H ops) :
  Calls Try.prog 27 #[.bool mode, .int .i64 W, .int .i64 H, .slice (some ⟨gO, off, none⟩) ops.length cap] w (MaskIs w (W * H) (maskR (mode) W H ops)) := by
 obtain ⟨q1, q2⟩ := hok
 have Q1 := hid q1
 have Q2 := hid q2
 have HO := hid hops
 clear q1 q2 hops
 go_enter Try.func27, Try.ntmps27
 go_wp2_with fail
 refine (new_any (W * H) W H (by push_cast; rfl) hn1 hn w).mono ?_
 rintro e wn ⟨b, g, rfl, hb, hg, hf, hk⟩
 obtain ⟨fv, uv, cs, hb87, hcs, hslot⟩ := fresh_slot mode hg hf
 have HB := hid hb87
 have HS := hid hslot
 have HK := hid hk
 clear hb87 hslot hk hf
 go_wp2_with fail
 refine (zzuse_any mode b w.heap.size W H fv uv _ 0 0 0 0 cs hn1 hn hcs _ hb HK.out.size HB.out HS.out).mono ?_
 rintro e wu ⟨rfl, hready⟩
 obtain ⟨g', rest, hg', hrest, hR, hKu⟩ := hready
 have hdim : Dims W H rest := Dims.of w1 w2 h1 h2 hn hrest
 have HR := hid hR
 have HF := hid hdim
 have HKU := hid ((HK.out.mono (T := fun k => w.heap.size <= k) fun _ _ hf => hf.elim).trans hKu)
 clear hR hKu hdim HK HB HS
 obtain ⟨o, ho⟩ : ∃ o, o = other mode fv uv := ⟨_, rfl⟩
 rw [<- ho] at HR
 go_wp2_with fail
 go_loopw [20] (fun i wr => ∃ k : Nat, k <= ops.length /\ i = .int .i64 k /\ LoopS w b g' W H o rest ops (startS (mode) (W * H)) w.heap.size k wr) (fun i _ => ops.length - (intOf i).toNat)
 case atStart => exact ⟨0, Nat.zero_le _, rfl, startS (mode) (W * H), HR.out, by simpa using Q1.out, by simp, HKU.out⟩
 case round =>
  obtain ⟨k, hk, rfl, s, r1, r2, r3, r4⟩ := hrel
  have hS : ∀ k, k < w.heap.size -> ¬ w.heap.size <= k := fun _ h => by omega
  by_cases hlt : k < ops.length
  ·have hoc := HO.out.kept r4 (Nat.le_refl _) hS
   obtain ⟨pv, c0, c1, c2⟩ := hoc.2 k hlt
   have r4s := r4.size
   have hgO : gO < wr.heap.size := Nat.lt_of_lt_of_le hoc.1 r4.size
   rw [drop_cons hlt] at r2 r3
   obtain ⟨r2a, r2b⟩ := r2
   rw [stepOps] at r3
   generalize ops[k] = op at c0 c2 r2a r2b r3
   obtain ⟨A, pcap, rfl, _, _⟩ := id c2
   have C2 := hid c2
   have R1 := hid r1
   have R2a := hid r2a
   have R2b := hid r2b
   have R3 := hid r3
   have R4 := hid r4
   clear c2 r1 r2a r2b r3 r4 hoc
   go_wp2_with fail
   refine (call_any b g' W H o rest s op (.slice A op.2.length pcap) w.heap.size _ HF.out (R1.out.same ((Kept.refl _ _).alloc _)) (C2.out.kept ((Kept.refl (fun _ => False) _).alloc _) r4s (fun _ _ hf => hf)) (by simp; omega) hb hg' R2a.out).mono ?_
   rintro e w2 ⟨rfl, t1, t2⟩
   have T1 := hid t1
   have T2 := hid t2
   clear t1 t2
   go_wp2_with fail
   go_roundw
   case measure => simp [intOf]; omega
   case rel => exact ⟨k + 1, by omega, by go_num, stepOp W H op s, T1.out, R2b.out, R3.out, (R4.out.trans ((Kept.refl _ _).alloc _)).trans (T2.out.mono fun k _ hk => by simp only [KS] at hk; omega)⟩
  ·obtain rfl : k = ops.length := by omega
   rw [List.drop_of_length_le (Nat.le_refl _)] at r3
   have r3' : s = stepOps W H ops (startS (mode) (W * H)) := r3
   subst r3'
   have R1 := hid r1
   have R4 := hid r4
   clear r1 r2 r3 r4
   go_wp2_with fail
   refine (zzmask_any b g' W H o rest _ _ _ _ _ _ HF.out R1.out Q2.out).mono ?_
   rintro e w2 ⟨d, rfl, t1, t2, t3⟩
   have T2 := hid t2
   have T3 := hid t3
   clear t2 t3
   go_wp2_with fail
   go_ret
   have := R4.out.size
   exact ⟨d, rfl, by omega, T2.out, (R4.out.trans (Kept.of_same T3.out)).mono fun k hk hd => by omega⟩
set_option maxHeartbeats 1000000 in
set_option maxRecDepth 100000 in
theorem maskBy_nil (mode : Bool) (W H : Nat) (A : Option Addr) (cap : Nat) (w : World) (w1 : 1 <= W) (w2 : W <= 2000) (h1 : 1 <= H) (h2 : H <= 2000) (hn : W * H <= 65536) (hn1 : 1 <= W * H)
  (hok : MaskROk (mode) W H []) :
  Calls Try.prog 27 #[.bool mode, .int .i64 W, .int .i64 H, .slice A 0 cap] w (MaskIs w (W * H) (maskR (mode) W H [])) := by
 obtain ⟨q1, q2⟩ := hok
 have Q1 := hid q1
 have Q2 := hid q2
 clear q1 q2
 go_enter Try.func27, Try.ntmps27
 go_wp2_with fail
 refine (new_any (W * H) W H (by push_cast; rfl) hn1 hn w).mono ?_
 rintro e wn ⟨b, g, rfl, hb, hg, hf, hk⟩
 obtain ⟨fv, uv, cs, hb87, hcs, hslot⟩ := fresh_slot mode hg hf
 have HB := hid hb87
 have HS := hid hslot
 have HK := hid hk
 clear hb87 hslot hk hf
 go_wp2_with fail
 refine (zzuse_any mode b w.heap.size W H fv uv _ 0 0 0 0 cs hn1 hn hcs _ hb HK.out.size HB.out HS.out).mono ?_
 rintro e wu ⟨rfl, hready⟩
 obtain ⟨g', rest, hg', hrest, hR, hKu⟩ := hready
 have hdim : Dims W H rest := Dims.of w1 w2 h1 h2 hn hrest
 have HR := hid hR
 have HF := hid hdim
 have HKU := hid ((HK.out.mono (T := fun k => w.heap.size <= k) fun _ _ hf => hf.elim).trans hKu)
 clear hR hKu hdim HK HB HS
 obtain ⟨o, ho⟩ : ∃ o, o = other mode fv uv := ⟨_, rfl⟩
 rw [<- ho] at HR
 go_wp2_with fail
 go_loopw [20] (fun i wr => ∃ k : Nat, k <= 0 /\ i = .int .i64 k /\ LoopS w b g' W H o rest [] (startS (mode) (W * H)) w.heap.size k wr) (fun i _ => 0 - (intOf i).toNat)
 case atStart => exact ⟨0, Nat.zero_le _, rfl, startS (mode) (W * H), HR.out, by simpa using Q1.out, by simp, HKU.out⟩
 case round =>
  obtain ⟨k, hk, rfl, s, r1, r2, r3, r4⟩ := hrel
  have hS : ∀ k, k < w.heap.size -> ¬ w.heap.size <= k := fun _ h => by omega
  obtain rfl : k = 0 := by omega
  rw [List.drop_zero] at r3
  have r3' : s = stepOps W H [] (startS (mode) (W * H)) := r3
  subst r3'
  have R1 := hid r1
  have R4 := hid r4
  clear r1 r2 r3 r4
  go_wp2_with fail
  refine (zzmask_any b g' W H o rest _ _ _ _ _ _ HF.out R1.out Q2.out).mono ?_
  rintro e w2 ⟨d, rfl, t1, t2, t3⟩
  have T2 := hid t2
  have T3 := hid t3
  clear t2 t3
  go_wp2_with fail
  go_ret
  have := R4.out.size
  exact ⟨d, rfl, by omega, T2.out, (R4.out.trans (Kept.of_same T3.out)).mono fun k hk hd => by omega⟩
section
variable (W H : Nat) (ops : List (Int × List Int)) (v : Value) (w : World) (w1 : 1 <= W) (w2 : W <= 2000) (h1 : 1 <= H) (h2 : H <= 2000) (hn : W * H <= 65536)
include w1 w2 h1 h2 hn
theorem maskBy_any (mode : Bool) (hops : OpsAt w w.heap.size v ops) (hok : MaskROk mode W H ops) :
  Calls Try.prog 27 #[.bool mode, .int .i64 W, .int .i64 H, v] w (MaskIs w (W * H) (maskR mode W H ops)) := by
 obtain ⟨A, cap, rfl, hl, ha⟩ := hops
 have hn1 : 1 <= W * H := Nat.mul_pos w1 h1
 cases ops with
 | nil => exact maskBy_nil mode W H A cap w w1 w2 h1 h2 hn hn1 hok
 | cons a t =>
  obtain ⟨g, off, rfl, hc⟩ := ha (by simp)
  exact maskBy_cons mode W H (a :: t) g off cap w w1 w2 h1 h2 hn hn1 (by simp) hl hc hok
end
end Go.Proofs.Ytmgcbodlolnheaa
namespace Go.Proofs.Ytmgcbodlolnheaa
open Go.ChangeShapes Go.WideShapes Go.ChangeAt Go.RowKit
def sizedB (W H : Int) : Bool := decide (1 <= W /\ W <= 2000 /\ 1 <= H /\ H <= 2000 /\ W * H <= 65536)
theorem sizedB_iff {W H : Int} : sizedB W H = true ↔ (1 <= W /\ W <= 2000 /\ 1 <= H /\ H <= 2000 /\ W * H <= 65536) := by simp [sizedB]
theorem mul_le_big {W H : Int} (a : 0 <= W) (a' : W <= 2000) (b : 0 <= H) (b' : H <= 2000) : 0 <= W * H /\ W * H <= 4000000 :=
 ⟨Int.mul_nonneg a b, by have := Int.mul_le_mul a' b' b (by omega); omega⟩
theorem sized_any (W H : Int) (w : World) :
  Calls Try.prog 15 #[.int .i64 W, .int .i64 H] w fun e w' => e = .returned (.bool (sizedB W H)) /\ w = w' := by
 by_cases h0 : 1 <= W
 ·by_cases h1 : W <= 2000
  ·by_cases h2 : 1 <= H
   ·by_cases h3 : H <= 2000
    ·have hm := mul_le_big (W := W) (H := H) (by omega) h1 (by omega) h3
     obtain ⟨hm0, hm1⟩ := hm
     have e : sizedB W H = decide (W * H <= 65536) := by simp [sizedB, h0, h1, h2, h3]
     rw [e]
     clear e
     go_enter Try.func15, Try.ntmps15
     go_wp2
     go_ret
     exact ⟨rfl, rfl⟩
    ·have e : sizedB W H = false := by simp [sizedB, h3]
     have g : decide (H <= 2000) = false := by simpa using h3
     rw [e]
     clear e
     go_enter Try.func15, Try.ntmps15
     go_wp2
     go_ret
     exact ⟨rfl, rfl⟩
   ·have e : sizedB W H = false := by simp [sizedB, h2]
    have g : decide (1 <= H) = false := by simpa using h2
    rw [e]
    clear e
    go_enter Try.func15, Try.ntmps15
    go_wp2
    go_ret
    exact ⟨rfl, rfl⟩
  ·have e : sizedB W H = false := by simp [sizedB, h1]
   have g : decide (W <= 2000) = false := by simpa using h1
   rw [e]
   clear e
   go_enter Try.func15, Try.ntmps15
   go_wp2
   go_ret
   exact ⟨rfl, rfl⟩
 ·have e : sizedB W H = false := by simp [sizedB, h0]
  have g : decide (1 <= W) = false := by simpa using h0
  rw [e]
  clear e
  go_enter Try.func15, Try.ntmps15
  go_wp2
  go_ret
  exact ⟨rfl, rfl⟩
end Go.Proofs.Ytmgcbodlolnheaa
namespace Go.Proofs.Ytmgcbodlolnheaa
open Go.ChangeShapes Go.WideShapes Go.ChangeAt Go.RowKit
set_option linter.unusedVariables false
def PtsCells (w : World) (B g off : Nat) (pts : List (Int × Int)) : Prop :=
 g < B /\ ∀ j, (h : j < pts.length) -> w.cell? ⟨g, off + j * 2, none⟩ = some (.int .i64 (pts[j]).1) /\ w.cell? ⟨g, off + j * 2 + 1, none⟩ = some (.int .i64 (pts[j]).2)
def PtsAt (w : World) (B : Nat) (v : Value) (pts : List (Int × Int)) : Prop :=
 ∃ (A : Option Addr) (cap : Nat), v = .slice A pts.length cap /\ pts.length <= 9223372036854775807 /\ (0 < pts.length -> ∃ g off, A = some ⟨g, off, none⟩ /\ PtsCells w B g off pts)
theorem PtsCells.kept {S : Nat -> Prop} {w w' : World} {B g off : Nat} {pts : List (Int × Int)} (h : PtsCells w B g off pts) (hk : Kept S w w') (hB : B <= w.heap.size) (hS : ∀ k, k < B -> ¬ S k) : PtsCells w' B g off pts := by
 obtain ⟨h1, h2⟩ := h
 refine ⟨h1, fun j hj => ?_⟩
 obtain ⟨a, b⟩ := h2 j hj
 exact ⟨(hk.cell (p := ⟨g, off + j * 2, none⟩) (Nat.lt_of_lt_of_le h1 hB) (hS g h1)).trans a, (hk.cell (p := ⟨g, off + j * 2 + 1, none⟩) (Nat.lt_of_lt_of_le h1 hB) (hS g h1)).trans b⟩
theorem PtsAt.kept {S : Nat -> Prop} {w w' : World} {B : Nat} {v : Value} {pts : List (Int × Int)} (h : PtsAt w B v pts) (hk : Kept S w w') (hB : B <= w.heap.size) (hS : ∀ k, k < B -> ¬ S k) : PtsAt w' B v pts := by
 obtain ⟨A, cap, h1, h2, h3⟩ := h
 refine ⟨A, cap, h1, h2, fun hp => ?_⟩
 obtain ⟨g, off, a, b⟩ := h3 hp
 exact ⟨g, off, a, b.kept hk hB hS⟩
theorem PtsAt.mono {w : World} {B C : Nat} {v : Value} {pts : List (Int × Int)} (h : PtsAt w B v pts) (hB : B <= C) : PtsAt w C v pts := by
 obtain ⟨A, cap, h1, h2, h3⟩ := h
 refine ⟨A, cap, h1, h2, fun hp => ?_⟩
 obtain ⟨g, off, a, b, c⟩ := h3 hp
 exact ⟨g, off, a, Nat.lt_of_lt_of_le b hB, c⟩
def beyondB (x far : Int) : Bool := decide (x < -far ∨ far < x)
theorem beyond_any (x far : Int) (w : World) (h : 0 <= far) (h' : far <= 1000000000) :
  Calls Try.prog 18 #[.int .i64 x, .int .i64 far] w fun e w' => e = .returned (.bool (beyondB x far)) /\ w = w' := by
 by_cases h1 : x < -far
 ·have e : beyondB x far = true := by simp [beyondB, h1]
  rw [e]
  clear e
  go_enter Try.func18, Try.ntmps18
  go_wp2
  go_ret
  exact ⟨rfl, rfl⟩
 ·by_cases h2 : far < x
  ·have e : beyondB x far = true := by simp [beyondB, h2]
   rw [e]
   clear e
   go_enter Try.func18, Try.ntmps18
   go_wp2
   go_ret
   exact ⟨rfl, rfl⟩
  ·have e : beyondB x far = false := by simp [beyondB, h1, h2]
   rw [e]
   clear e
   go_enter Try.func18, Try.ntmps18
   go_wp2
   go_ret
   exact ⟨rfl, rfl⟩
theorem beyond_is {x far : Int} {v : Bool} (w : World) (h : 0 <= far) (h' : far <= 1000000000) (hv : beyondB x far = v) :
  Calls Try.prog 18 #[.int .i64 x, .int .i64 far] w fun e w' => e = .returned (.bool v) /\ w = w' := by
 have := beyond_any x far w h h'
 rwa [hv] at this
def withinB (pts : List (Int × Int)) (far : Int) : Bool := pts.all (fun p => !beyondB p.1 far && !beyondB p.2 far) && decide (3 <= pts.length /\ pts.length <= 1000)
def nearB (pts : List (Int × Int)) (far : Int) : Bool := pts.all (fun p => !beyondB p.1 far && !beyondB p.2 far)
theorem nearB_take {pts : List (Int × Int)} {far : Int} {k : Nat} (h : k < pts.length) (a : nearB (pts.take k) far = true) (b : beyondB (pts[k]).1 far = false) (c : beyondB (pts[k]).2 far = false) : nearB (pts.take (k + 1)) far = true := by
 unfold nearB at *
 rw [List.take_succ_eq_append_getElem h, List.all_append, a]
 simp [b, c]
theorem within_far {pts : List (Int × Int)} {far : Int} {k : Nat} (h : k < pts.length) (b : beyondB (pts[k]).1 far = true ∨ beyondB (pts[k]).2 far = true) : withinB pts far = false := by
 unfold withinB
 rw [Bool.and_eq_false_iff]
 left
 rw [List.all_eq_false]
 exact ⟨pts[k], List.getElem_mem h, by rcases b with b | b <;> simp [b]⟩
theorem within_near {pts : List (Int × Int)} {far : Int} (h : nearB pts far = true) : withinB pts far = decide (3 <= pts.length /\ pts.length <= 1000) := by
 unfold withinB
 unfold nearB at h
 rw [h, Bool.true_and]
set_option maxHeartbeats 1000000 in
set_option maxRecDepth 100000 in
theorem within_cons (pts : List (Int × Int)) (far : Int) (g off cap : Nat) (w : World) (h : 0 <= far) (h' : far <= 1000000000) (hpos : 0 < pts.length) (hlen : pts.length <= 9223372036854775807) (hp : PtsCells w w.heap.size g off pts) :
  Calls Try.prog 20 #[.slice (some ⟨g, off, none⟩) pts.length cap, .int .i64 far] w fun e w' => e = .returned (.bool (withinB pts far)) /\ Same w w' := by
 have HP := hid hp
 clear hp
 go_enter Try.func20, Try.ntmps20
 go_wp2_with fail
 go_loopw [9] (fun i wr => ∃ k : Nat, k <= pts.length /\ i = .int .i64 k /\ nearB (pts.take k) far = true /\ Same w wr) (fun i _ => pts.length - (intOf i).toNat)
 case atStart => exact ⟨0, Nat.zero_le _, rfl, rfl, Kept.refl _ _⟩
 case round =>
  obtain ⟨k, hk, rfl, hn, hs⟩ := hrel
  have HN := hid hn
  have HSM := hid hs
  clear hn
  by_cases hlt : k < pts.length
  ·have hpc := HP.out.kept hs (Nat.le_refl _) (fun _ _ hf => hf)
   obtain ⟨c0, c1⟩ := hpc.2 k hlt
   have hg : g < wr.heap.size := Nat.lt_of_lt_of_le hpc.1 hs.size
   have hfar := within_far (far := far) hlt
   have hnear := fun a b => nearB_take (far := far) hlt HN.out a b
   generalize hx : (pts[k]).1 = x at c0 hfar hnear
   generalize hy : (pts[k]).2 = y at c1 hfar hnear
   have HFA := hid hfar
   have HNE := hid hnear
   clear hx hy hpc hs hfar hnear
   by_cases b1 : beyondB x far = true
   ·have HF := hid (HFA.out (.inl b1))
    have B1 := hid b1
    clear b1
    go_wp2_with fail
    refine (beyond_is _ h h' B1.out).mono ?_
    rintro e w' ⟨rfl, rfl⟩
    go_wp2_with fail
    go_ret
    exact ⟨by rw [HF.out]; rfl, HSM.out.alloc _⟩
   ·have b1' : beyondB x far = false := by simpa using b1
    clear b1
    by_cases b2 : beyondB y far = true
    ·have HF := hid (HFA.out (.inr b2))
     go_wp2_with (go_at_call 18; refine (beyond_any _ _ _ h h').mono ?_; rintro e w' ⟨rfl, rfl⟩)
     go_ret
     exact ⟨by rw [HF.out]; rfl, HSM.out.alloc _⟩
    ·have b2' : beyondB y far = false := by simpa using b2
     have HN2 := hid (HNE.out b1' b2')
     have B1 := hid b1'
     have B2 := hid b2'
     clear b2 b1' b2'
     go_wp2_with fail
     refine (beyond_is _ h h' B1.out).mono ?_
     rintro e w' ⟨rfl, rfl⟩
     go_wp2_with fail
     refine (beyond_is _ h h' B2.out).mono ?_
     rintro e w' ⟨rfl, rfl⟩
     go_wp2_with fail
     go_roundw
     case measure => simp [intOf]; omega
     case rel => exact ⟨k + 1, by omega, by go_num, HN2.out, HSM.out.alloc _⟩
  ·obtain rfl : k = pts.length := by omega
   have e := within_near (by simpa using HN.out : nearB pts far = true)
   have HE := hid e
   clear e hs
   by_cases l1 : 3 <= pts.length
   ·go_wp2_with fail
    go_ret
    exact ⟨by rw [HE.out]; simp [l1] <;> omega, HSM.out⟩
   ·go_wp2_with fail
    go_ret
    exact ⟨by rw [HE.out]; simp [l1] <;> omega, HSM.out⟩
set_option maxRecDepth 100000 in
theorem within_nil (far : Int) (A : Option Addr) (cap : Nat) (w : World) :
  Calls Try.prog 20 #[.slice A 0 cap, .int .i64 far] w fun e w' => e = .returned (.bool false) /\ Same w w' := by
 go_enter Try.func20, Try.ntmps20
 go_wp2_with fail
 go_loopw [9] (fun i wr => i = .int .i64 0 /\ Same w wr) (fun i _ => 0)
 case atStart => exact ⟨rfl, Kept.refl _ _⟩
 case round =>
  obtain ⟨rfl, hs⟩ := hrel
  have HSM := hid hs
  clear hs
  go_wp2_with fail
  go_ret
  exact ⟨rfl, HSM.out⟩
theorem within_any (pts : List (Int × Int)) (far : Int) (v : Value) (w : World) (h : 0 <= far) (h' : far <= 1000000000) (hp : PtsAt w w.heap.size v pts) :
  Calls Try.prog 20 #[v, .int .i64 far] w fun e w' => e = .returned (.bool (withinB pts far)) /\ Same w w' := by
 obtain ⟨A, cap, rfl, hl, ha⟩ := hp
 cases pts with
 | nil => exact within_nil far A cap w
 | cons a t =>
  obtain ⟨g, off, rfl, hc⟩ := ha (by simp)
  exact within_cons (a :: t) far g off cap w h h' (by simp) hl hc
theorem withinB_iff {pts : List (Int × Int)} {far : Int} : withinB pts far = true ↔ (∀ p ∈ pts, (-far <= p.1 /\ p.1 <= far) /\ (-far <= p.2 /\ p.2 <= far)) /\ 3 <= pts.length /\ pts.length <= 1000 := by
 unfold withinB
 rw [Bool.and_eq_true, List.all_eq_true]
 simp only [decide_eq_true_eq, Bool.and_eq_true, beyondB, Bool.not_eq_true', decide_eq_false_iff_not, not_or, Int.not_lt]
theorem info31 : (Try.prog.info? 31).map (fun i => (i.zero, i.size, i.bytes)) = some (some (.agg #[.int .i64 0, .slice none 0 0]), 2, 32) := by kernel_rfl
def IntsOwn (w : World) (D : Nat) (v : Value) (ps : List Int) : Prop :=
 (ps = [] /\ v = .slice none 0 0) ∨ ∃ g, D <= g /\ ps.length <= 1000 /\ v = .slice (some ⟨g, 0, none⟩) ps.length ps.length /\ Blk w g 3 (ps.map (Value.int .i64)).toArray
def OpsOwn (w : World) (D : Nat) : List (Int × List Int) -> List Value -> Prop
 | [], [] => True
 | o :: t, a :: b :: r => a = .int .i64 o.1 /\ IntsOwn w D b o.2 /\ OpsOwn w D t r
 | _, _ => False
theorem IntsOwn.to {w w' : World} {D : Nat} {v : Value} {ps : List Int} (h : IntsOwn w D v ps) (hk : ∀ g cs, D <= g -> Blk w g 3 cs -> Blk w' g 3 cs) : IntsOwn w' D v ps := by
 rcases h with h | ⟨g, h1, h2, h3, h4⟩
 ·exact .inl h
 ·exact .inr ⟨g, h1, h2, h3, hk g _ h1 h4⟩
theorem OpsOwn.to {w w' : World} {D : Nat} (hk : ∀ g cs, D <= g -> Blk w g 3 cs -> Blk w' g 3 cs) : ∀ {ops : List (Int × List Int)} {xs : List Value}, OpsOwn w D ops xs -> OpsOwn w' D ops xs
 | [], [], _ => trivial
 | o :: t, [], h => h.elim
 | o :: t, [a], h => h.elim
 | o :: t, a :: b :: r, h => ⟨h.1, h.2.1.to hk, OpsOwn.to hk h.2.2⟩
 | [], a :: r, h => h.elim
theorem OpsOwn.snoc {w : World} {D : Nat} {o : Int × List Int} {b : Value} (hb : IntsOwn w D b o.2) : ∀ {ops : List (Int × List Int)} {xs : List Value}, OpsOwn w D ops xs -> OpsOwn w D (ops ++ [o]) (xs ++ [.int .i64 o.1, b])
 | [], [], _ => ⟨rfl, hb, trivial⟩
 | o' :: t, [], h => h.elim
 | o' :: t, [a], h => h.elim
 | o' :: t, a :: c :: r, h => ⟨h.1, h.2.1, OpsOwn.snoc hb h.2.2⟩
 | [], a :: r, h => h.elim
theorem OpsOwn.at {w : World} {D : Nat} : ∀ {ops : List (Int × List Int)} {xs : List Value}, OpsOwn w D ops xs -> ∀ j, (h : j < ops.length) -> ∃ b, xs[j * 2]? = some (.int .i64 (ops[j]).1) /\ xs[j * 2 + 1]? = some b /\ IntsOwn w D b (ops[j]).2
 | [], _, _, j, h => by simp at h
 | o :: t, [], h, _, _ => h.elim
 | o :: t, [a], h, _, _ => h.elim
 | o :: t, a :: b :: r, h, 0, _ => ⟨b, by simp [h.1], by simp, h.2.1⟩
 | o :: t, a :: b :: r, h, j + 1, hj => by
  obtain ⟨c, h1, h2, h3⟩ := OpsOwn.at h.2.2 j (by simpa using hj)
  have e1 : (j + 1) * 2 = j * 2 + 1 + 1 := by omega
  refine ⟨c, ?_, ?_, by simpa using h3⟩
  ·rw [e1]; simpa using h1
  ·rw [e1]; simpa using h2
theorem IntsOwn.ints {w : World} {D B : Nat} {v : Value} {ps : List Int} (h : IntsOwn w D v ps) (hB : w.heap.size <= B) : IntsAt w B v ps := by
 rcases h with ⟨rfl, rfl⟩ | ⟨g, h1, h2, rfl, h4⟩
 ·exact ⟨none, 0, rfl, by simp, fun h => by simp at h⟩
 ·refine ⟨_, _, rfl, by omega, fun _ => ⟨g, 0, rfl, Nat.lt_of_lt_of_le h4.lt hB, fun j p hj => ?_⟩⟩
  rw [h4.cell]
  simp [hj]
theorem opsAt_own {w : World} {D D' n : Nat} {v : Value} {xs : List Value} {ops : List (Int × List Int)} (hn : ops.length = n) (hlen : n <= 9223372036854775807) (h : w.ownsRow D 31 2 v n xs) (ho : OpsOwn w D' ops xs) : OpsAt w w.heap.size v ops := by
 rcases h.2 with ⟨rfl, rfl⟩ | ⟨g, cap, cur, rfl, hg, hb, hnc, hcm, hcs, htake⟩
 ·exact ⟨none, 0, by rw [hn], by omega, fun hp => by omega⟩
 ·refine ⟨_, cap, by rw [hn], by omega, fun hp => ⟨g, 0, rfl, ?_, fun j hj => ?_⟩⟩
  ·exact (show Blk w g 31 cur from hb).lt
  ·obtain ⟨b, h1, h2, h3⟩ := ho.at j hj
   have hc := h.cellAt (g := g) (cap := cap)
   refine ⟨b, ?_, ?_, h3.ints (Nat.le_refl _)⟩
   ·rw [Nat.zero_add, hc (j * 2) (by omega), h1]
   ·rw [Nat.zero_add, hc (j * 2 + 1) (by omega), h2]
def lineOps (pts : List (Int × Int)) : List (Int × List Int) := pts.zipIdx.map fun p => (if p.2 = 0 then 0 else 1, [p.1.1, p.1.2])
def pathOps (pts : List (Int × Int)) : List (Int × List Int) := lineOps pts ++ [(4, [])]
theorem length_lineOps (pts : List (Int × Int)) : (lineOps pts).length = pts.length := by simp [lineOps]
theorem lineOps_snoc {pts : List (Int × Int)} {k : Nat} (h : k < pts.length) : lineOps (pts.take (k + 1)) = lineOps (pts.take k) ++ [(if k = 0 then 0 else 1, [(pts[k]).1, (pts[k]).2])] := by
 unfold lineOps
 rw [List.take_succ_eq_append_getElem h, List.zipIdx_append, List.map_append]
 simp [Nat.min_eq_left (Nat.le_of_lt h)]
def PathS (w : World) (ops : List (Int × List Int)) (v : Value) (wr : World) : Prop :=
 ∃ xs, wr.ownsRow w.heap.size 31 2 v ops.length xs /\ OpsOwn wr w.heap.size ops xs /\ Same w wr
theorem own_keeps {w w' : World} {D n : Nat} {v : Value} {xs : List Value} (h : w.ownsRow D 31 2 v n xs) (hg : w.grownBy w' v.ownBlock) : ∀ g cs, Blk w g 3 cs -> Blk w' g 3 cs := by
 intro g cs hb
 refine (hg.block g hb.lt fun he => ?_).trans hb
 rcases h.2 with ⟨rfl, _⟩ | ⟨g', cap, cur, rfl, _, hb', _⟩
 ·simp [Value.ownBlock] at he
 ·simp only [Value.ownBlock, Option.some.injEq] at he
  subst he
  exact absurd (hb.eq_ (show Blk w g 31 cur from hb')).1 (by decide)
theorem own_same {w w' : World} {D n : Nat} {v : Value} {xs : List Value} {w0 : World} (h : w.ownsRow D 31 2 v n xs) (hD : w0.heap.size <= D) (hs : Same w0 w) (hg : w.grownBy w' v.ownBlock) : Same w0 w' :=
 hs.grown hg fun k hk => .inl (Nat.le_trans hD (h.lt k hk).1)
theorem PathS.next {w wr w1 : World} {ops : List (Int × List Int)} {v v' : Value} {xs : List Value} {o : Int × List Int} {b : Value} (q1 : wr.ownsRow w.heap.size 31 2 v ops.length xs) (q2 : OpsOwn wr w.heap.size ops xs) (q3 : Same w wr)
  (hown : w1.ownsRow w.heap.size 31 2 v' (ops.length + 1) (xs ++ [.int .i64 o.1, b])) (hg : wr.grownBy w1 v.ownBlock) (hb : IntsOwn wr w.heap.size b o.2) : PathS w (ops ++ [o]) v' w1 := by
 have hk := own_keeps q1 hg
 refine ⟨_, by simpa using hown, (q2.to fun g cs _ => hk g cs).snoc (hb.to fun g cs _ => hk g cs), own_same q1 (Nat.le_refl _) q3 hg⟩
theorem cells_new1 {w : World} (t : TypeId) (a b : Value) : ∀ (j : Nat) (u : Value), [a, b][j]? = some u -> (w.alloc (.cells #[a, b] t)).cell? ((⟨w.heap.size, 0, none⟩ : Addr).add j) = some u := by
 intro j u hu
 have hb := Blk.new w t #[a, b]
 have e : (⟨w.heap.size, 0, none⟩ : Addr).add j = ⟨w.heap.size, j, none⟩ := by unfold Addr.add; split <;> simp_all
 rw [e, hb.cell]
 simpa using hu
theorem cells_new3 {w : World} (o o' : Obj) (t : TypeId) (a b : Value) : ∀ (j : Nat) (u : Value), [a, b][j]? = some u -> (((w.alloc o).alloc o').alloc (.cells #[a, b] t)).cell? ((⟨w.heap.size + 2, 0, none⟩ : Addr).add j) = some u := by
 have h := cells_new1 (w := (w.alloc o).alloc o') t a b
 have e : ((w.alloc o).alloc o').heap.size = w.heap.size + 2 := by simp
 rw [e] at h
 exact h
theorem path_next {w wr w1 : World} {pts : List (Int × Int)} {k : Nat} {v v' : Value} {xs : List Value} {kd x y : Int} {t : TypeId} {o1 : Obj}
  (hn : lineOps (pts.take (k + 1)) = lineOps (pts.take k) ++ [(kd, [x, y])]) (q1 : wr.ownsRow w.heap.size 31 2 v (lineOps (pts.take k)).length xs) (q2 : OpsOwn wr w.heap.size (lineOps (pts.take k)) xs) (q3 : Same w wr)
  (hown : w1.ownsRow w.heap.size 31 2 v' ((lineOps (pts.take k)).length + 1) (xs ++ [.int .i64 kd, .slice (some ⟨wr.heap.size + 1, 0, none⟩) 2 2]))
  (hg : (((wr.alloc o1).alloc (.cells #[.int .i64 x, .int .i64 y] 3)).alloc (.cells #[.int .i64 kd, .slice (some ⟨wr.heap.size + 1, 0, none⟩) 2 2] t)).grownBy w1 v.ownBlock) : PathS w (lineOps (pts.take (k + 1))) v' w1 := by
 rw [hn]
 have hsz := q3.size
 refine PathS.next (((q1.alloc _).alloc _).alloc _) (OpsOwn.to (fun g cs _ h => ((h.alloc _).alloc _).alloc _) q2) (((q3.alloc _).alloc _).alloc _) hown hg (.inr ⟨wr.heap.size + 1, by omega, by simp, rfl, ?_⟩)
 have hb := (Blk.new (wr.alloc o1) 3 #[.int .i64 x, .int .i64 y]).alloc (.cells #[.int .i64 kd, .slice (some ⟨wr.heap.size + 1, 0, none⟩) 2 2] t)
 simpa using hb
end Go.Proofs.Ytmgcbodlolnheaa
namespace Go.Proofs.Ytmgcbodlolnheaa
open Go.ChangeShapes Go.WideShapes Go.ChangeAt Go.RowKit Go.Deep
set_option linter.unusedVariables false
theorem cellsOf28 : Try.prog.cellsOf 28 = 2 := by kernel_rfl
theorem cellsOf3 : Try.prog.cellsOf 3 = 1 := by kernel_rfl
theorem cellsOf27 : Try.prog.cellsOf 27 = 1 := by kernel_rfl
section
variable {H : Type} {enc : TypeId × Value -> H} {w : World} {spare : Nat -> Bool} {held : Bool}
theorem addr_plain {a : Addr} {v : Value} (h : w.cell? (a.add 0) = some v) : ∃ b off, a = ⟨b, off, none⟩ := by
 obtain ⟨b, off, spot⟩ := a
 have hspot : spot = none := by simpa [Addr.add] using World.cell?_spot h
 subst hspot
 exact ⟨b, off, rfl⟩
theorem block_lt {b off : Nat} {v : Value} (h : w.cell? ⟨b, off, none⟩ = some v) : b < w.heap.size := World.block_lt_of_cell? w ⟨b, off, none⟩ h
theorem open_pts {fuel : Nat} {v : Value} {x : DataW H × List MemPlace} (h : DataW.trod enc Try.prog w 0 spare held fuel 27 [v] = some x) : ∃ pts, PtsAt w w.heap.size v pts := by
 rcases open_slice Try.underlying27 h with ⟨hcs, _⟩ | ⟨a, len, cap, m, n, D, Pl, hcs, hb, hl, hm, hmm, hx, hi⟩
 ·simp only [List.cons.injEq, and_true] at hcs
  exact ⟨[], none, 0, hcs, by simp, fun h => by simp at h⟩
 ·simp only [List.cons.injEq, and_true] at hcs
  subst hcs
  have hlm : len <= m := by rw [hmm]; split <;> omega
  have hel : ∀ i, i < len -> ∃ p : Int × Int, w.cell? (a.add (i * 2)) = some (.int .i64 p.1) /\ w.cell? (a.add (i * 2 + 1)) = some (.int .i64 p.2) := by
   intro i hil
   obtain ⟨cs', hc, ht⟩ := hi i (by omega)
   rw [cellsOf28] at hc
   obtain ⟨xs, m', _, _, hlen, hxl, hf⟩ := DataW.trod_array Try.underlying28 ht
   rw [cellsOf28] at hlen
   rw [cellsOf3] at hf
   obtain ⟨_, _, hat⟩ := World.cells?_some hc
   match cs', hlen, xs, hxl with
   | [c0, c1], _, [y0, y1], _ =>
    have f0 := hf 0 (by omega)
    have f1 := hf 1 (by omega)
    simp at f0 f1
    obtain ⟨p0, e0, _⟩ := DataW.trod_int Try.underlying3 f0
    obtain ⟨p1, e1, _⟩ := DataW.trod_int Try.underlying3 f1
    simp only [List.cons.injEq, and_true] at e0 e1
    have h0 := hat 0 (by omega)
    have h1 := hat 1 (by omega)
    rw [Go.Deep.add_add] at h0 h1
    exact ⟨(p0, p1), by rw [Nat.add_zero] at h0; rw [h0, e0]; rfl, by rw [h1, e1]; rfl⟩
  obtain ⟨f, hfa⟩ := choose_lt (α := Int × Int) hel
  refine ⟨(List.range len).map f, some a, cap, by simp, by simp; unfold maxLen at hm; omega, fun hp => ?_⟩
  have hp' : 0 < len := by simpa using hp
  have hfa0 := (hfa 0 hp').1
  rw [Nat.zero_mul] at hfa0
  obtain ⟨b, off, rfl⟩ := addr_plain hfa0
  refine ⟨b, off, rfl, block_lt (off := off + 0 * 2) (v := .int .i64 (f 0).1) (by rw [<- add_plain]; exact (hfa 0 hp').1), fun j hj => ?_⟩
  have hj' : j < len := by simpa using hj
  obtain ⟨h0, h1⟩ := hfa j hj'
  rw [add_plain] at h0 h1
  simp only [List.getElem_map, List.getElem_range]
  exact ⟨h0, h1⟩
end
end Go.Proofs.Ytmgcbodlolnheaa
namespace Go.Proofs.Ytmgcbodlolnheaa
open Go.ChangeShapes Go.WideShapes Go.ChangeAt Go.RowKit
theorem laidOut : laidOutB Try.prog = true := by kernel_rfl
section
variable {H : Type} {enc : TypeId × Value -> H} {W W' : World}
theorem trodAll_below (hb : Below W.heap.size W W') : ∀ {ts : List TypeId} {vs : List Value} {ds : List (DataW H)} {ps : List MemPlace},
  (∀ t ∈ ts, Try.prog.readableRec t = true /\ t < Try.prog.types.size) -> DataW.TrodAll enc Try.prog W 0 (fun _ => true) true ts vs ds ps ->
  DataW.TrodAll enc Try.prog W' 0 (fun b => decide (b < W.heap.size)) true ts vs ds ps
 | [], _, _, _, _, h => by
  obtain ⟨rfl, rfl, rfl⟩ := trodAll_nil h
  exact trodAll_mk0
 | t :: ts, _, _, _, ht, h => by
  have hlt := DataW.TrodAll.lt h
  obtain ⟨v, vs1, d, ds1, a, b, rfl, rfl, rfl, h1, h2⟩ := trodAll_cons h
  obtain ⟨hr, hs⟩ := ht t (by simp)
  exact trodAll_cons_mk (Below.trod laidOut hr hs h1 hb fun x hx => hlt x (by simp [hx])) (trodAll_below hb (fun t' h' => ht t' (by simp [h'])) h2)
theorem law_post {f : Func} {s : ChangeSpec} {args : Array Value} {ds gs : List (DataW H)} {before : List MemPlace}
  (hts : ∀ t ∈ f.params.toList, Try.prog.readableRec t = true /\ t < Try.prog.types.size) (hr : f.resultTypes = #[4]) (hv : s.vars = [])
  (hfn : s.fn H ds = { results := [.lit (.bool true)], args := ds })
  (hW : DataW.Whole enc Try.prog f.params.toList s.vars false W args.toList ds gs before) (hb : Below W.heap.size W W') :
  s.post enc Try.prog f false true false false W args (.bool true) W' := by
 have hW' := hW
 obtain ⟨p, q, hA, hV, rfl, hfz, hnd⟩ := hW
 rw [hv] at hV
 obtain ⟨rfl, rfl⟩ := trodVars_none hV
 refine ⟨ds, [], p ++ [], [], p, [], hW', ?_, ?_, ?_, hb.frame _, fun h => by cases h⟩
 ·rw [List.append_nil, hfn, hr]
  exact trodAll_mk1 (shut_bool Try.underlying4 _)
 ·rw [List.append_nil, hfn]
  exact trodAll_below hb hts hA
 ·rw [List.append_nil, hfn, hv]
  rfl
end
end Go.Proofs.Ytmgcbodlolnheaa
namespace Go.Proofs.Ytmgcbodlolnheaa
open Go.ChangeShapes Go.WideShapes Go.ChangeAt Go.RowKit
set_option linter.unusedVariables false
end Go.Proofs.Ytmgcbodlolnheaa
namespace Go.Proofs.Ytmgcbodlolnheaa
open Go.RowKit
set_option linter.unusedVariables false
abbrev Pt := Int × Int
def wq (n : Int) : Nat := fop .quo (floatOfInt .f32 n) 1115684864
theorem wq_ok {n : Int} (h1 : -16777216 <= n) (h2 : n <= 16777216) : Fok .quo (floatOfInt .f32 n) 1115684864 /\ Q64 (wq n) n := quo64 h1 h2
def edgesFrom (first : Pt) : Pt -> List Pt -> List (Pt × Pt)
 | cur, [] => [(cur, first)]
 | cur, q :: t => (cur, q) :: edgesFrom first q t
def edges : List Pt -> List (Pt × Pt)
 | [] => []
 | p :: t => edgesFrom p p t
theorem length_edgesFrom (first : Pt) : ∀ (cur : Pt) (t : List Pt), (edgesFrom first cur t).length = t.length + 1
 | _, [] => rfl
 | cur, q :: t => by simp [edgesFrom, length_edgesFrom first q t]
theorem length_edges (p : List Pt) : (edges p).length = p.length := by
 cases p with
 | nil => rfl
 | cons a t => simp [edges, length_edgesFrom]
theorem mem_edgesFrom {first cur : Pt} {t : List Pt} {e : Pt × Pt} (h : e ∈ edgesFrom first cur t) : (e.1 = cur ∨ e.1 ∈ t) /\ (e.2 = first ∨ e.2 ∈ t) := by
 induction t generalizing cur with
 | nil => simp [edgesFrom] at h; subst h; simp
 | cons q t ih =>
  rw [edgesFrom, List.mem_cons] at h
  rcases h with rfl | h
  ·simp
  ·have := ih h
   simp only [List.mem_cons]
   constructor
   ·rcases this.1 with h | h
    ·exact .inr (.inl h)
    ·exact .inr (.inr h)
   ·rcases this.2 with h | h
    ·exact .inl h
    ·exact .inr (.inr h)
theorem mem_edges {p : List Pt} {e : Pt × Pt} (h : e ∈ edges p) : e.1 ∈ p /\ e.2 ∈ p := by
 cases p with
 | nil => simp [edges] at h
 | cons a t =>
  have := mem_edgesFrom h
  simp only [List.mem_cons]
  exact this
def edgeB (W : Nat) (H : Int) (e : Pt × Pt) (B : Buf) : Buf := lineB W H (wq e.1.1) (wq e.1.2) (wq e.2.1) (wq e.2.2) B
def EdgeOk (W : Nat) (H : Int) (e : Pt × Pt) (B : Buf) : Prop := LineOk W H (wq e.1.1) (wq e.1.2) (wq e.2.1) (wq e.2.2) B
def edgesB (W : Nat) (H : Int) : List (Pt × Pt) -> Buf -> Buf
 | [], B => B
 | e :: t, B => edgesB W H t (edgeB W H e B)
def EdgesOk (W : Nat) (H : Int) : List (Pt × Pt) -> Buf -> Prop
 | [], _ => True
 | e :: t, B => EdgeOk W H e B /\ EdgesOk W H t (edgeB W H e B)
theorem edgesB_append (W : Nat) (H : Int) : ∀ (s t : List (Pt × Pt)) (B : Buf), edgesB W H (s ++ t) B = edgesB W H t (edgesB W H s B)
 | [], _, _ => rfl
 | e :: s, t, B => by rw [List.cons_append, edgesB, edgesB_append W H s, edgesB]
theorem EdgesOk_append (W : Nat) (H : Int) : ∀ (s t : List (Pt × Pt)) (B : Buf), EdgesOk W H (s ++ t) B ↔ EdgesOk W H s B /\ EdgesOk W H t (edgesB W H s B)
 | [], _, _ => by simp [EdgesOk, edgesB]
 | e :: s, t, B => by rw [List.cons_append, EdgesOk, EdgesOk, EdgesOk_append W H s, edgesB, and_assoc]
theorem len_edgesB (W : Nat) (H : Int) : ∀ (s : List (Pt × Pt)) (B : Buf), (edgesB W H s B).len = B.len
 | [], _ => rfl
 | e :: s, B => by rw [edgesB, len_edgesB W H s, edgeB, len_lineB]
theorem zipIdx_ones (t : List Pt) : ∀ n, 1 <= n -> (t.zipIdx n).map (fun p => ((if p.2 = 0 then 0 else 1 : Int), [p.1.1, p.1.2])) = t.map fun p => (1, [p.1, p.2]) := by
 induction t with
 | nil => intro n _; rfl
 | cons a t ih =>
  intro n hn
  rw [List.zipIdx_cons, List.map_cons, List.map_cons, ih (n + 1) (by omega), if_neg (by simp only; omega)]
theorem pathOps_cons (p : Pt) (t : List Pt) : pathOps (p :: t) = (0, [p.1, p.2]) :: (t.map fun q => (1, [q.1, q.2])) ++ [(4, [])] := by
 unfold pathOps lineOps
 rw [List.zipIdx_cons, List.map_cons, zipIdx_ones t _ (by omega)]
 rfl
theorem atF_two (x y : Int) : atF [x, y] 0 = wq x /\ atF [x, y] 1 = wq y := ⟨rfl, rfl⟩
theorem run_lines (W : Nat) (H : Int) : ∀ (t : List Pt) (cur first : Pt) (B : Buf),
  stepOps W H ((t.map fun q => (1, [q.1, q.2])) ++ [(4, [])]) ⟨wq first.1, wq first.2, wq cur.1, wq cur.2, B⟩ = ⟨wq first.1, wq first.2, wq first.1, wq first.2, edgesB W H (edgesFrom first cur t) B⟩
 | [], cur, first, B => by
  simp [stepOps, stepOp, edgesFrom, edgesB, edgeB]
 | q :: t, cur, first, B => by
  rw [List.map_cons, List.cons_append, stepOps]
  have e : stepOp W H (1, [q.1, q.2]) ⟨wq first.1, wq first.2, wq cur.1, wq cur.2, B⟩ = ⟨wq first.1, wq first.2, wq q.1, wq q.2, edgeB W H (cur, q) B⟩ := by
   simp [stepOp, atF_two, edgeB]
  rw [e, run_lines W H t q first, edgesFrom, edgesB]
theorem run_lines_ok (W : Nat) (H : Int) : ∀ (t : List Pt) (cur first : Pt) (B : Buf), (∀ q ∈ t, AtOk [q.1, q.2]) -> EdgesOk W H (edgesFrom first cur t) B ->
  StepsOpOk W H ((t.map fun q => (1, [q.1, q.2])) ++ [(4, [])]) ⟨wq first.1, wq first.2, wq cur.1, wq cur.2, B⟩
 | [], cur, first, B, _, h => by
  refine ⟨⟨fun p hp => by simp at hp, by simp, by simp, by simp, fun _ => h.1⟩, trivial⟩
 | q :: t, cur, first, B, ha, h => by
  rw [List.map_cons, List.cons_append, StepsOpOk]
  have e : stepOp W H (1, [q.1, q.2]) ⟨wq first.1, wq first.2, wq cur.1, wq cur.2, B⟩ = ⟨wq first.1, wq first.2, wq q.1, wq q.2, edgeB W H (cur, q) B⟩ := by
   simp [stepOp, atF_two, edgeB]
  rw [e]
  exact ⟨⟨ha q (by simp), fun _ => h.1, by simp, by simp, by simp⟩, run_lines_ok W H t q first _ (fun p hp => ha p (by simp [hp])) h.2⟩
theorem path_run (W : Nat) (H : Int) (p : Pt) (t : List Pt) (s : RS) :
  stepOps W H (pathOps (p :: t)) s = ⟨wq p.1, wq p.2, wq p.1, wq p.2, edgesB W H (edges (p :: t)) s.B⟩ := by
 rw [pathOps_cons, List.cons_append, stepOps]
 have e : stepOp W H (0, [p.1, p.2]) s = ⟨wq p.1, wq p.2, wq p.1, wq p.2, s.B⟩ := by simp [stepOp, atF_two]
 rw [e, run_lines]
 rfl
theorem path_run_ok (W : Nat) (H : Int) (p : Pt) (t : List Pt) (s : RS) (ha : ∀ q ∈ p :: t, AtOk [q.1, q.2]) (h : EdgesOk W H (edges (p :: t)) s.B) : StepsOpOk W H (pathOps (p :: t)) s := by
 rw [pathOps_cons, List.cons_append, StepsOpOk]
 have e : stepOp W H (0, [p.1, p.2]) s = ⟨wq p.1, wq p.2, wq p.1, wq p.2, s.B⟩ := by simp [stepOp, atF_two]
 rw [e]
 exact ⟨⟨ha p (by simp), by simp, by simp, by simp, by simp⟩, run_lines_ok W H t p p _ (fun q hq => ha q (by simp [hq])) h⟩
theorem atOk_of {q : Pt} (h1 : -16777216 <= q.1 /\ q.1 <= 16777216) (h2 : -16777216 <= q.2 /\ q.2 <= 16777216) : AtOk [q.1, q.2] := by
 intro p hp
 simp at hp
 rcases hp with rfl | rfl
 ·exact (quo64 h1.1 h1.2).1
 ·exact (quo64 h2.1 h2.2).1
def Far (pts : List Pt) (m : Int) : Prop := ∀ q ∈ pts, (-m <= q.1 /\ q.1 <= m) /\ (-m <= q.2 /\ q.2 <= m)
end Go.Proofs.Ytmgcbodlolnheaa
