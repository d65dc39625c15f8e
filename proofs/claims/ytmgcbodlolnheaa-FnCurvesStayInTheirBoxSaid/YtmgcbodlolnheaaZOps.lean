/-
  Calls as data ('impl.Op'): 'Op.at', 'impl.call'.
-/
import Derived.Test.YtmgcbodlolnheaaZCube
namespace Go.Proofs.Ytmgcbodlolnheaa
open Go.ChangeShapes Go.WideShapes Go.ChangeAt Go.RowKit
set_option linter.unusedVariables false

/-- A slice of ints below block B. -/
def IntsAt (w : World) (B : Nat) (v : Value) (ps : List Int) : Prop :=
  ∃ (A : Option Addr) (cap : Nat), v = .slice A ps.length cap ∧ ps.length ≤ 9223372036854775807 ∧
    (0 < ps.length → ∃ g off, A = some ⟨g, off, none⟩ ∧ g < B ∧ ∀ j p, ps[j]? = some p → w.cell? ⟨g, off + j, none⟩ = some (.int .i64 p))
theorem IntsAt.kept {S : Nat → Prop} {w w' : World} {B : Nat} {v : Value} {ps : List Int} (h : IntsAt w B v ps) (hk : Kept S w w') (hB : B ≤ w.heap.size) (hS : ∀ k, k < B → ¬ S k) : IntsAt w' B v ps := by
  obtain ⟨A, cap, h1, h2, h3⟩ := h
  refine ⟨A, cap, h1, h2, fun hp => ?_⟩
  obtain ⟨g, off, h4, h5, h6⟩ := h3 hp
  exact ⟨g, off, h4, h5, fun j p hj => (hk.cell (p := ⟨g, off + j, none⟩) (Nat.lt_of_lt_of_le h5 hB) (hS g h5)).trans (h6 j p hj)⟩

/-- A coordinate of a call: in pixels, as a float32; 0 where it is missing. -/
def atF (ps : List Int) (i : Nat) : Nat := if i < ps.length then fop .quo (floatOfInt .f32 (ps.getD i 0)) 1115684864 else 0
def AtOk (ps : List Int) : Prop := ∀ p ∈ ps, Fok .quo (floatOfInt .f32 p) 1115684864

set_option maxRecDepth 100000 in
theorem at_any (kind : Int) (pv : Value) (ps : List Int) (i : Nat) (B : Nat) (w : World) (hi : i ≤ 100) (h : IntsAt w B pv ps) (hB : B ≤ w.heap.size) (hok : AtOk ps) :
    Calls Try.prog 49 #[.agg #[.int .i64 kind, pv], .int .i64 (i : Int)] w fun e w' => e = .returned (.float .f32 (atF ps i)) ∧ Same w w' := by
  obtain ⟨A, cap, rfl, h2, h3⟩ := h
  by_cases hlt : i < ps.length
  · obtain ⟨g, off, rfl, h5, h6⟩ := h3 (by omega)
    have hc := h6 i (ps.getD i 0) (by simp [List.getD, hlt])
    have hq := hok (ps.getD i 0) (by simp [List.getD, hlt])
    have e : atF ps i = fop .quo (floatOfInt .f32 (ps.getD i 0)) 1115684864 := if_pos hlt
    rw [e]
    generalize ps.getD i 0 = p at hc hq
    generalize ps.length = n at hlt h2
    have hgB : g < w.heap.size := by omega
    clear e h3 h6 hok
    go_enter Try.func49, Try.ntmps49
    go_wp2
    go_ret
    exact ⟨rfl, (Kept.refl _ _).alloc _⟩
  · have e : atF ps i = 0 := if_neg hlt
    rw [e]
    generalize ps.length = n at hlt h2
    clear e h3 hok
    go_enter Try.func49, Try.ntmps49
    go_wp2
    go_ret
    exact ⟨rfl, (Kept.refl _ _).alloc _⟩

/-- Where a path and its mask stand. -/
structure RS where
  fx : Nat
  fy : Nat
  px : Nat
  py : Nat
  B : Buf
/-- One call. -/
def stepOp (W : Nat) (H : Int) (o : Int × List Int) (s : RS) : RS :=
  if o.1 = 0 then ⟨atF o.2 0, atF o.2 1, atF o.2 0, atF o.2 1, s.B⟩
  else if o.1 = 1 then ⟨s.fx, s.fy, atF o.2 0, atF o.2 1, lineB W H s.px s.py (atF o.2 0) (atF o.2 1) s.B⟩
  else if o.1 = 2 then ⟨s.fx, s.fy, atF o.2 2, atF o.2 3, linesB W H (quadPts s.px s.py (atF o.2 0) (atF o.2 1) (atF o.2 2) (atF o.2 3)) s.px s.py s.B⟩
  else if o.1 = 3 then ⟨s.fx, s.fy, atF o.2 4, atF o.2 5, linesB W H (cubePts s.px s.py (atF o.2 0) (atF o.2 1) (atF o.2 2) (atF o.2 3) (atF o.2 4) (atF o.2 5)) s.px s.py s.B⟩
  else if o.1 = 4 then ⟨s.fx, s.fy, s.fx, s.fy, lineB W H s.px s.py s.fx s.fy s.B⟩
  else s
def StepOk (W : Nat) (H : Int) (o : Int × List Int) (s : RS) : Prop :=
  AtOk o.2 ∧ (o.1 = 1 → LineOk W H s.px s.py (atF o.2 0) (atF o.2 1) s.B) ∧
  (o.1 = 2 → QuadOk s.px s.py (atF o.2 0) (atF o.2 1) (atF o.2 2) (atF o.2 3) ∧ LinesOk W H (quadPts s.px s.py (atF o.2 0) (atF o.2 1) (atF o.2 2) (atF o.2 3)) s.px s.py s.B) ∧
  (o.1 = 3 → CubeOk s.px s.py (atF o.2 0) (atF o.2 1) (atF o.2 2) (atF o.2 3) (atF o.2 4) (atF o.2 5) ∧ LinesOk W H (cubePts s.px s.py (atF o.2 0) (atF o.2 1) (atF o.2 2) (atF o.2 3) (atF o.2 4) (atF o.2 5)) s.px s.py s.B) ∧
  (o.1 = 4 → LineOk W H s.px s.py s.fx s.fy s.B)
/-- A Rasterizer at that state. -/
def RasS (w : World) (b g W H : Nat) (o : Value) (rest : List Value) (s : RS) : Prop := Ras w b g W H o rest s.fx s.fy s.px s.py s.B

/-- What holds while the coordinates of a call are read: the call's own copy lies as it lay; only the Rasterizer may have turned. -/
structure Held (w0 : World) (b g t : Nat) (c0 c1 : Value) (w' : World) : Prop where
  a0 : w'.cell? ⟨t, 0, none⟩ = some c0
  a1 : w'.cell? ⟨t, 1, none⟩ = some c1
  lt : t < w'.heap.size
  k : Kept (KS b g) w0 w'
theorem Held.next {w0 w' w'' : World} {b g t : Nat} {c0 c1 : Value} (h : Held w0 b g t c0 c1 w') (hk : Kept (KS b g) w' w'') (hne : t ≠ b ∧ t ≠ g) : Held w0 b g t c0 c1 w'' := by
  have hS : ¬ KS b g t := fun hs => by rcases hs with hs | hs <;> simp_all
  exact ⟨(hk.cell (p := ⟨t, 0, none⟩) h.lt hS).trans h.a0, (hk.cell (p := ⟨t, 1, none⟩) h.lt hS).trans h.a1, Nat.lt_of_lt_of_le h.lt hk.size, h.k.trans hk⟩
theorem Held.first (w : World) (b g : Nat) (c0 c1 : Value) : Held w b g w.heap.size c0 c1 ((w.alloc (.cells #[c0, c1] 31)).drew) := by
  have hb := (Blk.new w 31 #[c0, c1]).drew
  exact ⟨by rw [hb.cell]; rfl, by rw [hb.cell]; rfl, hb.lt, ((Kept.refl _ _).alloc _).drew⟩

set_option maxHeartbeats 1000000 in
set_option maxRecDepth 100000 in
theorem call_move (b g W H : Nat) (o : Value) (rest : List Value) (fx fy px py : Nat) (B : Buf) (pv : Value) (ps : List Int) (D : Nat) (w : World) (hd : Dims W H rest)
    (h : Ras w b g W H o rest fx fy px py B) (hp : IntsAt w D pv ps) (hD : D ≤ w.heap.size) (hbD : D ≤ b) (hgD : D ≤ g) (hok : AtOk ps) :
    Calls Try.prog 40 #[.pointer (some ⟨b, 0, none⟩), .agg #[.int .i64 0, pv]] w fun e w' => e = .returned (.tuple #[]) ∧
      Ras w' b g W H o rest (atF ps 0) (atF ps 1) (atF ps 0) (atF ps 1) B ∧ Kept (KS b g) w w' := by
  have hblt := h.lt
  have hS : ∀ k, k < D → ¬ KS b g k := fun k hk hs => by rcases hs with rfl | rfl <;> omega
  have hat0 : ∀ (w' : World), Kept (KS b g) w w' → Calls Try.prog 49 #[.agg #[.int .i64 0, pv], .int .i64 0] w' fun e w'' => e = .returned (.float .f32 (atF ps 0)) ∧ Same w' w'' :=
    fun w' hk => at_any 0 pv ps 0 D w' (by omega) (hp.kept hk hD hS) (Nat.le_trans hD hk.size) hok
  have H0 := hid hat0
  clear hat0
  have hat1 : ∀ (w' : World), Kept (KS b g) w w' → Calls Try.prog 49 #[.agg #[.int .i64 0, pv], .int .i64 1] w' fun e w'' => e = .returned (.float .f32 (atF ps 1)) ∧ Same w' w'' :=
    fun w' hk => at_any 0 pv ps 1 D w' (by omega) (hp.kept hk hD hS) (Nat.le_trans hD hk.size) hok
  have H1 := hid hat1
  clear hat1
  have HR := hid h
  obtain ⟨A, cap, rfl, _, _⟩ := hp
  clear h hS
  have hne : w.heap.size ≠ b ∧ w.heap.size ≠ g := by omega
  have hr0 : ∀ w', Held w b g w.heap.size (.int .i64 0) (.slice A ps.length cap) w' → w'.cell? ⟨w.heap.size, 0, none⟩ = some (.int .i64 0) := fun _ h => h.a0
  have hr1 : ∀ w', Held w b g w.heap.size (.int .i64 0) (.slice A ps.length cap) w' → w'.cell? ⟨w.heap.size, 1, none⟩ = some (.slice A ps.length cap) := fun _ h => h.a1
  go_enter Try.func40, Try.ntmps40
  go_upto_region 3 with fail
  go_region_held3 (Held w b g w.heap.size (.int .i64 0) (.slice A ps.length cap)) (with_reducible (first | exact Held.first _ _ _ _ _ | exact Held.next (by assumption) (Kept.of_same (by assumption)) hne | exact Held.next (by assumption) (by assumption) hne)) (first | (go_at_call 49; ((with_reducible refine (H0.out _ ?_).mono ?_); (exact Held.k (by assumption)); rintro e w' ⟨rfl, hs0⟩)) | (go_at_call 49; ((with_reducible refine (H1.out _ ?_).mono ?_); (exact Held.k (by assumption)); rintro e w' ⟨rfl, hs1⟩)) | (go_at_call 48; ((with_reducible refine (move_any b g W H o rest fx fy px py _ _ B _ ?_).mono ?_); (exact (((HR.out.same ((Kept.refl _ _).alloc _).drew).same hs0).same hs1)); rintro e w' ⟨rfl, hr, hsz⟩)))
  have hr := hid hr
  go_wp2_with fail
  go_end0
  exact ⟨rfl, hr.out, (((((Kept.refl _ _).alloc _).drew).trans (Kept.of_same hs0)).trans (Kept.of_same hs1)).trans hsz⟩
set_option maxHeartbeats 1000000 in
set_option maxRecDepth 100000 in
theorem call_line (b g W H : Nat) (o : Value) (rest : List Value) (fx fy px py : Nat) (B : Buf) (pv : Value) (ps : List Int) (D : Nat) (w : World) (hd : Dims W H rest)
    (h : Ras w b g W H o rest fx fy px py B) (hp : IntsAt w D pv ps) (hD : D ≤ w.heap.size) (hbD : D ≤ b) (hgD : D ≤ g) (hok : AtOk ps)
    (hl : LineOk W H px py (atF ps 0) (atF ps 1) B) :
    Calls Try.prog 40 #[.pointer (some ⟨b, 0, none⟩), .agg #[.int .i64 1, pv]] w fun e w' => e = .returned (.tuple #[]) ∧
      Ras w' b g W H o rest fx fy (atF ps 0) (atF ps 1) (lineB W H px py (atF ps 0) (atF ps 1) B) ∧ Kept (KS b g) w w' := by
  have hblt := h.lt
  have hS : ∀ k, k < D → ¬ KS b g k := fun k hk hs => by rcases hs with rfl | rfl <;> omega
  have hat0 : ∀ (w' : World), Kept (KS b g) w w' → Calls Try.prog 49 #[.agg #[.int .i64 1, pv], .int .i64 0] w' fun e w'' => e = .returned (.float .f32 (atF ps 0)) ∧ Same w' w'' :=
    fun w' hk => at_any 1 pv ps 0 D w' (by omega) (hp.kept hk hD hS) (Nat.le_trans hD hk.size) hok
  have H0 := hid hat0
  clear hat0
  have hat1 : ∀ (w' : World), Kept (KS b g) w w' → Calls Try.prog 49 #[.agg #[.int .i64 1, pv], .int .i64 1] w' fun e w'' => e = .returned (.float .f32 (atF ps 1)) ∧ Same w' w'' :=
    fun w' hk => at_any 1 pv ps 1 D w' (by omega) (hp.kept hk hD hS) (Nat.le_trans hD hk.size) hok
  have H1 := hid hat1
  clear hat1
  have HR := hid h
  have HL := hid hl
  clear hl
  obtain ⟨A, cap, rfl, _, _⟩ := hp
  clear h hS
  have hne : w.heap.size ≠ b ∧ w.heap.size ≠ g := by omega
  have hr0 : ∀ w', Held w b g w.heap.size (.int .i64 1) (.slice A ps.length cap) w' → w'.cell? ⟨w.heap.size, 0, none⟩ = some (.int .i64 1) := fun _ h => h.a0
  have hr1 : ∀ w', Held w b g w.heap.size (.int .i64 1) (.slice A ps.length cap) w' → w'.cell? ⟨w.heap.size, 1, none⟩ = some (.slice A ps.length cap) := fun _ h => h.a1
  go_enter Try.func40, Try.ntmps40
  go_upto_region 5 with fail
  go_region_held3 (Held w b g w.heap.size (.int .i64 1) (.slice A ps.length cap)) (with_reducible (first | exact Held.first _ _ _ _ _ | exact Held.next (by assumption) (Kept.of_same (by assumption)) hne | exact Held.next (by assumption) (by assumption) hne)) (first | (go_at_call 49; ((with_reducible refine (H0.out _ ?_).mono ?_); (exact Held.k (by assumption)); rintro e w' ⟨rfl, hs0⟩)) | (go_at_call 49; ((with_reducible refine (H1.out _ ?_).mono ?_); (exact Held.k (by assumption)); rintro e w' ⟨rfl, hs1⟩)) | (go_at_call 50; ((with_reducible refine (line_any b g W H o rest fx fy px py _ _ B _ hd ?_ HL.out).mono ?_); (exact (((HR.out.same ((Kept.refl _ _).alloc _).drew).same hs0).same hs1)); rintro e w' ⟨rfl, hr, hsz⟩)))
  have hr := hid hr
  go_wp2_with fail
  go_end0
  exact ⟨rfl, hr.out, (((((Kept.refl _ _).alloc _).drew).trans (Kept.of_same hs0)).trans (Kept.of_same hs1)).trans hsz⟩
set_option maxHeartbeats 1000000 in
set_option maxRecDepth 100000 in
theorem call_quad (b g W H : Nat) (o : Value) (rest : List Value) (fx fy px py : Nat) (B : Buf) (pv : Value) (ps : List Int) (D : Nat) (w : World) (hd : Dims W H rest)
    (h : Ras w b g W H o rest fx fy px py B) (hp : IntsAt w D pv ps) (hD : D ≤ w.heap.size) (hbD : D ≤ b) (hgD : D ≤ g) (hok : AtOk ps)
    (hl : QuadOk px py (atF ps 0) (atF ps 1) (atF ps 2) (atF ps 3) ∧ LinesOk W H (quadPts px py (atF ps 0) (atF ps 1) (atF ps 2) (atF ps 3)) px py B) :
    Calls Try.prog 40 #[.pointer (some ⟨b, 0, none⟩), .agg #[.int .i64 2, pv]] w fun e w' => e = .returned (.tuple #[]) ∧
      Ras w' b g W H o rest fx fy (atF ps 2) (atF ps 3) (linesB W H (quadPts px py (atF ps 0) (atF ps 1) (atF ps 2) (atF ps 3)) px py B) ∧ Kept (KS b g) w w' := by
  have hblt := h.lt
  have hS : ∀ k, k < D → ¬ KS b g k := fun k hk hs => by rcases hs with rfl | rfl <;> omega
  have hat0 : ∀ (w' : World), Kept (KS b g) w w' → Calls Try.prog 49 #[.agg #[.int .i64 2, pv], .int .i64 0] w' fun e w'' => e = .returned (.float .f32 (atF ps 0)) ∧ Same w' w'' :=
    fun w' hk => at_any 2 pv ps 0 D w' (by omega) (hp.kept hk hD hS) (Nat.le_trans hD hk.size) hok
  have H0 := hid hat0
  clear hat0
  have hat1 : ∀ (w' : World), Kept (KS b g) w w' → Calls Try.prog 49 #[.agg #[.int .i64 2, pv], .int .i64 1] w' fun e w'' => e = .returned (.float .f32 (atF ps 1)) ∧ Same w' w'' :=
    fun w' hk => at_any 2 pv ps 1 D w' (by omega) (hp.kept hk hD hS) (Nat.le_trans hD hk.size) hok
  have H1 := hid hat1
  clear hat1
  have hat2 : ∀ (w' : World), Kept (KS b g) w w' → Calls Try.prog 49 #[.agg #[.int .i64 2, pv], .int .i64 2] w' fun e w'' => e = .returned (.float .f32 (atF ps 2)) ∧ Same w' w'' :=
    fun w' hk => at_any 2 pv ps 2 D w' (by omega) (hp.kept hk hD hS) (Nat.le_trans hD hk.size) hok
  have H2 := hid hat2
  clear hat2
  have hat3 : ∀ (w' : World), Kept (KS b g) w w' → Calls Try.prog 49 #[.agg #[.int .i64 2, pv], .int .i64 3] w' fun e w'' => e = .returned (.float .f32 (atF ps 3)) ∧ Same w' w'' :=
    fun w' hk => at_any 2 pv ps 3 D w' (by omega) (hp.kept hk hD hS) (Nat.le_trans hD hk.size) hok
  have H3 := hid hat3
  clear hat3
  have HR := hid h
  have HL := hid hl
  clear hl
  obtain ⟨A, cap, rfl, _, _⟩ := hp
  clear h hS
  have hne : w.heap.size ≠ b ∧ w.heap.size ≠ g := by omega
  have hr0 : ∀ w', Held w b g w.heap.size (.int .i64 2) (.slice A ps.length cap) w' → w'.cell? ⟨w.heap.size, 0, none⟩ = some (.int .i64 2) := fun _ h => h.a0
  have hr1 : ∀ w', Held w b g w.heap.size (.int .i64 2) (.slice A ps.length cap) w' → w'.cell? ⟨w.heap.size, 1, none⟩ = some (.slice A ps.length cap) := fun _ h => h.a1
  go_enter Try.func40, Try.ntmps40
  go_upto_region 7 with fail
  go_region_held3 (Held w b g w.heap.size (.int .i64 2) (.slice A ps.length cap)) (with_reducible (first | exact Held.first _ _ _ _ _ | exact Held.next (by assumption) (Kept.of_same (by assumption)) hne | exact Held.next (by assumption) (by assumption) hne)) (first | (go_at_call 49; ((with_reducible refine (H0.out _ ?_).mono ?_); (exact Held.k (by assumption)); rintro e w' ⟨rfl, hs0⟩)) | (go_at_call 49; ((with_reducible refine (H1.out _ ?_).mono ?_); (exact Held.k (by assumption)); rintro e w' ⟨rfl, hs1⟩)) | (go_at_call 49; ((with_reducible refine (H2.out _ ?_).mono ?_); (exact Held.k (by assumption)); rintro e w' ⟨rfl, hs2⟩)) | (go_at_call 49; ((with_reducible refine (H3.out _ ?_).mono ?_); (exact Held.k (by assumption)); rintro e w' ⟨rfl, hs3⟩)) | (go_at_call 51; ((with_reducible refine (quad_any b g W H o rest fx fy px py _ _ _ _ B _ hd ?_ HL.out.1 HL.out.2).mono ?_); (exact (((((HR.out.same ((Kept.refl _ _).alloc _).drew).same hs0).same hs1).same hs2).same hs3)); rintro e w' ⟨rfl, hr, hsz⟩)))
  have hr := hid hr
  go_wp2_with fail
  go_end0
  exact ⟨rfl, hr.out, (((((((Kept.refl _ _).alloc _).drew).trans (Kept.of_same hs0)).trans (Kept.of_same hs1)).trans (Kept.of_same hs2)).trans (Kept.of_same hs3)).trans hsz⟩
set_option maxHeartbeats 1000000 in
set_option maxRecDepth 100000 in
theorem call_cube (b g W H : Nat) (o : Value) (rest : List Value) (fx fy px py : Nat) (B : Buf) (pv : Value) (ps : List Int) (D : Nat) (w : World) (hd : Dims W H rest)
    (h : Ras w b g W H o rest fx fy px py B) (hp : IntsAt w D pv ps) (hD : D ≤ w.heap.size) (hbD : D ≤ b) (hgD : D ≤ g) (hok : AtOk ps)
    (hl : CubeOk px py (atF ps 0) (atF ps 1) (atF ps 2) (atF ps 3) (atF ps 4) (atF ps 5) ∧ LinesOk W H (cubePts px py (atF ps 0) (atF ps 1) (atF ps 2) (atF ps 3) (atF ps 4) (atF ps 5)) px py B) :
    Calls Try.prog 40 #[.pointer (some ⟨b, 0, none⟩), .agg #[.int .i64 3, pv]] w fun e w' => e = .returned (.tuple #[]) ∧
      Ras w' b g W H o rest fx fy (atF ps 4) (atF ps 5) (linesB W H (cubePts px py (atF ps 0) (atF ps 1) (atF ps 2) (atF ps 3) (atF ps 4) (atF ps 5)) px py B) ∧ Kept (KS b g) w w' := by
  have hblt := h.lt
  have hS : ∀ k, k < D → ¬ KS b g k := fun k hk hs => by rcases hs with rfl | rfl <;> omega
  have hat0 : ∀ (w' : World), Kept (KS b g) w w' → Calls Try.prog 49 #[.agg #[.int .i64 3, pv], .int .i64 0] w' fun e w'' => e = .returned (.float .f32 (atF ps 0)) ∧ Same w' w'' :=
    fun w' hk => at_any 3 pv ps 0 D w' (by omega) (hp.kept hk hD hS) (Nat.le_trans hD hk.size) hok
  have H0 := hid hat0
  clear hat0
  have hat1 : ∀ (w' : World), Kept (KS b g) w w' → Calls Try.prog 49 #[.agg #[.int .i64 3, pv], .int .i64 1] w' fun e w'' => e = .returned (.float .f32 (atF ps 1)) ∧ Same w' w'' :=
    fun w' hk => at_any 3 pv ps 1 D w' (by omega) (hp.kept hk hD hS) (Nat.le_trans hD hk.size) hok
  have H1 := hid hat1
  clear hat1
  have hat2 : ∀ (w' : World), Kept (KS b g) w w' → Calls Try.prog 49 #[.agg #[.int .i64 3, pv], .int .i64 2] w' fun e w'' => e = .returned (.float .f32 (atF ps 2)) ∧ Same w' w'' :=
    fun w' hk => at_any 3 pv ps 2 D w' (by omega) (hp.kept hk hD hS) (Nat.le_trans hD hk.size) hok
  have H2 := hid hat2
  clear hat2
  have hat3 : ∀ (w' : World), Kept (KS b g) w w' → Calls Try.prog 49 #[.agg #[.int .i64 3, pv], .int .i64 3] w' fun e w'' => e = .returned (.float .f32 (atF ps 3)) ∧ Same w' w'' :=
    fun w' hk => at_any 3 pv ps 3 D w' (by omega) (hp.kept hk hD hS) (Nat.le_trans hD hk.size) hok
  have H3 := hid hat3
  clear hat3
  have hat4 : ∀ (w' : World), Kept (KS b g) w w' → Calls Try.prog 49 #[.agg #[.int .i64 3, pv], .int .i64 4] w' fun e w'' => e = .returned (.float .f32 (atF ps 4)) ∧ Same w' w'' :=
    fun w' hk => at_any 3 pv ps 4 D w' (by omega) (hp.kept hk hD hS) (Nat.le_trans hD hk.size) hok
  have H4 := hid hat4
  clear hat4
  have hat5 : ∀ (w' : World), Kept (KS b g) w w' → Calls Try.prog 49 #[.agg #[.int .i64 3, pv], .int .i64 5] w' fun e w'' => e = .returned (.float .f32 (atF ps 5)) ∧ Same w' w'' :=
    fun w' hk => at_any 3 pv ps 5 D w' (by omega) (hp.kept hk hD hS) (Nat.le_trans hD hk.size) hok
  have H5 := hid hat5
  clear hat5
  have HR := hid h
  have HL := hid hl
  clear hl
  obtain ⟨A, cap, rfl, _, _⟩ := hp
  clear h hS
  have hne : w.heap.size ≠ b ∧ w.heap.size ≠ g := by omega
  have hr0 : ∀ w', Held w b g w.heap.size (.int .i64 3) (.slice A ps.length cap) w' → w'.cell? ⟨w.heap.size, 0, none⟩ = some (.int .i64 3) := fun _ h => h.a0
  have hr1 : ∀ w', Held w b g w.heap.size (.int .i64 3) (.slice A ps.length cap) w' → w'.cell? ⟨w.heap.size, 1, none⟩ = some (.slice A ps.length cap) := fun _ h => h.a1
  go_enter Try.func40, Try.ntmps40
  go_upto_region 9 with fail
  go_region_held3 (Held w b g w.heap.size (.int .i64 3) (.slice A ps.length cap)) (with_reducible (first | exact Held.first _ _ _ _ _ | exact Held.next (by assumption) (Kept.of_same (by assumption)) hne | exact Held.next (by assumption) (by assumption) hne)) (first | (go_at_call 49; ((with_reducible refine (H0.out _ ?_).mono ?_); (exact Held.k (by assumption)); rintro e w' ⟨rfl, hs0⟩)) | (go_at_call 49; ((with_reducible refine (H1.out _ ?_).mono ?_); (exact Held.k (by assumption)); rintro e w' ⟨rfl, hs1⟩)) | (go_at_call 49; ((with_reducible refine (H2.out _ ?_).mono ?_); (exact Held.k (by assumption)); rintro e w' ⟨rfl, hs2⟩)) | (go_at_call 49; ((with_reducible refine (H3.out _ ?_).mono ?_); (exact Held.k (by assumption)); rintro e w' ⟨rfl, hs3⟩)) | (go_at_call 49; ((with_reducible refine (H4.out _ ?_).mono ?_); (exact Held.k (by assumption)); rintro e w' ⟨rfl, hs4⟩)) | (go_at_call 49; ((with_reducible refine (H5.out _ ?_).mono ?_); (exact Held.k (by assumption)); rintro e w' ⟨rfl, hs5⟩)) | (go_at_call 52; ((with_reducible refine (cube_any b g W H o rest fx fy px py _ _ _ _ _ _ B _ hd ?_ HL.out.1 HL.out.2).mono ?_); (exact (((((((HR.out.same ((Kept.refl _ _).alloc _).drew).same hs0).same hs1).same hs2).same hs3).same hs4).same hs5)); rintro e w' ⟨rfl, hr, hsz⟩)))
  have hr := hid hr
  go_wp2_with fail
  go_end0
  exact ⟨rfl, hr.out, (((((((((Kept.refl _ _).alloc _).drew).trans (Kept.of_same hs0)).trans (Kept.of_same hs1)).trans (Kept.of_same hs2)).trans (Kept.of_same hs3)).trans (Kept.of_same hs4)).trans (Kept.of_same hs5)).trans hsz⟩

theorem call_close (b g W H : Nat) (o : Value) (rest : List Value) (fx fy px py : Nat) (B : Buf) (A : Option Addr) (n cap : Nat) (w : World) (hd : Dims W H rest)
    (h : Ras w b g W H o rest fx fy px py B) (hl : LineOk W H px py fx fy B) :
    Calls Try.prog 40 #[.pointer (some ⟨b, 0, none⟩), .agg #[.int .i64 4, .slice A n cap]] w fun e w' => e = .returned (.tuple #[]) ∧
      Ras w' b g W H o rest fx fy fx fy (lineB W H px py fx fy B) ∧ Kept (KS b g) w w' := by
  have HR := hid h
  have HL := hid hl
  clear h hl
  go_enter Try.func40, Try.ntmps40
  go_wp2_with fail
  refine (close_any b g W H o rest fx fy px py B _ hd (HR.out.same ((Kept.refl _ _).alloc _)) HL.out).mono ?_
  rintro e w' ⟨rfl, r1, r2⟩
  have R1 := hid r1
  have R2 := hid r2
  clear r1 r2
  go_wp2_with fail
  go_end0
  exact ⟨rfl, R1.out, ((Kept.refl _ _).alloc _).trans R2.out⟩
theorem call_none (b g W H : Nat) (o : Value) (rest : List Value) (fx fy px py : Nat) (B : Buf) (kind : Int) (A : Option Addr) (n cap : Nat) (w : World)
    (h : Ras w b g W H o rest fx fy px py B) (hk : kind < 0 ∨ 4 < kind) :
    Calls Try.prog 40 #[.pointer (some ⟨b, 0, none⟩), .agg #[.int .i64 kind, .slice A n cap]] w fun e w' => e = .returned (.tuple #[]) ∧
      Ras w' b g W H o rest fx fy px py B ∧ Kept (KS b g) w w' := by
  have HR := hid h
  clear h
  rcases hk with hk | hk
  all_goals
    go_enter Try.func40, Try.ntmps40
    go_wp2_with fail
    go_end0
    exact ⟨rfl, HR.out.same ((Kept.refl _ _).alloc _), (Kept.refl _ _).alloc _⟩

/-- 'impl.call' -/
theorem call_any (b g W H : Nat) (o : Value) (rest : List Value) (s : RS) (op : Int × List Int) (pv : Value) (D : Nat) (w : World) (hd : Dims W H rest)
    (h : RasS w b g W H o rest s) (hp : IntsAt w D pv op.2) (hD : D ≤ w.heap.size) (hbD : D ≤ b) (hgD : D ≤ g) (hok : StepOk W H op s) :
    Calls Try.prog 40 #[.pointer (some ⟨b, 0, none⟩), .agg #[.int .i64 op.1, pv]] w fun e w' => e = .returned (.tuple #[]) ∧
      RasS w' b g W H o rest (stepOp W H op s) ∧ Kept (KS b g) w w' := by
  obtain ⟨kind, ps⟩ := op
  obtain ⟨k0, k1, k2, k3, k4⟩ := hok
  simp only at hp k0 k1 k2 k3 k4
  unfold RasS stepOp
  simp only
  by_cases e0 : kind = 0
  · subst e0
    simp only [↓reduceIte]
    exact call_move b g W H o rest _ _ _ _ _ pv ps D w hd h hp hD hbD hgD k0
  rw [if_neg e0]
  by_cases e1 : kind = 1
  · subst e1
    simp only [↓reduceIte]
    exact call_line b g W H o rest _ _ _ _ _ pv ps D w hd h hp hD hbD hgD k0 (k1 rfl)
  rw [if_neg e1]
  by_cases e2 : kind = 2
  · subst e2
    simp only [↓reduceIte]
    exact call_quad b g W H o rest _ _ _ _ _ pv ps D w hd h hp hD hbD hgD k0 (k2 rfl)
  rw [if_neg e2]
  by_cases e3 : kind = 3
  · subst e3
    simp only [↓reduceIte]
    exact call_cube b g W H o rest _ _ _ _ _ pv ps D w hd h hp hD hbD hgD k0 (k3 rfl)
  rw [if_neg e3]
  obtain ⟨A, cap, rfl, _, _⟩ := hp
  by_cases e4 : kind = 4
  · subst e4
    simp only [↓reduceIte]
    exact call_close b g W H o rest _ _ _ _ _ A ps.length cap w hd h (k4 rfl)
  rw [if_neg e4]
  exact call_none b g W H o rest _ _ _ _ _ kind A ps.length cap w h (by omega)
end Go.Proofs.Ytmgcbodlolnheaa
