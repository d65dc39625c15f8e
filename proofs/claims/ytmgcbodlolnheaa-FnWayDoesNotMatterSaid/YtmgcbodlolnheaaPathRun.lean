/-
  What a closed path's calls leave: its edges, one line behind the other. No program is walked here.
-/
import Derived.Test.YtmgcbodlolnheaaFixSum
namespace Go.Proofs.Ytmgcbodlolnheaa
open Go.RowKit
set_option linter.unusedVariables false

abbrev Pt := Int × Int
/-- A coordinate in 64ths as a float32. -/
def wq (n : Int) : Nat := fop .quo (floatOfInt .f32 n) 1115684864
theorem wq_ok {n : Int} (h1 : -16777216 ≤ n) (h2 : n ≤ 16777216) : Fok .quo (floatOfInt .f32 n) 1115684864 ∧ Q64 (wq n) n := quo64 h1 h2

/-- The edges of a path that is at cur and began at first. -/
def edgesFrom (first : Pt) : Pt → List Pt → List (Pt × Pt)
  | cur, [] => [(cur, first)]
  | cur, q :: t => (cur, q) :: edgesFrom first q t
def edges : List Pt → List (Pt × Pt)
  | [] => []
  | p :: t => edgesFrom p p t
theorem length_edgesFrom (first : Pt) : ∀ (cur : Pt) (t : List Pt), (edgesFrom first cur t).length = t.length + 1
  | _, [] => rfl
  | cur, q :: t => by simp [edgesFrom, length_edgesFrom first q t]
theorem length_edges (p : List Pt) : (edges p).length = p.length := by
  cases p with
  | nil => rfl
  | cons a t => simp [edges, length_edgesFrom]
theorem mem_edgesFrom {first cur : Pt} {t : List Pt} {e : Pt × Pt} (h : e ∈ edgesFrom first cur t) : (e.1 = cur ∨ e.1 ∈ t) ∧ (e.2 = first ∨ e.2 ∈ t) := by
  induction t generalizing cur with
  | nil => simp [edgesFrom] at h; subst h; simp
  | cons q t ih =>
    rw [edgesFrom, List.mem_cons] at h
    rcases h with rfl | h
    · simp
    · have := ih h
      simp only [List.mem_cons]
      constructor
      · rcases this.1 with h | h
        · exact .inr (.inl h)
        · exact .inr (.inr h)
      · rcases this.2 with h | h
        · exact .inl h
        · exact .inr (.inr h)
theorem mem_edges {p : List Pt} {e : Pt × Pt} (h : e ∈ edges p) : e.1 ∈ p ∧ e.2 ∈ p := by
  cases p with
  | nil => simp [edges] at h
  | cons a t =>
    have := mem_edgesFrom h
    simp only [List.mem_cons]
    exact this

/-- A line along an edge. -/
def edgeB (W : Nat) (H : Int) (e : Pt × Pt) (B : Buf) : Buf := lineB W H (wq e.1.1) (wq e.1.2) (wq e.2.1) (wq e.2.2) B
def EdgeOk (W : Nat) (H : Int) (e : Pt × Pt) (B : Buf) : Prop := LineOk W H (wq e.1.1) (wq e.1.2) (wq e.2.1) (wq e.2.2) B
def edgesB (W : Nat) (H : Int) : List (Pt × Pt) → Buf → Buf
  | [], B => B
  | e :: t, B => edgesB W H t (edgeB W H e B)
def EdgesOk (W : Nat) (H : Int) : List (Pt × Pt) → Buf → Prop
  | [], _ => True
  | e :: t, B => EdgeOk W H e B ∧ EdgesOk W H t (edgeB W H e B)
theorem edgesB_append (W : Nat) (H : Int) : ∀ (s t : List (Pt × Pt)) (B : Buf), edgesB W H (s ++ t) B = edgesB W H t (edgesB W H s B)
  | [], _, _ => rfl
  | e :: s, t, B => by rw [List.cons_append, edgesB, edgesB_append W H s, edgesB]
theorem EdgesOk_append (W : Nat) (H : Int) : ∀ (s t : List (Pt × Pt)) (B : Buf), EdgesOk W H (s ++ t) B ↔ EdgesOk W H s B ∧ EdgesOk W H t (edgesB W H s B)
  | [], _, _ => by simp [EdgesOk, edgesB]
  | e :: s, t, B => by rw [List.cons_append, EdgesOk, EdgesOk, EdgesOk_append W H s, edgesB, and_assoc]
theorem mode_edgesB (W : Nat) (H : Int) : ∀ (s : List (Pt × Pt)) (B : Buf), (edgesB W H s B).mode = B.mode
  | [], _ => rfl
  | e :: s, B => by rw [edgesB, mode_edgesB W H s, edgeB, mode_lineB]
theorem len_edgesB (W : Nat) (H : Int) : ∀ (s : List (Pt × Pt)) (B : Buf), (edgesB W H s B).len = B.len
  | [], _ => rfl
  | e :: s, B => by rw [edgesB, len_edgesB W H s, edgeB, len_lineB]

theorem zipIdx_ones (t : List Pt) : ∀ n, 1 ≤ n → (t.zipIdx n).map (fun p => ((if p.2 = 0 then 0 else 1 : Int), [p.1.1, p.1.2])) = t.map fun p => (1, [p.1, p.2]) := by
  induction t with
  | nil => intro n _; rfl
  | cons a t ih =>
    intro n hn
    rw [List.zipIdx_cons, List.map_cons, List.map_cons, ih (n + 1) (by omega), if_neg (by simp only; omega)]
theorem pathOps_cons (p : Pt) (t : List Pt) : pathOps (p :: t) = (0, [p.1, p.2]) :: (t.map fun q => (1, [q.1, q.2])) ++ [(4, [])] := by
  unfold pathOps lineOps
  rw [List.zipIdx_cons, List.map_cons, zipIdx_ones t _ (by omega)]
  rfl
theorem atF_two (x y : Int) : atF [x, y] 0 = wq x ∧ atF [x, y] 1 = wq y := ⟨rfl, rfl⟩

theorem run_lines (W : Nat) (H : Int) : ∀ (t : List Pt) (cur first : Pt) (B : Buf),
    stepOps W H ((t.map fun q => (1, [q.1, q.2])) ++ [(4, [])]) ⟨wq first.1, wq first.2, wq cur.1, wq cur.2, B⟩ = ⟨wq first.1, wq first.2, wq first.1, wq first.2, edgesB W H (edgesFrom first cur t) B⟩
  | [], cur, first, B => by
    simp [stepOps, stepOp, edgesFrom, edgesB, edgeB]
  | q :: t, cur, first, B => by
    rw [List.map_cons, List.cons_append, stepOps]
    have e : stepOp W H (1, [q.1, q.2]) ⟨wq first.1, wq first.2, wq cur.1, wq cur.2, B⟩ = ⟨wq first.1, wq first.2, wq q.1, wq q.2, edgeB W H (cur, q) B⟩ := by
      simp [stepOp, atF_two, edgeB]
    rw [e, run_lines W H t q first, edgesFrom, edgesB]
theorem run_lines_ok (W : Nat) (H : Int) : ∀ (t : List Pt) (cur first : Pt) (B : Buf), (∀ q ∈ t, AtOk [q.1, q.2]) → EdgesOk W H (edgesFrom first cur t) B →
    StepsOpOk W H ((t.map fun q => (1, [q.1, q.2])) ++ [(4, [])]) ⟨wq first.1, wq first.2, wq cur.1, wq cur.2, B⟩
  | [], cur, first, B, _, h => by
    refine ⟨⟨fun p hp => by simp at hp, by simp, by simp, by simp, fun _ => h.1⟩, trivial⟩
  | q :: t, cur, first, B, ha, h => by
    rw [List.map_cons, List.cons_append, StepsOpOk]
    have e : stepOp W H (1, [q.1, q.2]) ⟨wq first.1, wq first.2, wq cur.1, wq cur.2, B⟩ = ⟨wq first.1, wq first.2, wq q.1, wq q.2, edgeB W H (cur, q) B⟩ := by
      simp [stepOp, atF_two, edgeB]
    rw [e]
    exact ⟨⟨ha q (by simp), fun _ => h.1, by simp, by simp, by simp⟩, run_lines_ok W H t q first _ (fun p hp => ha p (by simp [hp])) h.2⟩
/-- A closed path. -/
theorem path_run (W : Nat) (H : Int) (p : Pt) (t : List Pt) (s : RS) :
    stepOps W H (pathOps (p :: t)) s = ⟨wq p.1, wq p.2, wq p.1, wq p.2, edgesB W H (edges (p :: t)) s.B⟩ := by
  rw [pathOps_cons, List.cons_append, stepOps]
  have e : stepOp W H (0, [p.1, p.2]) s = ⟨wq p.1, wq p.2, wq p.1, wq p.2, s.B⟩ := by simp [stepOp, atF_two]
  rw [e, run_lines]
  rfl
theorem path_run_ok (W : Nat) (H : Int) (p : Pt) (t : List Pt) (s : RS) (ha : ∀ q ∈ p :: t, AtOk [q.1, q.2]) (h : EdgesOk W H (edges (p :: t)) s.B) : StepsOpOk W H (pathOps (p :: t)) s := by
  rw [pathOps_cons, List.cons_append, StepsOpOk]
  have e : stepOp W H (0, [p.1, p.2]) s = ⟨wq p.1, wq p.2, wq p.1, wq p.2, s.B⟩ := by simp [stepOp, atF_two]
  rw [e]
  exact ⟨⟨ha p (by simp), by simp, by simp, by simp, by simp⟩, run_lines_ok W H t p p _ (fun q hq => ha q (by simp [hq])) h⟩
theorem atOk_of {q : Pt} (h1 : -16777216 ≤ q.1 ∧ q.1 ≤ 16777216) (h2 : -16777216 ≤ q.2 ∧ q.2 ≤ 16777216) : AtOk [q.1, q.2] := by
  intro p hp
  simp at hp
  rcases hp with rfl | rfl
  · exact (quo64 h1.1 h1.2).1
  · exact (quo64 h2.1 h2.2).1
/-- Points no farther than that. -/
def Far (pts : List Pt) (m : Int) : Prop := ∀ q ∈ pts, (-m ≤ q.1 ∧ q.1 ≤ m) ∧ (-m ≤ q.2 ∧ q.2 ≤ m)
/-- The mask of a closed path. -/
theorem maskR_path (mode : Bool) (W H : Nat) {pts : List Pt} (hne : pts ≠ []) : maskR mode W H (pathOps pts) = maskOf (edgesB W H (edges pts) (zeroB mode (W * H))) := by
  cases pts with
  | nil => exact absurd rfl hne
  | cons p t => rw [maskR, path_run]; rfl
theorem maskROk_path (mode : Bool) (W H : Nat) {pts : List Pt} (hne : pts ≠ []) (hf : Far pts 16777216) (h1 : EdgesOk W H (edges pts) (zeroB mode (W * H))) (h2 : MaskOk (edgesB W H (edges pts) (zeroB mode (W * H)))) :
    MaskROk mode W H (pathOps pts) := by
  cases pts with
  | nil => exact absurd rfl hne
  | cons p t =>
    refine ⟨path_run_ok W H p t _ (fun q hq => atOk_of (hf q hq).1 (hf q hq).2) h1, ?_⟩
    rw [path_run]
    exact h2

/-! ### in the numbers of fixed point -/
def fixUpL (s : Bool) (W : Nat) (H : Int) (ax ay bx qy : Nat) : List (Nat × Int) :=
  if fle (fop .sub qy ay) 897988541 = true then []
  else (fxl s ax ay bx qy).adds W (fxEnd qy H - fxBeg ay).toNat (fxBeg ay) (fint (fop .mul ax 1140850688))
def fixLineL (W : Nat) (H : Int) (px py qx qy : Nat) : List (Nat × Int) := if fgt py qy = true then fixUpL true W H qx qy px py else fixUpL false W H px py qx qy
theorem fixLine_bumps (W : Nat) (H : Int) (px py qx qy : Nat) (l : List Int) : fixLine W H px py qx qy l = bumps (fixLineL W H px py qx qy) l := by
  unfold fixLine fixLineL fixUp fixUpL
  split <;> split <;> first | rfl | rw [FL.run_bumps]
/-- The additions of an edge. -/
def edgeL (W : Nat) (H : Int) (e : Pt × Pt) : List (Nat × Int) := fixLineL W H (wq e.1.1) (wq e.1.2) (wq e.2.1) (wq e.2.2)
def edgesL (W : Nat) (H : Int) : List (Pt × Pt) → List (Nat × Int)
  | [] => []
  | e :: t => edgeL W H e ++ edgesL W H t
theorem edgesL_append (W : Nat) (H : Int) : ∀ (s t : List (Pt × Pt)), edgesL W H (s ++ t) = edgesL W H s ++ edgesL W H t
  | [], _ => rfl
  | e :: s, t => by rw [List.cons_append, edgesL, edgesL_append W H s, edgesL, List.append_assoc]
theorem edgesB_fix (W : Nat) (H : Int) : ∀ (es : List (Pt × Pt)) (l : List Int), edgesB W H es (.fix l) = .fix (bumps (edgesL W H es) l)
  | [], _ => rfl
  | e :: t, l => by rw [edgesB, edgeB, lineB, fixLine_bumps, edgesB_fix W H t, edgesL, bumps_append]; rfl
theorem EdgesOk_fix (W : Nat) (H : Int) : ∀ (es : List (Pt × Pt)) (l : List Int), (∀ e ∈ es, ((-262144 ≤ e.1.1 ∧ e.1.1 ≤ 262144) ∧ (-262144 ≤ e.1.2 ∧ e.1.2 ≤ 262144)) ∧ ((-262144 ≤ e.2.1 ∧ e.2.1 ≤ 262144) ∧ (-262144 ≤ e.2.2 ∧ e.2.2 ≤ 262144))) → EdgesOk W H es (.fix l)
  | [], _, _ => trivial
  | e :: t, l, h => by
    obtain ⟨⟨h1, h2⟩, h3, h4⟩ := h e (by simp)
    refine ⟨fixOk_sixty (wq_ok (by omega) (by omega)).2 (wq_ok (by omega) (by omega)).2 (wq_ok (by omega) (by omega)).2 (wq_ok (by omega) (by omega)).2 h1 h2 h3 h4, ?_⟩
    show EdgesOk W H t (.fix _)
    exact EdgesOk_fix W H t _ fun e' he => h e' (by simp [he])
theorem maskR_fix (W H : Nat) {pts : List Pt} (hne : pts ≠ []) : maskR false W H (pathOps pts) = fixBytes 0 (bumps (edgesL W H (edges pts)) (List.replicate (W * H) 0)) := by
  rw [maskR_path false W H hne, show zeroB false (W * H) = .fix (List.replicate (W * H) 0) from rfl, edgesB_fix]
  rfl
theorem maskROk_fix (W H : Nat) {pts : List Pt} (hne : pts ≠ []) (hf : Far pts 262144) : MaskROk false W H (pathOps pts) := by
  refine maskROk_path false W H hne (fun q hq => by have := hf q hq; omega) ?_ ?_
  · refine EdgesOk_fix W H _ _ fun e he => ?_
    obtain ⟨h1, h2⟩ := mem_edges he
    exact ⟨hf _ h1, hf _ h2⟩
  · rw [show zeroB false (W * H) = .fix (List.replicate (W * H) 0) from rfl, edgesB_fix]
    trivial
end Go.Proofs.Ytmgcbodlolnheaa
