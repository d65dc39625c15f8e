/-
  'laws.FnMovedIsMoved': the walk.
-/
import Derived.Test.YtmgcbodlolnheaaEqual
import Derived.Test.YtmgcbodlolnheaaMoved
namespace Go.Proofs.Ytmgcbodlolnheaa.fnMoved
open Go.ChangeShapes Go.WideShapes Go.ChangeAt Go.RowKit
set_option linter.unusedVariables false

def min4 (x y z u : Int) : Int := if u < (if z < (if y < x then y else x) then z else (if y < x then y else x)) then u else (if z < (if y < x then y else x) then z else (if y < x then y else x))
theorem min4_neg {x y z u : Int} : min4 x y z u < 0 ↔ (x < 0 ∨ y < 0 ∨ z < 0 ∨ u < 0) := by
  unfold min4
  split <;> split <;> (try split) <;> (try split) <;> omega
@[go_sem] theorem run_min_int4 {P : Program} {w : World} (ts : Array TypeId) (t : TypeId) (k k1 k2 k3 : IntKind) (x y z u : Int) : (Builtin.min_ ts t #[.int k x, .int k1 y, .int k2 z, .int k3 u]).run P w = .ok (.int k (min4 x y z u)) w := by
  simp [Builtin.min_, Builtin.min2, min4]
def max2 (x y : Int) : Int := if x < y then y else x
theorem max2_le {x y z : Int} : max2 x y ≤ z ↔ (x ≤ z ∧ y ≤ z) := by
  unfold max2
  split <;> omega
@[go_sem ↓] theorem run_max_int2' {P : Program} {w : World} (ts : Array TypeId) (t : TypeId) (k k1 : IntKind) (x y : Int) : (Builtin.max_ ts t #[.int k x, .int k1 y]).run P w = .ok (.int k (max2 x y)) w := by
  simp [Builtin.max_, Builtin.max2, max2]
/-- The rest of the law, k points moved. -/
def MovedS (w : World) (W H : Int) (pts : List (Int × Int)) (dx dy : Int) (k : Nat) (v : Value) (wr : World) : Prop :=
  wr.ownsRow w.heap.size 28 2 v k (ptCells ((pts.map (mv dx dy)).take k)) ∧ (∀ q ∈ pts.take k, Within W.toNat H.toNat q ∧ Within W.toNat H.toNat (mv dx dy q)) ∧ Same w wr

/-- Own rows: one point more. -/
theorem movedS_next {w wr w1 : World} {W H : Int} {pts : List (Int × Int)} {dx dy : Int} {k : Nat} {v v' : Value} {x y : Int} {o1 o2 o3 : Obj} (hlt : k < pts.length) (he : pts.take (k + 1) = pts.take k ++ [(x, y)])
    (q1 : wr.ownsRow w.heap.size 28 2 v k (ptCells ((pts.map (mv dx dy)).take k))) (q2 : ∀ q ∈ pts.take k, Within W.toNat H.toNat q ∧ Within W.toNat H.toNat (mv dx dy q)) (q3 : Same w wr)
    (hown : w1.ownsRow w.heap.size 28 2 v' (k + 1) (ptCells ((pts.map (mv dx dy)).take k) ++ [.int .i64 (x + 64 * dx), .int .i64 (y + 64 * dy)])) (hg : (((wr.alloc o1).alloc o2).alloc o3).grownBy w1 v.ownBlock)
    (hn : 0 ≤ x ∧ 0 ≤ y ∧ 0 ≤ x + 64 * dx ∧ 0 ≤ y + 64 * dy) (hx : x ≤ 64 * W ∧ x + 64 * dx ≤ 64 * W) (hy : y ≤ 64 * H ∧ y + 64 * dy ≤ 64 * H) (hW : 0 ≤ W) (hH : 0 ≤ H) : MovedS w W H pts dx dy (k + 1) v' w1 := by
  have e : (pts.map (mv dx dy)).take (k + 1) = (pts.map (mv dx dy)).take k ++ [(x + 64 * dx, y + 64 * dy)] := by
    rw [← List.map_take, he, List.map_append, List.map_take]
    rfl
  refine ⟨?_, ?_, ?_⟩
  · rw [e, ptCells_snoc]
    exact hown
  · intro q hq
    rw [he, List.mem_append] at hq
    rcases hq with hq | hq
    · exact q2 q hq
    · simp only [List.mem_singleton] at hq
      subst hq
      have eW : (W.toNat : Int) = W := Int.toNat_of_nonneg hW
      have eH : (H.toNat : Int) = H := Int.toNat_of_nonneg hH
      unfold Within mv
      simp only
      rw [eW, eH]
      omega
  · exact own_same28 (((q1.alloc o1).alloc o2).alloc o3) (Nat.le_refl _) (((q3.alloc _).alloc _).alloc _) hg
theorem idx_bd {W H x y : Nat} (hy : y < H) (hx : x < W) : 0 ≤ (y : Int) * (W : Int) + x ∧ (y : Int) * (W : Int) + x < (W * H : Nat) := by
  refine ⟨Int.add_nonneg (Int.mul_nonneg (by omega) (by omega)) (by omega), ?_⟩
  have h1 : (y + 1) * W ≤ H * W := Nat.mul_le_mul_right W hy
  rw [Nat.add_mul, Nat.one_mul, Nat.mul_comm H W] at h1
  rw [← Int.natCast_mul]
  omega
theorem path_len (W H : Nat) {mode : Bool} {pts : List (Int × Int)} (hne : pts ≠ []) : (stepOps W H (pathOps pts) (startS mode (W * H))).B.len = W * H := by
  cases pts with
  | nil => exact absurd rfl hne
  | cons a t => rw [path_run]; show (edgesB _ _ _ _).len = _; rw [len_edgesB]; exact len_zeroB _ _
set_option maxHeartbeats 2000000 in
set_option maxRecDepth 100000 in
theorem walk_long (W H : Nat) (dx dy : Int) (pts : List (Int × Int)) (g off cap : Nat) (w : World) (hs : sizedB (W : Int) (H : Int) = true) (hW : (W : Int) ≤ 500) (hH : (H : Int) ≤ 500) (hin : withinB pts 128000 = true) (d1 : -2000 ≤ dx) (d2 : dx ≤ 2000) (d3 : -2000 ≤ dy) (d4 : dy ≤ 2000)
    (hp : PtsCells w w.heap.size g off pts) (hl : pts.length ≤ 1000) (hl3 : 3 ≤ pts.length) :
    Calls Try.prog 5 #[.int .i64 W, .int .i64 H, .slice (some ⟨g, off, none⟩) pts.length cap, .int .i64 dx, .int .i64 dy] w fun e w' => e = .returned (.bool true) ∧ Same w w' := by
  obtain ⟨s1, s2, s3, s4, s5⟩ := sizedB_iff.1 hs
  have HS := hid hs
  have HP := hid hp
  have HIN := hid hin
  obtain ⟨i0, hi, hz0, hz1, hz2⟩ := info_parts info28
  have hg := hp.1
  clear hs hp hin
  go_enter Try.func5, Try.ntmps5
  go_wp2_with fail
  refine (sized_any (W : Int) (H : Int) w).mono ?_
  rintro e w' ⟨rfl, rfl⟩
  rw [HS.out]
  go_wp2_with fail
  refine (within_cons pts 128000 g off cap w (by omega) (by omega) (by omega) (by omega) HP.out).mono ?_
  rintro e w1 ⟨rfl, t1⟩
  rw [HIN.out]
  have T1 := hid t1
  clear t1
  go_wp2_with fail
  go_loopw [11, 57] (fun v i wr => ∃ k : Nat, k ≤ pts.length ∧ i = .int .i64 k ∧ MovedS w (W : Int) (H : Int) pts dx dy k v wr) (fun _ i _ => pts.length - (intOf i).toNat)
  case atStart => exact ⟨0, Nat.zero_le _, rfl, World.ownsRow_nil _ _ _ _, fun q hq => by simp at hq, T1.out⟩
  case round =>
    obtain ⟨k, hk, rfl, q1, q2, q3⟩ := hrel
    by_cases hlt : k < pts.length
    · have hpc := HP.out.kept q3 (Nat.le_refl _) (fun _ _ hf => hf)
      obtain ⟨c0, c1⟩ := hpc.2 k hlt
      have hgr : g < wr.heap.size := Nat.lt_of_lt_of_le hpc.1 q3.size
      have hfar := (withinB_iff.1 HIN.out).1 (pts[k]) (List.getElem_mem hlt)
      have htake : pts.take (k + 1) = pts.take k ++ [pts[k]] := by rw [List.take_succ_eq_append_getElem hlt]
      generalize pts[k] = q at c0 c1 hfar htake
      obtain ⟨x, y⟩ := q
      simp only at c0 c1 hfar
      obtain ⟨⟨f1, f2⟩, f3, f4⟩ := hfar
      have HT := hid htake
      have Q1 := hid q1
      have Q2 := hid q2
      have Q3 := hid q3
      clear htake q1 q2 q3 hpc
      by_cases hneg : x < 0 ∨ y < 0 ∨ x + 64 * dx < 0 ∨ y + 64 * dy < 0
      · have hm := min4_neg.2 hneg
        clear hneg
        go_wp2_with fail
        go_ret
        exact ⟨rfl, (((Q3.out.alloc _).alloc _))⟩
      have hm : 0 ≤ min4 x y (x + 64 * dx) (y + 64 * dy) := Int.not_lt.1 fun hc => hneg (min4_neg.1 hc)
      have HNN := hid (show 0 ≤ x ∧ 0 ≤ y ∧ 0 ≤ x + 64 * dx ∧ 0 ≤ y + 64 * dy by omega)
      clear hneg
      by_cases hmx : 64 * W < max2 x (x + 64 * dx)
      · go_wp2_with fail
        go_ret
        exact ⟨rfl, (((Q3.out.alloc _).alloc _))⟩
      have hmx := Int.not_lt.1 hmx
      by_cases hmy : 64 * H < max2 y (y + 64 * dy)
      · go_wp2_with fail
        go_ret
        exact ⟨rfl, (((Q3.out.alloc _).alloc _))⟩
      have hmy := Int.not_lt.1 hmy
      have HMX := hid (max2_le.1 hmx)
      have HMY := hid (max2_le.1 hmy)
      go_wp2_with (at_builtin; refine wpList_append_own _ rfl _ _ 27 rfl w.heap.size 28 i0 (.agg #[.int .i64 0, .int .i64 0]) 2 16 Try.underlying27 hi hz0 hz1 hz2 rfl (by decide) _ _ _ rfl (((Q1.out.alloc _).alloc _).alloc _) ⟨wr.heap.size + 2, 0, none⟩ 1 1 [.int .i64 (x + 64 * dx), .int .i64 (y + 64 * dy)] rfl rfl ?c1 ?c2 ?c3 ?c4 ?c5 ?_)
      case c2 => exact ⟨rfl, rfl⟩
      case c3 => unfold maxLen; omega
      case c4 => omega
      case c5 => have := Q3.out.size; omega
      intro v' w2 hown' hgrow _
      have R := movedS_next hlt HT.out Q1.out Q2.out Q3.out hown' hgrow HNN.out HMX.out HMY.out (by omega) (by omega)
      clear hown' hgrow
      go_wp2_with fail
      go_roundw
      case measure => simp [intOf]; omega
      case rel => exact ⟨k + 1, by omega, by go_num, R⟩
    · obtain rfl : k = pts.length := by omega
      have hne : pts ≠ [] := by rintro rfl; simp at hl3
      have hml : (pts.map (mv dx dy)).length = pts.length := by simp
      rw [List.take_of_length_le (Nat.le_refl _)] at q2
      rw [← hml, List.take_of_length_le (Nat.le_refl _)] at q1
      have hmA : Far pts 262144 := fun q hq => by
        have := (withinB_iff.1 HIN.out).1 q hq
        omega
      have hmB : Far (pts.map (mv dx dy)) 262144 := fun q hq => by
        obtain ⟨q0, hq0, rfl⟩ := List.mem_map.1 hq
        have := (withinB_iff.1 HIN.out).1 q0 hq0
        unfold mv
        simp only
        omega
      have hne' : pts.map (mv dx dy) ≠ [] := by simpa using hne
      have hbig : bigB W H = false := by
        unfold bigB
        rw [decide_eq_false_iff_not]
        omega
      have hWn : W ≤ 2000 := by omega
      have hHn : H ≤ 2000 := by omega
      have hn : W * H ≤ 65536 := by
        have : ((W * H : Nat) : Int) ≤ 65536 := by push_cast; exact s5
        omega
      have hokA : MaskROk (bigB W H) W H (pathOps pts) := by rw [hbig]; exact maskROk_fix W H hne hmA
      have hokB : MaskROk (bigB W H) W H (pathOps (pts.map (mv dx dy))) := by rw [hbig]; exact maskROk_fix W H hne' hmB
      have hptsM := ptsAt_own (n := (pts.map (mv dx dy)).length) rfl (by omega) q1
      have HM := hid hptsM
      have HQ2 := hid q2
      have Q3 := hid q3
      have HOA := hid hokA
      have HOB := hid hokB
      have HB := hid hbig
      clear q1 q2 q3 hokA hokB hbig hptsM
      have hP2 := hid (HP.out.kept Q3.out (Nat.le_refl _) (fun _ _ hf => hf))
      have hsz := Q3.out.size
      go_wp2_with fail
      refine (path_cons pts g off cap wr (by omega) (by omega) ⟨Nat.lt_of_lt_of_le hP2.out.1 hsz, hP2.out.2⟩).mono ?_
      rintro e w2 ⟨vA, rfl, t1, t2⟩
      have T1A := hid t1
      have T2A := hid t2
      clear t1 t2
      go_wp2_with fail
      refine (mask_any W H (pathOps pts) vA w2 (by omega) hWn (by omega) hHn hn T1A.out HOA.out).mono ?_
      rintro e w3 ⟨dA, rfl, hdA, t1, t2⟩
      have BA := hid t1
      have T3 := hid (T2A.out.trans t2)
      clear t1 t2
      go_wp2_with fail
      have HM3 := hid ((HM.out.kept T3.out (Nat.le_refl _) (fun _ _ hf => hf)).mono T3.out.size)
      refine (path_any (pts.map (mv dx dy)) _ w3 (by omega) (by omega) HM3.out).mono ?_
      rintro e w4 ⟨vB, rfl, t1, t2⟩
      have T1B := hid t1
      have T2B := hid t2
      clear t1 t2
      go_wp2_with fail
      refine (mask_any W H (pathOps (pts.map (mv dx dy))) vB w4 (by omega) hWn (by omega) hHn hn T1B.out HOB.out).mono ?_
      rintro e w5 ⟨dB, rfl, hdB, t1, t2⟩
      have BB := hid t1
      have BA5 := hid ((BA.out.drewN 0 |> fun h => (T2B.out.trans t2).blk BA.out id))
      have T5 := hid (((Q3.out.trans T3.out).trans T2B.out).trans t2)
      clear t1 t2
      have hlaw : ∀ (p p' : Nat), p' < W * H → p < W * H → (p' : Int) = p + dy * W + dx → (maskR (bigB W H) W H (pathOps (pts.map (mv dx dy))))[p']? = (maskR (bigB W H) W H (pathOps pts))[p]? := by
        intro p p' h2 h1 he
        rw [HB.out]
        exact moved_law hWn hHn hne HQ2.out he h1 h2
      have hlA : (maskR (bigB W H) W H (pathOps pts)).length = W * H := by rw [maskR, length_maskOf, path_len W H hne]
      have hlB : (maskR (bigB W H) W H (pathOps (pts.map (mv dx dy)))).length = W * H := by rw [maskR, length_maskOf, path_len W H hne']
      generalize maskR (bigB W H) W H (pathOps pts) = mA at BA5 hlA hlaw
      generalize maskR (bigB W H) W H (pathOps (pts.map (mv dx dy))) = mB at BB hlB hlaw
      have HLAW := hid hlaw
      have HLA := hid hlA
      have HLB := hid hlB
      clear hlaw hlA hlB
      go_wp2_with fail
      obtain ⟨w6, hw6⟩ : ∃ w6 : World, w6 = w5 := ⟨_, rfl⟩
      go_loopw [131] (fun i wr => ∃ y : Nat, y ≤ H ∧ i = .int .i64 y ∧ Same w5 wr) (fun i _ => H - (intOf i).toNat)
      case atStart => exact ⟨0, Nat.zero_le _, rfl, Kept.refl _ _⟩
      case round =>
        obtain ⟨y, hy, rfl, hsy⟩ := hrel
        have HSY := hid hsy
        clear hsy
        by_cases hyl : y < H
        · obtain ⟨wo, rfl⟩ : ∃ wo : World, wo = wr := ⟨_, rfl⟩
          go_wp2_with fail
          go_loopw [135] (fun i wr => ∃ x : Nat, x ≤ W ∧ i = .int .i64 x ∧ Same w5 wr) (fun i _ => W - (intOf i).toNat)
          case atStart => exact ⟨0, Nat.zero_le _, rfl, HSY.out⟩
          case round =>
            obtain ⟨x, hx, rfl, hsx⟩ := hrel
            have HSX := hid hsx
            clear hsx
            by_cases hxl : x < W
            · obtain ⟨i1, i2⟩ := idx_bd hyl hxl
              have hWH : ((W * H : Nat) : Int) ≤ 65536 := by omega
              have e1 : IntKind.i64.wrap ((x : Int) - dx) = (x : Int) - dx := IntWalk.i64_in _ (by omega)
              have e2 : IntKind.i64.wrap ((y : Int) - dy) = (y : Int) - dy := IntWalk.i64_in _ (by omega)
              by_cases k1 : 0 ≤ (x : Int) - dx
              · have K1 : decide (0 ≤ (x : Int) - dx) = true := by simpa using k1
                have K1' : decide (dx ≤ (x : Int)) = true := by simp; omega
                by_cases k2 : (x : Int) - dx < W
                · have K2 : decide ((x : Int) - dx < W) = true := by simpa using k2
                  by_cases k3 : 0 ≤ (y : Int) - dy
                  · have K3 : decide (0 ≤ (y : Int) - dy) = true := by simpa using k3
                    have K3' : decide (dy ≤ (y : Int)) = true := by simp; omega
                    by_cases k4 : (y : Int) - dy < H
                    · have K4 : decide ((y : Int) - dy < H) = true := by simpa using k4
                      obtain ⟨y', hy'⟩ : ∃ y' : Nat, (y : Int) - dy = y' := ⟨((y : Int) - dy).toNat, by omega⟩
                      obtain ⟨x', hx'⟩ : ∃ x' : Nat, (x : Int) - dx = x' := ⟨((x : Int) - dx).toNat, by omega⟩
                      obtain ⟨i3, i4⟩ := idx_bd (W := W) (H := H) (y := y') (x := x') (by omega) (by omega)
                      have eA : ((y : Int) - dy) * (W : Int) + x - dx = (y' : Int) * W + x' := by rw [hy']; omega
                      have m1 : 0 ≤ (y : Int) * (W : Int) := Int.mul_nonneg (by omega) (by omega)
                      have m2 : 0 ≤ ((y : Int) - dy) * (W : Int) := Int.mul_nonneg (by omega) (by omega)
                      have eq : (mB[((y : Int) * (W : Int) + x).toNat]?) = mA[(((y : Int) - dy) * (W : Int) + x - dx).toNat]? := by
                        refine HLAW.out _ _ (by omega) (by omega) ?_
                        rw [Int.toNat_of_nonneg i1, Int.toNat_of_nonneg (by omega), Int.sub_mul]
                        omega
                      have c1 : wr.cell? ⟨dB, ((y : Int) * (W : Int) + x).toNat, none⟩ = some (.int .u8 (mB.getD ((y : Int) * (W : Int) + x).toNat 0)) := byte_cell (HSX.out.blk BB.out id) (by rw [HLB.out]; omega)
                      have c2 : wr.cell? ⟨dA, (((y : Int) - dy) * (W : Int) + x - dx).toNat, none⟩ = some (.int .u8 (mB.getD ((y : Int) * (W : Int) + x).toNat 0)) := by
                        rw [byte_cell (HSX.out.blk BA5.out id) (by rw [HLA.out]; omega)]
                        simp only [List.getD, eq]
                      have w1' : IntKind.i64.wrap ((y : Int) * (W : Int)) = (y : Int) * (W : Int) := IntWalk.i64_in _ (by omega)
                      have w2' : IntKind.i64.wrap ((y : Int) * (W : Int) + x) = (y : Int) * (W : Int) + x := IntWalk.i64_in _ (by omega)
                      have w3' : IntKind.i64.wrap (((y : Int) - dy) * (W : Int)) = ((y : Int) - dy) * (W : Int) := IntWalk.i64_in _ (by omega)
                      have w4' : IntKind.i64.wrap (((y : Int) - dy) * (W : Int) + x) = ((y : Int) - dy) * (W : Int) + x := IntWalk.i64_in _ (by omega)
                      have w5' : IntKind.i64.wrap (((y : Int) - dy) * (W : Int) + x - dx) = ((y : Int) - dy) * (W : Int) + x - dx := IntWalk.i64_in _ (by omega)
                      have l1 : 0 ≤ ((y : Int) - dy) * (W : Int) + x - dx := by omega
                      have l2 : ((y : Int) - dy) * (W : Int) + x - dx < ((W * H : Nat) : Int) := by omega
                      have l1' : dx ≤ ((y : Int) - dy) * (W : Int) + x := by omega
                      have i2' : (y : Int) * (W : Int) + x < (W : Int) * (H : Int) := by rw [← Int.natCast_mul W H]; exact i2
                      have l2' : ((y : Int) - dy) * (W : Int) + x - dx < (W : Int) * (H : Int) := by rw [← Int.natCast_mul W H]; exact l2
                      generalize mB.getD ((y : Int) * (W : Int) + x).toNat 0 = vv at c1 c2
                      clear eq eA hx' hy' i3 i4 k1 k2 k3 k4 m1 m2
                      clear hWH hWn hHn hsz hn s1 s2 s3 s4 s5 hdA hdB hl3
                      go_wp2_with fail
                      go_quiet (fail)
                      go_wp2_with fail
                      go_roundw
                      case measure => simp [intOf]; omega
                      case rel => exact ⟨x + 1, by omega, by go_num, HSX.out.drewN _⟩
                    · have K4 : decide ((y : Int) - dy < H) = false := by simpa using k4
                      clear k1 k2 k3 k4
                      clear hWH hWn hHn hsz hn s1 s2 s3 s4 s5 hdA hdB hl3
                      go_wp2_with fail
                      go_quiet (fail)
                      go_wp2_with fail
                      go_roundw
                      case measure => simp [intOf]; omega
                      case rel => exact ⟨x + 1, by omega, by go_num, HSX.out.drewN _⟩
                  · have K3 : decide (0 ≤ (y : Int) - dy) = false := by simpa using k3
                    have K3' : decide (dy ≤ (y : Int)) = false := by simp; omega
                    clear k1 k2 k3
                    clear hWH hWn hHn hsz hn s1 s2 s3 s4 s5 hdA hdB hl3
                    go_wp2_with fail
                    go_quiet (fail)
                    go_wp2_with fail
                    go_roundw
                    case measure => simp [intOf]; omega
                    case rel => exact ⟨x + 1, by omega, by go_num, HSX.out.drewN _⟩
                · have K2 : decide ((x : Int) - dx < W) = false := by simpa using k2
                  clear k1 k2
                  clear hWH hWn hHn hsz hn s1 s2 s3 s4 s5 hdA hdB hl3
                  go_wp2_with fail
                  go_quiet (fail)
                  go_wp2_with fail
                  go_roundw
                  case measure => simp [intOf]; omega
                  case rel => exact ⟨x + 1, by omega, by go_num, HSX.out.drewN _⟩
              · have K1 : decide (0 ≤ (x : Int) - dx) = false := by simpa using k1
                have K1' : decide (dx ≤ (x : Int)) = false := by simp; omega
                clear k1
                clear hWH hWn hHn hsz hn s1 s2 s3 s4 s5 hdA hdB hl3
                go_wp2_with fail
                go_quiet (fail)
                go_wp2_with fail
                go_roundw
                case measure => simp [intOf]; omega
                case rel => exact ⟨x + 1, by omega, by go_num, HSX.out.drewN _⟩
            · obtain rfl : x = W := by omega
              go_wp2_with fail
              go_roundw
              case measure => simp [intOf]; omega
              case rel => exact ⟨y + 1, by omega, by go_num, HSX.out⟩
        · obtain rfl : y = H := by omega
          go_wp2_with fail
          go_ret
          exact ⟨rfl, T5.out.trans HSY.out⟩
end Go.Proofs.Ytmgcbodlolnheaa.fnMoved
