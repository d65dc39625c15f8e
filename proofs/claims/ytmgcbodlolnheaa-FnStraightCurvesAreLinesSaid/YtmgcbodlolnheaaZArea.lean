/-
  'spec.Area': contract. PRINTED by wip/gen_area2.py.
-/
import Derived.Test.YtmgcbodlolnheaaZAreaLoops
namespace Go.Proofs.Ytmgcbodlolnheaa
open Flt
open Go.ChangeShapes Go.WideShapes Go.ChangeAt Go.RowKit
set_option linter.unusedVariables false
attribute [local go_sem ↓] run_maxI run_minI
set_option maxHeartbeats 40000000 in
set_option maxRecDepth 100000 in
theorem area_cons (l : List Edge) (g off cap : Nat) (X Y : Int) (w : World) (hpos : 0 < l.length) (hlen : l.length ≤ 1000000) (hx : 0 ≤ X ∧ X ≤ 100000) (hy : 0 ≤ Y ∧ Y ≤ 100000) (hp : EdgesCells w w.heap.size g off l) (hnear : ∀ e ∈ l, ENear e) (hok : AreaOk l X Y) :
    Calls Try.prog 46 #[.slice (some ⟨g, off, none⟩) l.length cap, .int .i64 X, .int .i64 Y, .int .i64 64] w fun e w' => e = .returned (.float .f64 (areaW l X Y)) ∧ Same w w' := by
  have HP := hid hp
  have HNE := hid hnear
  have HOK := hid hok.edges
  have hq := hok.o1
  clear hp hnear hok
  obtain ⟨hx1, hx2⟩ := hx
  obtain ⟨hy1, hy2⟩ := hy
  go_enter Try.func46, Try.ntmps46
  go_wp2_with fail
  go_loopw [9, 30] (fun s i wr => ∃ k : Nat, k ≤ l.length ∧ i = .int .i64 k ∧ s = .float .f64 (areaSum (l.take k) X Y 0) ∧ Same w wr) (fun _ i _ => l.length - (intOf i).toNat)
  case atStart => exact ⟨0, Nat.zero_le _, rfl, rfl, Kept.refl _ _⟩
  case round =>
    obtain ⟨k, hk, rfl, rfl, q2⟩ := hrel
    by_cases hlt : k < l.length
    · have hpc := HP.out.kept q2 (Nat.le_refl _) (fun _ _ hf => hf)
      obtain ⟨c0, c1, c2, c3⟩ := hpc.2 k hlt
      have hg : g < wr.heap.size := Nat.lt_of_lt_of_le hpc.1 q2.size
      have hN := HNE.out _ (List.getElem_mem hlt)
      have hE := HOK.out k hlt
      have hnext : areaSum (l.take (k + 1)) X Y 0 = edgeW l[k] X Y (areaSum (l.take k) X Y 0) := by rw [List.take_succ_eq_append_getElem hlt, areaSum_snoc]
      generalize l[k] = e at c0 c1 c2 c3 hN hnext hE
      generalize areaSum (l.take k) X Y 0 = s at hnext hE
      obtain ⟨⟨x0, y0⟩, ⟨x1, y1⟩⟩ := e
      obtain ⟨⟨n1, n2⟩, ⟨n3, n4⟩, ⟨n5, n6⟩, ⟨n7, n8⟩⟩ := hN
      simp only at c0 c1 c2 c3 n1 n2 n3 n4 n5 n6 n7 n8
      have HN := hid hnext
      have Q2 := hid q2
      have HE := hid hE
      clear hpc hnext q2 hE
      by_cases t0 : y1 < y0
      · have hdown : areaSum (l.take (k + 1)) X Y 0 = downW 13830554455654793216 x1 y1 x0 y0 X Y s := by rw [HN.out, edgeW, if_pos t0]
        have hdok : fge64 (top64 y1 Y) (bot64 y0 Y) = false → DownOk 13830554455654793216 x1 y1 x0 y0 X Y s := fun h => HE.out.1 t0 h
        have HD := hid hdown
        have HDO := hid hdok
        have HEN := hid (show ENear ((x1, y1), (x0, y0)) from ⟨⟨n5, n6⟩, ⟨n7, n8⟩, ⟨n1, n2⟩, ⟨n3, n4⟩⟩)
        clear hdown hdok
        cases hge : fge64 (top64 y1 Y) (bot64 y0 Y)
        · obtain ⟨o1, o2, o3, o4⟩ := HDO.out hge
          obtain ⟨hg1, hg2⟩ := fge64_false hge
          by_cases tx : x1 = x0
          · have htx : (x1 != x0) = false := by simp [tx]
            have TX := hid tx
            clear tx
            have hsz := Q2.out.size
            go_wp2_with fail
            go_region
            go_wp2_with fail
            obtain ⟨gc, hgc⟩ : ∃ gc, gc = wr.heap.size + 1 + 1 := ⟨_, rfl⟩
            have START : CutS w wr.heap.size (wr.heap.size + 1) gc 2 2 #[.int .i64 x1, .int .i64 y1, .int .i64 x0, .int .i64 y0] (slope64 x1 y1 x0 y0) [top64 y1 Y, bot64 y0 Y] (((wr.alloc (.cells #[.int .i64 x1, .int .i64 y1, .int .i64 x0, .int .i64 y0] 78)).alloc (.cells #[.float .f64 (slope64 x1 y1 x0 y0)] 51)).alloc (.cells #[.float .f64 (top64 y1 Y), .float .f64 (bot64 y0 Y)] 51)).drew := by
              have hsz2 : (wr.alloc (.cells #[.int .i64 x1, .int .i64 y1, .int .i64 x0, .int .i64 y0] 78)).heap.size = wr.heap.size + 1 := by simp
              have hsz3 : ((wr.alloc (.cells #[.int .i64 x1, .int .i64 y1, .int .i64 x0, .int .i64 y0] 78)).alloc (.cells #[.float .f64 (slope64 x1 y1 x0 y0)] 51)).heap.size = wr.heap.size + 1 + 1 := by simp
              refine CutS.drew ⟨?_, ((Blk.new wr 78 _).alloc _).alloc _, ?_, ((Q2.out.alloc _).alloc _).alloc _, by omega⟩
              · have h9 := World.ownsRow_lit (base := wr.heap.size + 1 + 1) (e := 51) (size := 1) ((wr.alloc (.cells #[.int .i64 x1, .int .i64 y1, .int .i64 x0, .int .i64 y0] 78)).alloc (.cells #[.float .f64 (slope64 x1 y1 x0 y0)] 51)) #[.float .f64 (top64 y1 Y), .float .f64 (bot64 y0 Y)] 2 (by simp) (by unfold maxLen; omega) rfl
                rw [hsz3] at h9
                rw [hgc]
                exact h9
              · have h9 := (Blk.new (wr.alloc (.cells #[.int .i64 x1, .int .i64 y1, .int .i64 x0, .int .i64 y0] 78)) 51 #[.float .f64 (slope64 x1 y1 x0 y0)]).alloc (.cells #[.float .f64 (top64 y1 Y), .float .f64 (bot64 y0 Y)] 51)
                rw [hsz2] at h9
                exact h9
            have HS := hid START
            clear START
            rw [← hgc]
            generalize (((wr.alloc (.cells #[.int .i64 x1, .int .i64 y1, .int .i64 x0, .int .i64 y0] 78)).alloc (.cells #[.float .f64 (slope64 x1 y1 x0 y0)] 51)).alloc (.cells #[.float .f64 (top64 y1 Y), .float .f64 (bot64 y0 Y)] 51)).drew = W1 at HS ⊢
            clear hgc
            generalize wr.heap.size + 1 = gs at HS ⊢
            generalize wr.heap.size = ge at HS ⊢
            have LEN := hid (show 2 = ([top64 y1 Y, bot64 y0 Y]).length by rfl)
            have HCU := hid (show cuts64 x1 y1 x0 y0 X Y = [top64 y1 Y, bot64 y0 Y] by rw [cuts64, if_pos TX.out])
            refine wp_endAt (n := 4) (sort_loop (by kernel_rfl) (w := w) (ge := ge) (gs := gs) (sl := slope64 x1 y1 x0 y0) (a0 := x1) (b0 := y1) (a1 := x0) (b1 := y0) (CS := [top64 y1 Y, bot64 y0 Y]) (by omega) (by omega) HS.out ?_)
            intro _ _ _ _ _ _ _ _ _ _ _ _ _ _ _ _ _ _ _ _ _ _ _ _ _ _ _ _ _ _ _ _ _ _ _ _ _ _ _ W2 q4
            have hd4 := HDO.out hge
            have Q4 := hid (show CutS w ge gs gc 2 2 #[.int .i64 x1, .int .i64 y1, .int .i64 x0, .int .i64 y0] (slope64 x1 y1 x0 y0) (sortTo ([top64 y1 Y, bot64 y0 Y]).length ([top64 y1 Y, bot64 y0 Y])) W2 by rw [← LEN.out]; exact q4)
            have hpc : ∀ i, i + 1 < 2 → (ec64 13830554455654793216 x1 y1 x0 y0 X).PieceOk ((sortTo ([top64 y1 Y, bot64 y0 Y]).length ([top64 y1 Y, bot64 y0 Y])).getD i 0) ((sortTo ([top64 y1 Y, bot64 y0 Y]).length ([top64 y1 Y, bot64 y0 Y])).getD (i + 1) 0) ((ec64 13830554455654793216 x1 y1 x0 y0 X).sum (sortTo ([top64 y1 Y, bot64 y0 Y]).length ([top64 y1 Y, bot64 y0 Y])) s i) := by
              intro i hi
              have P := hd4.pieces i (by rw [HCU.out, ← LEN.out]; exact hi)
              rw [HCU.out] at P
              exact P
            have HPC := hid hpc
            have R := hid (show areaSum (l.take (k + 1)) X Y 0 = (ec64 13830554455654793216 x1 y1 x0 y0 X).sum (sortTo ([top64 y1 Y, bot64 y0 Y]).length ([top64 y1 Y, bot64 y0 Y])) s (2 - 1) by
              rw [HD.out, downW, if_neg (by rw [hge]; decide), HCU.out, ← LEN.out])
            clear q4 hd4 hpc
            generalize sortTo ([top64 y1 Y, bot64 y0 Y]).length ([top64 y1 Y, bot64 y0 Y]) = SC at Q4 HPC R
            go_wp2_with fail
            refine wp_endAt (n := 8) (sum_loop (by kernel_rfl) (w := w) (ge := ge) (gs := gs) (s := s) (sg := 13830554455654793216) (a0 := x1) (b0 := y1) (a1 := x0) (b1 := y0) (X := X) (SC := SC) (by omega) (by omega) rfl rfl HPC.out Q4.out ?_)
            intro _ _ _ _ _ _ _ _ _ _ _ _ _ _ _ _ _ _ _ _ _ _ _ _ _ _ _ _ _ _ _ _ _ _ _ _ _ _ _ _ _ _ _ _ _ _ _ _ _ _ _ W3 q5
            rw [← R.out]
            have SM := hid q5.same
            clear q5
            go_wp2_with fail
            go_roundw
            case measure => simp [intOf]; omega
            case rel => exact ⟨k + 1, by omega, by go_num, rfl, SM.out⟩
          · have htx : (x1 != x0) = true := by simp [tx]
            have TX := hid tx
            have HC0 := hid (o2 tx)
            have HC1 := hid (o3 tx)
            clear tx
            have hsz := Q2.out.size
            go_wp2_with fail
            go_region
            go_wp2_with fail
            obtain ⟨gc, hgc⟩ : ∃ gc, gc = wr.heap.size + 1 + 1 := ⟨_, rfl⟩
            obtain ⟨gl, hgl⟩ : ∃ gl, gl = wr.heap.size + 1 + 1 + 1 := ⟨_, rfl⟩
            have START : CutS w wr.heap.size (wr.heap.size + 1) gc 2 2 #[.int .i64 x1, .int .i64 y1, .int .i64 x0, .int .i64 y0] (slope64 x1 y1 x0 y0) [top64 y1 Y, bot64 y0 Y] (((((wr.alloc (.cells #[.int .i64 x1, .int .i64 y1, .int .i64 x0, .int .i64 y0] 78)).alloc (.cells #[.float .f64 (slope64 x1 y1 x0 y0)] 51)).alloc (.cells #[.float .f64 (top64 y1 Y), .float .f64 (bot64 y0 Y)] 51)).alloc (.cells #[.int .i64 (64 * X), .int .i64 (64 * X + 64)] 3)).drew) ∧ Blk (((((wr.alloc (.cells #[.int .i64 x1, .int .i64 y1, .int .i64 x0, .int .i64 y0] 78)).alloc (.cells #[.float .f64 (slope64 x1 y1 x0 y0)] 51)).alloc (.cells #[.float .f64 (top64 y1 Y), .float .f64 (bot64 y0 Y)] 51)).alloc (.cells #[.int .i64 (64 * X), .int .i64 (64 * X + 64)] 3)).drew) gl 3 #[.int .i64 (64 * X), .int .i64 (64 * X + 64)] := by
              have hsz2 : (wr.alloc (.cells #[.int .i64 x1, .int .i64 y1, .int .i64 x0, .int .i64 y0] 78)).heap.size = wr.heap.size + 1 := by simp
              have hsz3 : ((wr.alloc (.cells #[.int .i64 x1, .int .i64 y1, .int .i64 x0, .int .i64 y0] 78)).alloc (.cells #[.float .f64 (slope64 x1 y1 x0 y0)] 51)).heap.size = wr.heap.size + 1 + 1 := by simp
              have hsz4 : (((wr.alloc (.cells #[.int .i64 x1, .int .i64 y1, .int .i64 x0, .int .i64 y0] 78)).alloc (.cells #[.float .f64 (slope64 x1 y1 x0 y0)] 51)).alloc (.cells #[.float .f64 (top64 y1 Y), .float .f64 (bot64 y0 Y)] 51)).heap.size = wr.heap.size + 1 + 1 + 1 := by simp
              refine ⟨CutS.drew (CutS.alloc ⟨?_, ((Blk.new wr 78 _).alloc _).alloc _, ?_, ((Q2.out.alloc _).alloc _).alloc _, by omega⟩ _), ?_⟩
              · have h9 := World.ownsRow_lit (base := wr.heap.size + 1 + 1) (e := 51) (size := 1) ((wr.alloc (.cells #[.int .i64 x1, .int .i64 y1, .int .i64 x0, .int .i64 y0] 78)).alloc (.cells #[.float .f64 (slope64 x1 y1 x0 y0)] 51)) #[.float .f64 (top64 y1 Y), .float .f64 (bot64 y0 Y)] 2 (by simp) (by unfold maxLen; omega) rfl
                rw [hsz3] at h9
                rw [hgc]
                exact h9
              · have h9 := (Blk.new (wr.alloc (.cells #[.int .i64 x1, .int .i64 y1, .int .i64 x0, .int .i64 y0] 78)) 51 #[.float .f64 (slope64 x1 y1 x0 y0)]).alloc (.cells #[.float .f64 (top64 y1 Y), .float .f64 (bot64 y0 Y)] 51)
                rw [hsz2] at h9
                exact h9
              · have h9 := Blk.new (((wr.alloc (.cells #[.int .i64 x1, .int .i64 y1, .int .i64 x0, .int .i64 y0] 78)).alloc (.cells #[.float .f64 (slope64 x1 y1 x0 y0)] 51)).alloc (.cells #[.float .f64 (top64 y1 Y), .float .f64 (bot64 y0 Y)] 51)) 3 #[.int .i64 (64 * X), .int .i64 (64 * X + 64)]
                rw [hsz4, ← hgl] at h9
                exact h9.drew
            have HS := hid START
            clear START
            rw [← hgl, ← hgc]
            generalize ((((wr.alloc (.cells #[.int .i64 x1, .int .i64 y1, .int .i64 x0, .int .i64 y0] 78)).alloc (.cells #[.float .f64 (slope64 x1 y1 x0 y0)] 51)).alloc (.cells #[.float .f64 (top64 y1 Y), .float .f64 (bot64 y0 Y)] 51)).alloc (.cells #[.int .i64 (64 * X), .int .i64 (64 * X + 64)] 3)).drew = W1 at HS ⊢
            clear hgc hgl
            generalize wr.heap.size + 1 = gs at HS ⊢
            generalize wr.heap.size = ge at HS ⊢
            have HCO := hid (show ∀ j : Nat, j < 2 → CutOk x1 y1 (64 * X + 64 * (j : Int)) (slope64 x1 y1 x0 y0) by
              intro j hj
              rcases (by omega : j = 0 ∨ j = 1) with rfl | rfl
              · rw [show 64 * X + 64 * ((0 : Nat) : Int) = 64 * X by omega]; exact HC0.out
              · rw [show 64 * X + 64 * ((1 : Nat) : Int) = 64 * X + 64 by omega]; exact HC1.out)
            refine wp_endAt (n := 2) (cut_loop (by kernel_rfl) (w := w) (ge := ge) (gs := gs) (gc := gc) (gl := gl) (a0 := x1) (b0 := y1) (a1 := x0) (b1 := y0) (X := X) (Y := Y) HEN.out ⟨hx1, hx2⟩ rfl rfl HCO.out HS.out.1 HS.out.2 ?_)
            intro gd n cap _ _ _ _ _ _ _ _ _ _ _ _ _ _ _ _ _ _ _ _ _ _ _ _ _ _ _ _ _ _ W5 hn2 hn4 q3
            have HL := hid q3.len
            have HSO := hid HS
            clear HS
            have HS := hid q3
            clear q3
            obtain ⟨gc0, hgc0⟩ : ∃ g, g = gc := ⟨_, rfl⟩
            clear hgc0 HSO HCO
            generalize gd = gc at HS ⊢
            have hni : (2 : Int) ≤ (n : Int) := by omega
            have hn4x : n ≤ 4 := by omega
            go_wp2_with fail
            have LEN := hid (show n = (cutsTo x1 y1 x0 y0 X Y 2).length by exact HL.out.symm)
            have HCU := hid (show cuts64 x1 y1 x0 y0 X Y = cutsTo x1 y1 x0 y0 X Y 2 by rw [cutsTo_two TX.out])
            refine wp_endAt (n := 4) (sort_loop (by kernel_rfl) (w := w) (ge := ge) (gs := gs) (sl := slope64 x1 y1 x0 y0) (a0 := x1) (b0 := y1) (a1 := x0) (b1 := y0) (CS := cutsTo x1 y1 x0 y0 X Y 2) (by omega) (by omega) HS.out ?_)
            intro _ _ _ _ _ _ _ _ _ _ _ _ _ _ _ _ _ _ _ _ _ _ _ _ _ _ _ _ _ _ _ _ _ _ _ _ _ _ _ W2 q4
            have hd4 := HDO.out hge
            have Q4 := hid (show CutS w ge gs gc n cap #[.int .i64 x1, .int .i64 y1, .int .i64 x0, .int .i64 y0] (slope64 x1 y1 x0 y0) (sortTo (cutsTo x1 y1 x0 y0 X Y 2).length (cutsTo x1 y1 x0 y0 X Y 2)) W2 by rw [← LEN.out]; exact q4)
            have hpc : ∀ i, i + 1 < n → (ec64 13830554455654793216 x1 y1 x0 y0 X).PieceOk ((sortTo (cutsTo x1 y1 x0 y0 X Y 2).length (cutsTo x1 y1 x0 y0 X Y 2)).getD i 0) ((sortTo (cutsTo x1 y1 x0 y0 X Y 2).length (cutsTo x1 y1 x0 y0 X Y 2)).getD (i + 1) 0) ((ec64 13830554455654793216 x1 y1 x0 y0 X).sum (sortTo (cutsTo x1 y1 x0 y0 X Y 2).length (cutsTo x1 y1 x0 y0 X Y 2)) s i) := by
              intro i hi
              have P := hd4.pieces i (by rw [HCU.out, ← LEN.out]; exact hi)
              rw [HCU.out] at P
              exact P
            have HPC := hid hpc
            have R := hid (show areaSum (l.take (k + 1)) X Y 0 = (ec64 13830554455654793216 x1 y1 x0 y0 X).sum (sortTo (cutsTo x1 y1 x0 y0 X Y 2).length (cutsTo x1 y1 x0 y0 X Y 2)) s (n - 1) by
              rw [HD.out, downW, if_neg (by rw [hge]; decide), HCU.out, ← LEN.out])
            clear q4 hd4 hpc
            generalize sortTo (cutsTo x1 y1 x0 y0 X Y 2).length (cutsTo x1 y1 x0 y0 X Y 2) = SC at Q4 HPC R
            go_wp2_with fail
            refine wp_endAt (n := 8) (sum_loop (by kernel_rfl) (w := w) (ge := ge) (gs := gs) (s := s) (sg := 13830554455654793216) (a0 := x1) (b0 := y1) (a1 := x0) (b1 := y0) (X := X) (SC := SC) (by omega) (by omega) rfl rfl HPC.out Q4.out ?_)
            intro _ _ _ _ _ _ _ _ _ _ _ _ _ _ _ _ _ _ _ _ _ _ _ _ _ _ _ _ _ _ _ _ _ _ _ _ _ _ _ _ _ _ _ _ _ _ _ _ _ _ _ W3 q5
            rw [← R.out]
            have SM := hid q5.same
            clear q5
            go_wp2_with fail
            go_roundw
            case measure => simp [intOf]; omega
            case rel => exact ⟨k + 1, by omega, by go_num, rfl, SM.out⟩
        · have R := hid (show areaSum (l.take (k + 1)) X Y 0 = s by rw [HD.out, downW, if_pos hge])
          rcases fge64_true hge with hg1 | ⟨hg1, hg2⟩
          · clear hge
            go_wp2_with fail
            go_region
            go_wp2_with fail
            go_roundw
            case measure => simp [intOf]; omega
            case rel => exact ⟨k + 1, by omega, by go_num, by rw [R.out], (Q2.out.alloc _).drew⟩
          · clear hge
            go_wp2_with fail
            go_region
            go_wp2_with fail
            go_roundw
            case measure => simp [intOf]; omega
            case rel => exact ⟨k + 1, by omega, by go_num, by rw [R.out], (Q2.out.alloc _).drew⟩
      · have hdown : areaSum (l.take (k + 1)) X Y 0 = downW 4607182418800017408 x0 y0 x1 y1 X Y s := by rw [HN.out, edgeW, if_neg t0]
        have hdok : fge64 (top64 y0 Y) (bot64 y1 Y) = false → DownOk 4607182418800017408 x0 y0 x1 y1 X Y s := fun h => HE.out.2 t0 h
        have HD := hid hdown
        have HDO := hid hdok
        have HEN := hid (show ENear ((x0, y0), (x1, y1)) from ⟨⟨n1, n2⟩, ⟨n3, n4⟩, ⟨n5, n6⟩, ⟨n7, n8⟩⟩)
        clear hdown hdok
        cases hge : fge64 (top64 y0 Y) (bot64 y1 Y)
        · obtain ⟨o1, o2, o3, o4⟩ := HDO.out hge
          obtain ⟨hg1, hg2⟩ := fge64_false hge
          by_cases tx : x0 = x1
          · have htx : (x0 != x1) = false := by simp [tx]
            have TX := hid tx
            clear tx
            have hsz := Q2.out.size
            go_wp2_with fail
            go_region
            go_wp2_with fail
            obtain ⟨gc, hgc⟩ : ∃ gc, gc = wr.heap.size + 1 + 1 := ⟨_, rfl⟩
            have START : CutS w wr.heap.size (wr.heap.size + 1) gc 2 2 #[.int .i64 x0, .int .i64 y0, .int .i64 x1, .int .i64 y1] (slope64 x0 y0 x1 y1) [top64 y0 Y, bot64 y1 Y] (((wr.alloc (.cells #[.int .i64 x0, .int .i64 y0, .int .i64 x1, .int .i64 y1] 78)).alloc (.cells #[.float .f64 (slope64 x0 y0 x1 y1)] 51)).alloc (.cells #[.float .f64 (top64 y0 Y), .float .f64 (bot64 y1 Y)] 51)).drew := by
              have hsz2 : (wr.alloc (.cells #[.int .i64 x0, .int .i64 y0, .int .i64 x1, .int .i64 y1] 78)).heap.size = wr.heap.size + 1 := by simp
              have hsz3 : ((wr.alloc (.cells #[.int .i64 x0, .int .i64 y0, .int .i64 x1, .int .i64 y1] 78)).alloc (.cells #[.float .f64 (slope64 x0 y0 x1 y1)] 51)).heap.size = wr.heap.size + 1 + 1 := by simp
              refine CutS.drew ⟨?_, ((Blk.new wr 78 _).alloc _).alloc _, ?_, ((Q2.out.alloc _).alloc _).alloc _, by omega⟩
              · have h9 := World.ownsRow_lit (base := wr.heap.size + 1 + 1) (e := 51) (size := 1) ((wr.alloc (.cells #[.int .i64 x0, .int .i64 y0, .int .i64 x1, .int .i64 y1] 78)).alloc (.cells #[.float .f64 (slope64 x0 y0 x1 y1)] 51)) #[.float .f64 (top64 y0 Y), .float .f64 (bot64 y1 Y)] 2 (by simp) (by unfold maxLen; omega) rfl
                rw [hsz3] at h9
                rw [hgc]
                exact h9
              · have h9 := (Blk.new (wr.alloc (.cells #[.int .i64 x0, .int .i64 y0, .int .i64 x1, .int .i64 y1] 78)) 51 #[.float .f64 (slope64 x0 y0 x1 y1)]).alloc (.cells #[.float .f64 (top64 y0 Y), .float .f64 (bot64 y1 Y)] 51)
                rw [hsz2] at h9
                exact h9
            have HS := hid START
            clear START
            rw [← hgc]
            generalize (((wr.alloc (.cells #[.int .i64 x0, .int .i64 y0, .int .i64 x1, .int .i64 y1] 78)).alloc (.cells #[.float .f64 (slope64 x0 y0 x1 y1)] 51)).alloc (.cells #[.float .f64 (top64 y0 Y), .float .f64 (bot64 y1 Y)] 51)).drew = W1 at HS ⊢
            clear hgc
            generalize wr.heap.size + 1 = gs at HS ⊢
            generalize wr.heap.size = ge at HS ⊢
            have LEN := hid (show 2 = ([top64 y0 Y, bot64 y1 Y]).length by rfl)
            have HCU := hid (show cuts64 x0 y0 x1 y1 X Y = [top64 y0 Y, bot64 y1 Y] by rw [cuts64, if_pos TX.out])
            refine wp_endAt (n := 4) (sort_loop (by kernel_rfl) (w := w) (ge := ge) (gs := gs) (sl := slope64 x0 y0 x1 y1) (a0 := x0) (b0 := y0) (a1 := x1) (b1 := y1) (CS := [top64 y0 Y, bot64 y1 Y]) (by omega) (by omega) HS.out ?_)
            intro _ _ _ _ _ _ _ _ _ _ _ _ _ _ _ _ _ _ _ _ _ _ _ _ _ _ _ _ _ _ _ _ _ _ _ _ _ _ _ W2 q4
            have hd4 := HDO.out hge
            have Q4 := hid (show CutS w ge gs gc 2 2 #[.int .i64 x0, .int .i64 y0, .int .i64 x1, .int .i64 y1] (slope64 x0 y0 x1 y1) (sortTo ([top64 y0 Y, bot64 y1 Y]).length ([top64 y0 Y, bot64 y1 Y])) W2 by rw [← LEN.out]; exact q4)
            have hpc : ∀ i, i + 1 < 2 → (ec64 4607182418800017408 x0 y0 x1 y1 X).PieceOk ((sortTo ([top64 y0 Y, bot64 y1 Y]).length ([top64 y0 Y, bot64 y1 Y])).getD i 0) ((sortTo ([top64 y0 Y, bot64 y1 Y]).length ([top64 y0 Y, bot64 y1 Y])).getD (i + 1) 0) ((ec64 4607182418800017408 x0 y0 x1 y1 X).sum (sortTo ([top64 y0 Y, bot64 y1 Y]).length ([top64 y0 Y, bot64 y1 Y])) s i) := by
              intro i hi
              have P := hd4.pieces i (by rw [HCU.out, ← LEN.out]; exact hi)
              rw [HCU.out] at P
              exact P
            have HPC := hid hpc
            have R := hid (show areaSum (l.take (k + 1)) X Y 0 = (ec64 4607182418800017408 x0 y0 x1 y1 X).sum (sortTo ([top64 y0 Y, bot64 y1 Y]).length ([top64 y0 Y, bot64 y1 Y])) s (2 - 1) by
              rw [HD.out, downW, if_neg (by rw [hge]; decide), HCU.out, ← LEN.out])
            clear q4 hd4 hpc
            generalize sortTo ([top64 y0 Y, bot64 y1 Y]).length ([top64 y0 Y, bot64 y1 Y]) = SC at Q4 HPC R
            go_wp2_with fail
            refine wp_endAt (n := 8) (sum_loop (by kernel_rfl) (w := w) (ge := ge) (gs := gs) (s := s) (sg := 4607182418800017408) (a0 := x0) (b0 := y0) (a1 := x1) (b1 := y1) (X := X) (SC := SC) (by omega) (by omega) rfl rfl HPC.out Q4.out ?_)
            intro _ _ _ _ _ _ _ _ _ _ _ _ _ _ _ _ _ _ _ _ _ _ _ _ _ _ _ _ _ _ _ _ _ _ _ _ _ _ _ _ _ _ _ _ _ _ _ _ _ _ _ W3 q5
            rw [← R.out]
            have SM := hid q5.same
            clear q5
            go_wp2_with fail
            go_roundw
            case measure => simp [intOf]; omega
            case rel => exact ⟨k + 1, by omega, by go_num, rfl, SM.out⟩
          · have htx : (x0 != x1) = true := by simp [tx]
            have TX := hid tx
            have HC0 := hid (o2 tx)
            have HC1 := hid (o3 tx)
            clear tx
            have hsz := Q2.out.size
            go_wp2_with fail
            go_region
            go_wp2_with fail
            obtain ⟨gc, hgc⟩ : ∃ gc, gc = wr.heap.size + 1 + 1 := ⟨_, rfl⟩
            obtain ⟨gl, hgl⟩ : ∃ gl, gl = wr.heap.size + 1 + 1 + 1 := ⟨_, rfl⟩
            have START : CutS w wr.heap.size (wr.heap.size + 1) gc 2 2 #[.int .i64 x0, .int .i64 y0, .int .i64 x1, .int .i64 y1] (slope64 x0 y0 x1 y1) [top64 y0 Y, bot64 y1 Y] (((((wr.alloc (.cells #[.int .i64 x0, .int .i64 y0, .int .i64 x1, .int .i64 y1] 78)).alloc (.cells #[.float .f64 (slope64 x0 y0 x1 y1)] 51)).alloc (.cells #[.float .f64 (top64 y0 Y), .float .f64 (bot64 y1 Y)] 51)).alloc (.cells #[.int .i64 (64 * X), .int .i64 (64 * X + 64)] 3)).drew) ∧ Blk (((((wr.alloc (.cells #[.int .i64 x0, .int .i64 y0, .int .i64 x1, .int .i64 y1] 78)).alloc (.cells #[.float .f64 (slope64 x0 y0 x1 y1)] 51)).alloc (.cells #[.float .f64 (top64 y0 Y), .float .f64 (bot64 y1 Y)] 51)).alloc (.cells #[.int .i64 (64 * X), .int .i64 (64 * X + 64)] 3)).drew) gl 3 #[.int .i64 (64 * X), .int .i64 (64 * X + 64)] := by
              have hsz2 : (wr.alloc (.cells #[.int .i64 x0, .int .i64 y0, .int .i64 x1, .int .i64 y1] 78)).heap.size = wr.heap.size + 1 := by simp
              have hsz3 : ((wr.alloc (.cells #[.int .i64 x0, .int .i64 y0, .int .i64 x1, .int .i64 y1] 78)).alloc (.cells #[.float .f64 (slope64 x0 y0 x1 y1)] 51)).heap.size = wr.heap.size + 1 + 1 := by simp
              have hsz4 : (((wr.alloc (.cells #[.int .i64 x0, .int .i64 y0, .int .i64 x1, .int .i64 y1] 78)).alloc (.cells #[.float .f64 (slope64 x0 y0 x1 y1)] 51)).alloc (.cells #[.float .f64 (top64 y0 Y), .float .f64 (bot64 y1 Y)] 51)).heap.size = wr.heap.size + 1 + 1 + 1 := by simp
              refine ⟨CutS.drew (CutS.alloc ⟨?_, ((Blk.new wr 78 _).alloc _).alloc _, ?_, ((Q2.out.alloc _).alloc _).alloc _, by omega⟩ _), ?_⟩
              · have h9 := World.ownsRow_lit (base := wr.heap.size + 1 + 1) (e := 51) (size := 1) ((wr.alloc (.cells #[.int .i64 x0, .int .i64 y0, .int .i64 x1, .int .i64 y1] 78)).alloc (.cells #[.float .f64 (slope64 x0 y0 x1 y1)] 51)) #[.float .f64 (top64 y0 Y), .float .f64 (bot64 y1 Y)] 2 (by simp) (by unfold maxLen; omega) rfl
                rw [hsz3] at h9
                rw [hgc]
                exact h9
              · have h9 := (Blk.new (wr.alloc (.cells #[.int .i64 x0, .int .i64 y0, .int .i64 x1, .int .i64 y1] 78)) 51 #[.float .f64 (slope64 x0 y0 x1 y1)]).alloc (.cells #[.float .f64 (top64 y0 Y), .float .f64 (bot64 y1 Y)] 51)
                rw [hsz2] at h9
                exact h9
              · have h9 := Blk.new (((wr.alloc (.cells #[.int .i64 x0, .int .i64 y0, .int .i64 x1, .int .i64 y1] 78)).alloc (.cells #[.float .f64 (slope64 x0 y0 x1 y1)] 51)).alloc (.cells #[.float .f64 (top64 y0 Y), .float .f64 (bot64 y1 Y)] 51)) 3 #[.int .i64 (64 * X), .int .i64 (64 * X + 64)]
                rw [hsz4, ← hgl] at h9
                exact h9.drew
            have HS := hid START
            clear START
            rw [← hgl, ← hgc]
            generalize ((((wr.alloc (.cells #[.int .i64 x0, .int .i64 y0, .int .i64 x1, .int .i64 y1] 78)).alloc (.cells #[.float .f64 (slope64 x0 y0 x1 y1)] 51)).alloc (.cells #[.float .f64 (top64 y0 Y), .float .f64 (bot64 y1 Y)] 51)).alloc (.cells #[.int .i64 (64 * X), .int .i64 (64 * X + 64)] 3)).drew = W1 at HS ⊢
            clear hgc hgl
            generalize wr.heap.size + 1 = gs at HS ⊢
            generalize wr.heap.size = ge at HS ⊢
            have HCO := hid (show ∀ j : Nat, j < 2 → CutOk x0 y0 (64 * X + 64 * (j : Int)) (slope64 x0 y0 x1 y1) by
              intro j hj
              rcases (by omega : j = 0 ∨ j = 1) with rfl | rfl
              · rw [show 64 * X + 64 * ((0 : Nat) : Int) = 64 * X by omega]; exact HC0.out
              · rw [show 64 * X + 64 * ((1 : Nat) : Int) = 64 * X + 64 by omega]; exact HC1.out)
            refine wp_endAt (n := 2) (cut_loop (by kernel_rfl) (w := w) (ge := ge) (gs := gs) (gc := gc) (gl := gl) (a0 := x0) (b0 := y0) (a1 := x1) (b1 := y1) (X := X) (Y := Y) HEN.out ⟨hx1, hx2⟩ rfl rfl HCO.out HS.out.1 HS.out.2 ?_)
            intro gd n cap _ _ _ _ _ _ _ _ _ _ _ _ _ _ _ _ _ _ _ _ _ _ _ _ _ _ _ _ _ _ W5 hn2 hn4 q3
            have HL := hid q3.len
            have HSO := hid HS
            clear HS
            have HS := hid q3
            clear q3
            obtain ⟨gc0, hgc0⟩ : ∃ g, g = gc := ⟨_, rfl⟩
            clear hgc0 HSO HCO
            generalize gd = gc at HS ⊢
            have hni : (2 : Int) ≤ (n : Int) := by omega
            have hn4x : n ≤ 4 := by omega
            go_wp2_with fail
            have LEN := hid (show n = (cutsTo x0 y0 x1 y1 X Y 2).length by exact HL.out.symm)
            have HCU := hid (show cuts64 x0 y0 x1 y1 X Y = cutsTo x0 y0 x1 y1 X Y 2 by rw [cutsTo_two TX.out])
            refine wp_endAt (n := 4) (sort_loop (by kernel_rfl) (w := w) (ge := ge) (gs := gs) (sl := slope64 x0 y0 x1 y1) (a0 := x0) (b0 := y0) (a1 := x1) (b1 := y1) (CS := cutsTo x0 y0 x1 y1 X Y 2) (by omega) (by omega) HS.out ?_)
            intro _ _ _ _ _ _ _ _ _ _ _ _ _ _ _ _ _ _ _ _ _ _ _ _ _ _ _ _ _ _ _ _ _ _ _ _ _ _ _ W2 q4
            have hd4 := HDO.out hge
            have Q4 := hid (show CutS w ge gs gc n cap #[.int .i64 x0, .int .i64 y0, .int .i64 x1, .int .i64 y1] (slope64 x0 y0 x1 y1) (sortTo (cutsTo x0 y0 x1 y1 X Y 2).length (cutsTo x0 y0 x1 y1 X Y 2)) W2 by rw [← LEN.out]; exact q4)
            have hpc : ∀ i, i + 1 < n → (ec64 4607182418800017408 x0 y0 x1 y1 X).PieceOk ((sortTo (cutsTo x0 y0 x1 y1 X Y 2).length (cutsTo x0 y0 x1 y1 X Y 2)).getD i 0) ((sortTo (cutsTo x0 y0 x1 y1 X Y 2).length (cutsTo x0 y0 x1 y1 X Y 2)).getD (i + 1) 0) ((ec64 4607182418800017408 x0 y0 x1 y1 X).sum (sortTo (cutsTo x0 y0 x1 y1 X Y 2).length (cutsTo x0 y0 x1 y1 X Y 2)) s i) := by
              intro i hi
              have P := hd4.pieces i (by rw [HCU.out, ← LEN.out]; exact hi)
              rw [HCU.out] at P
              exact P
            have HPC := hid hpc
            have R := hid (show areaSum (l.take (k + 1)) X Y 0 = (ec64 4607182418800017408 x0 y0 x1 y1 X).sum (sortTo (cutsTo x0 y0 x1 y1 X Y 2).length (cutsTo x0 y0 x1 y1 X Y 2)) s (n - 1) by
              rw [HD.out, downW, if_neg (by rw [hge]; decide), HCU.out, ← LEN.out])
            clear q4 hd4 hpc
            generalize sortTo (cutsTo x0 y0 x1 y1 X Y 2).length (cutsTo x0 y0 x1 y1 X Y 2) = SC at Q4 HPC R
            go_wp2_with fail
            refine wp_endAt (n := 8) (sum_loop (by kernel_rfl) (w := w) (ge := ge) (gs := gs) (s := s) (sg := 4607182418800017408) (a0 := x0) (b0 := y0) (a1 := x1) (b1 := y1) (X := X) (SC := SC) (by omega) (by omega) rfl rfl HPC.out Q4.out ?_)
            intro _ _ _ _ _ _ _ _ _ _ _ _ _ _ _ _ _ _ _ _ _ _ _ _ _ _ _ _ _ _ _ _ _ _ _ _ _ _ _ _ _ _ _ _ _ _ _ _ _ _ _ W3 q5
            rw [← R.out]
            have SM := hid q5.same
            clear q5
            go_wp2_with fail
            go_roundw
            case measure => simp [intOf]; omega
            case rel => exact ⟨k + 1, by omega, by go_num, rfl, SM.out⟩
        · have R := hid (show areaSum (l.take (k + 1)) X Y 0 = s by rw [HD.out, downW, if_pos hge])
          rcases fge64_true hge with hg1 | ⟨hg1, hg2⟩
          · clear hge
            go_wp2_with fail
            go_region
            go_wp2_with fail
            go_roundw
            case measure => simp [intOf]; omega
            case rel => exact ⟨k + 1, by omega, by go_num, by rw [R.out], (Q2.out.alloc _).drew⟩
          · clear hge
            go_wp2_with fail
            go_region
            go_wp2_with fail
            go_roundw
            case measure => simp [intOf]; omega
            case rel => exact ⟨k + 1, by omega, by go_num, by rw [R.out], (Q2.out.alloc _).drew⟩
    · obtain rfl : k = l.length := by omega
      rw [List.take_of_length_le (Nat.le_refl _)]
      have Q2 := hid q2
      clear q2
      go_wp2_with fail
      go_ret
      exact ⟨rfl, Q2.out⟩
end Go.Proofs.Ytmgcbodlolnheaa
