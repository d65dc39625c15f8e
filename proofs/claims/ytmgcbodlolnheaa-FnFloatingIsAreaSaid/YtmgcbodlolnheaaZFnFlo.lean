/- With floating numbers, of closed paths through points in 64ths of a pixel, each pixel is covered by the area that they go round, but for 2 of 255, and a hundredth for each edge in each row that the longest edge has. No condition beyond the statement's own. -/
import Derived.Test.YtmgcbodlolnheaaZ25
import Derived.Test.YtmgcbodlolnheaaZ15
import Derived.Test.YtmgcbodlolnheaaZ06
import Derived.Test.YtmgcbodlolnheaaZ24
namespace Go.Proofs.Ytmgcbodlolnheaa
open Flt
open Go.ChangeShapes Go.WideShapes Go.ChangeAt Go.RowKit
set_option linter.unusedVariables false
attribute [local go_sem ↓] run_maxI run_minI
set_option maxHeartbeats 40000000 in
set_option maxRecDepth 100000 in
theorem area_cons (l : List Edge) (g off cap : Nat) (X Y : Int) (w : World) (hpos : 0 < l.length) (hlen : l.length <= 1000000) (hx : 0 <= X /\ X <= 100000) (hy : 0 <= Y /\ Y <= 100000) (hp : EdgesCells w w.heap.size g off l) (hnear : ∀ e ∈ l, ENear e) (hok : AreaOk l X Y) :
  Calls Try.prog 46 #[.slice (some ⟨g, off, none⟩) l.length cap, .int .i64 X, .int .i64 Y, .int .i64 64] w fun e w' => e = .returned (.float .f64 (areaW l X Y)) /\ Same w w' := by
 have HP := hid hp
 have HNE := hid hnear
 have HOK := hid hok.edges
 have hq := hok.o1
 clear hp hnear hok
 obtain ⟨hx1, hx2⟩ := hx
 obtain ⟨hy1, hy2⟩ := hy
 go_enter Try.func46, Try.ntmps46
 go_wp2_with fail
 go_loopw [9, 30] (fun s i wr => ∃ k : Nat, k <= l.length /\ i = .int .i64 k /\ s = .float .f64 (areaSum (l.take k) X Y 0) /\ Same w wr) (fun _ i _ => l.length - (intOf i).toNat)
 case atStart => exact ⟨0, Nat.zero_le _, rfl, rfl, Kept.refl _ _⟩
 case round =>
  obtain ⟨k, hk, rfl, rfl, q2⟩ := hrel
  by_cases hlt : k < l.length
  ·have hpc := HP.out.kept q2 (Nat.le_refl _) (fun _ _ hf => hf)
   obtain ⟨c0, c1, c2, c3⟩ := hpc.2 k hlt
   have hg : g < wr.heap.size := Nat.lt_of_lt_of_le hpc.1 q2.size
   have hN := HNE.out _ (List.getElem_mem hlt)
   have hE := HOK.out k hlt
   have hnext : areaSum (l.take (k + 1)) X Y 0 = edgeW l[k] X Y (areaSum (l.take k) X Y 0) := by rw [List.take_succ_eq_append_getElem hlt, areaSum_snoc]
   generalize l[k] = e at c0 c1 c2 c3 hN hnext hE
   generalize areaSum (l.take k) X Y 0 = s at hnext hE
   obtain ⟨⟨x0, y0⟩, ⟨x1, y1⟩⟩ := e
   obtain ⟨⟨n1, n2⟩, ⟨n3, n4⟩, ⟨n5, n6⟩, ⟨n7, n8⟩⟩ := hN
   simp only at c0 c1 c2 c3 n1 n2 n3 n4 n5 n6 n7 n8
   have HN := hid hnext
   have Q2 := hid q2
   have HE := hid hE
   clear hpc hnext q2 hE
   by_cases t0 : y1 < y0
   ·have hdown : areaSum (l.take (k + 1)) X Y 0 = downW 13830554455654793216 x1 y1 x0 y0 X Y s := by rw [HN.out, edgeW, if_pos t0]
    have hdok : fge64 (top64 y1 Y) (bot64 y0 Y) = false -> DownOk 13830554455654793216 x1 y1 x0 y0 X Y s := fun h => HE.out.1 t0 h
    have HD := hid hdown
    have HDO := hid hdok
    have HEN := hid (show ENear ((x1, y1), (x0, y0)) from ⟨⟨n5, n6⟩, ⟨n7, n8⟩, ⟨n1, n2⟩, ⟨n3, n4⟩⟩)
    clear hdown hdok
    cases hge : fge64 (top64 y1 Y) (bot64 y0 Y)
    ·obtain ⟨o1, o2, o3, o4⟩ := HDO.out hge
     obtain ⟨hg1, hg2⟩ := fge64_false hge
     by_cases tx : x1 = x0
     ·have htx : (x1 != x0) = false := by simp [tx]
      have TX := hid tx
      clear tx
      have hsz := Q2.out.size
      go_wp2_with fail
      go_region
      go_wp2_with fail
      obtain ⟨gc, hgc⟩ : ∃ gc, gc = wr.heap.size + 1 + 1 := ⟨_, rfl⟩
      have START : CutS w wr.heap.size (wr.heap.size + 1) gc 2 2 #[.int .i64 x1, .int .i64 y1, .int .i64 x0, .int .i64 y0] (slope64 x1 y1 x0 y0) [top64 y1 Y, bot64 y0 Y] (((wr.alloc (.cells #[.int .i64 x1, .int .i64 y1, .int .i64 x0, .int .i64 y0] 78)).alloc (.cells #[.float .f64 (slope64 x1 y1 x0 y0)] 51)).alloc (.cells #[.float .f64 (top64 y1 Y), .float .f64 (bot64 y0 Y)] 51)).drew := by
       have hsz2 : (wr.alloc (.cells #[.int .i64 x1, .int .i64 y1, .int .i64 x0, .int .i64 y0] 78)).heap.size = wr.heap.size + 1 := by simp
       have hsz3 : ((wr.alloc (.cells #[.int .i64 x1, .int .i64 y1, .int .i64 x0, .int .i64 y0] 78)).alloc (.cells #[.float .f64 (slope64 x1 y1 x0 y0)] 51)).heap.size = wr.heap.size + 1 + 1 := by simp
       refine CutS.drew ⟨?_, ((Blk.new wr 78 _).alloc _).alloc _, ?_, ((Q2.out.alloc _).alloc _).alloc _, by omega⟩
       ·have h9 := World.ownsRow_lit (base := wr.heap.size + 1 + 1) (e := 51) (size := 1) ((wr.alloc (.cells #[.int .i64 x1, .int .i64 y1, .int .i64 x0, .int .i64 y0] 78)).alloc (.cells #[.float .f64 (slope64 x1 y1 x0 y0)] 51)) #[.float .f64 (top64 y1 Y), .float .f64 (bot64 y0 Y)] 2 (by simp) (by unfold maxLen; omega) rfl
        rw [hsz3] at h9
        rw [hgc]
        exact h9
       ·have h9 := (Blk.new (wr.alloc (.cells #[.int .i64 x1, .int .i64 y1, .int .i64 x0, .int .i64 y0] 78)) 51 #[.float .f64 (slope64 x1 y1 x0 y0)]).alloc (.cells #[.float .f64 (top64 y1 Y), .float .f64 (bot64 y0 Y)] 51)
        rw [hsz2] at h9
        exact h9
      have HS := hid START
      clear START
      rw [<- hgc]
      generalize (((wr.alloc (.cells #[.int .i64 x1, .int .i64 y1, .int .i64 x0, .int .i64 y0] 78)).alloc (.cells #[.float .f64 (slope64 x1 y1 x0 y0)] 51)).alloc (.cells #[.float .f64 (top64 y1 Y), .float .f64 (bot64 y0 Y)] 51)).drew = W1 at HS ⊢
      clear hgc
      generalize wr.heap.size + 1 = gs at HS ⊢
      generalize wr.heap.size = ge at HS ⊢
      have LEN := hid (show 2 = ([top64 y1 Y, bot64 y0 Y]).length by rfl)
      have HCU := hid (show cuts64 x1 y1 x0 y0 X Y = [top64 y1 Y, bot64 y0 Y] by rw [cuts64, if_pos TX.out])
      refine wp_endAt (n := 4) (sort_loop (by kernel_rfl) (w := w) (ge := ge) (gs := gs) (sl := slope64 x1 y1 x0 y0) (a0 := x1) (b0 := y1) (a1 := x0) (b1 := y0) (CS := [top64 y1 Y, bot64 y0 Y]) (by omega) (by omega) HS.out ?_)
      intro _ _ _ _ _ _ _ _ _ _ _ _ _ _ _ _ _ _ _ _ _ _ _ _ _ _ _ _ _ _ _ _ _ _ _ _ _ _ _ W2 q4
      have hd4 := HDO.out hge
      have Q4 := hid (show CutS w ge gs gc 2 2 #[.int .i64 x1, .int .i64 y1, .int .i64 x0, .int .i64 y0] (slope64 x1 y1 x0 y0) (sortTo ([top64 y1 Y, bot64 y0 Y]).length ([top64 y1 Y, bot64 y0 Y])) W2 by rw [<- LEN.out]; exact q4)
      have hpc : ∀ i, i + 1 < 2 -> (ec64 13830554455654793216 x1 y1 x0 y0 X).PieceOk ((sortTo ([top64 y1 Y, bot64 y0 Y]).length ([top64 y1 Y, bot64 y0 Y])).getD i 0) ((sortTo ([top64 y1 Y, bot64 y0 Y]).length ([top64 y1 Y, bot64 y0 Y])).getD (i + 1) 0) ((ec64 13830554455654793216 x1 y1 x0 y0 X).sum (sortTo ([top64 y1 Y, bot64 y0 Y]).length ([top64 y1 Y, bot64 y0 Y])) s i) := by
       intro i hi
       have P := hd4.pieces i (by rw [HCU.out, <- LEN.out]; exact hi)
       rw [HCU.out] at P
       exact P
      have HPC := hid hpc
      have R := hid (show areaSum (l.take (k + 1)) X Y 0 = (ec64 13830554455654793216 x1 y1 x0 y0 X).sum (sortTo ([top64 y1 Y, bot64 y0 Y]).length ([top64 y1 Y, bot64 y0 Y])) s (2 - 1) by
       rw [HD.out, downW, if_neg (by rw [hge]; decide), HCU.out, <- LEN.out])
      clear q4 hd4 hpc
      generalize sortTo ([top64 y1 Y, bot64 y0 Y]).length ([top64 y1 Y, bot64 y0 Y]) = SC at Q4 HPC R
      go_wp2_with fail
      refine wp_endAt (n := 8) (sum_loop (by kernel_rfl) (w := w) (ge := ge) (gs := gs) (s := s) (sg := 13830554455654793216) (a0 := x1) (b0 := y1) (a1 := x0) (b1 := y0) (X := X) (SC := SC) (by omega) (by omega) rfl rfl HPC.out Q4.out ?_)
      intro _ _ _ _ _ _ _ _ _ _ _ _ _ _ _ _ _ _ _ _ _ _ _ _ _ _ _ _ _ _ _ _ _ _ _ _ _ _ _ _ _ _ _ _ _ _ _ _ _ _ _ W3 q5
      rw [<- R.out]
      have SM := hid q5.same
      clear q5
      go_wp2_with fail
      go_roundw
      case measure => simp [intOf]; omega
      case rel => exact ⟨k + 1, by omega, by go_num, rfl, SM.out⟩
     ·have htx : (x1 != x0) = true := by simp [tx]
      have TX := hid tx
      have HC0 := hid (o2 tx)
      have HC1 := hid (o3 tx)
      clear tx
      have hsz := Q2.out.size
      go_wp2_with fail
      go_region
      go_wp2_with fail
      obtain ⟨gc, hgc⟩ : ∃ gc, gc = wr.heap.size + 1 + 1 := ⟨_, rfl⟩
      obtain ⟨gl, hgl⟩ : ∃ gl, gl = wr.heap.size + 1 + 1 + 1 := ⟨_, rfl⟩
      have START : CutS w wr.heap.size (wr.heap.size + 1) gc 2 2 #[.int .i64 x1, .int .i64 y1, .int .i64 x0, .int .i64 y0] (slope64 x1 y1 x0 y0) [top64 y1 Y, bot64 y0 Y] (((((wr.alloc (.cells #[.int .i64 x1, .int .i64 y1, .int .i64 x0, .int .i64 y0] 78)).alloc (.cells #[.float .f64 (slope64 x1 y1 x0 y0)] 51)).alloc (.cells #[.float .f64 (top64 y1 Y), .float .f64 (bot64 y0 Y)] 51)).alloc (.cells #[.int .i64 (64 * X), .int .i64 (64 * X + 64)] 3)).drew) /\ Blk (((((wr.alloc (.cells #[.int .i64 x1, .int .i64 y1, .int .i64 x0, .int .i64 y0] 78)).alloc (.cells #[.float .f64 (slope64 x1 y1 x0 y0)] 51)).alloc (.cells #[.float .f64 (top64 y1 Y), .float .f64 (bot64 y0 Y)] 51)).alloc (.cells #[.int .i64 (64 * X), .int .i64 (64 * X + 64)] 3)).drew) gl 3 #[.int .i64 (64 * X), .int .i64 (64 * X + 64)] := by
       have hsz2 : (wr.alloc (.cells #[.int .i64 x1, .int .i64 y1, .int .i64 x0, .int .i64 y0] 78)).heap.size = wr.heap.size + 1 := by simp
       have hsz3 : ((wr.alloc (.cells #[.int .i64 x1, .int .i64 y1, .int .i64 x0, .int .i64 y0] 78)).alloc (.cells #[.float .f64 (slope64 x1 y1 x0 y0)] 51)).heap.size = wr.heap.size + 1 + 1 := by simp
       have hsz4 : (((wr.alloc (.cells #[.int .i64 x1, .int .i64 y1, .int .i64 x0, .int .i64 y0] 78)).alloc (.cells #[.float .f64 (slope64 x1 y1 x0 y0)] 51)).alloc (.cells #[.float .f64 (top64 y1 Y), .float .f64 (bot64 y0 Y)] 51)).heap.size = wr.heap.size + 1 + 1 + 1 := by simp
       refine ⟨CutS.drew (CutS.alloc ⟨?_, ((Blk.new wr 78 _).alloc _).alloc _, ?_, ((Q2.out.alloc _).alloc _).alloc _, by omega⟩ _), ?_⟩
       ·have h9 := World.ownsRow_lit (base := wr.heap.size + 1 + 1) (e := 51) (size := 1) ((wr.alloc (.cells #[.int .i64 x1, .int .i64 y1, .int .i64 x0, .int .i64 y0] 78)).alloc (.cells #[.float .f64 (slope64 x1 y1 x0 y0)] 51)) #[.float .f64 (top64 y1 Y), .float .f64 (bot64 y0 Y)] 2 (by simp) (by unfold maxLen; omega) rfl
        rw [hsz3] at h9
        rw [hgc]
        exact h9
       ·have h9 := (Blk.new (wr.alloc (.cells #[.int .i64 x1, .int .i64 y1, .int .i64 x0, .int .i64 y0] 78)) 51 #[.float .f64 (slope64 x1 y1 x0 y0)]).alloc (.cells #[.float .f64 (top64 y1 Y), .float .f64 (bot64 y0 Y)] 51)
        rw [hsz2] at h9
        exact h9
       ·have h9 := Blk.new (((wr.alloc (.cells #[.int .i64 x1, .int .i64 y1, .int .i64 x0, .int .i64 y0] 78)).alloc (.cells #[.float .f64 (slope64 x1 y1 x0 y0)] 51)).alloc (.cells #[.float .f64 (top64 y1 Y), .float .f64 (bot64 y0 Y)] 51)) 3 #[.int .i64 (64 * X), .int .i64 (64 * X + 64)]
        rw [hsz4, <- hgl] at h9
        exact h9.drew
      have HS := hid START
      clear START
      rw [<- hgl, <- hgc]
      generalize ((((wr.alloc (.cells #[.int .i64 x1, .int .i64 y1, .int .i64 x0, .int .i64 y0] 78)).alloc (.cells #[.float .f64 (slope64 x1 y1 x0 y0)] 51)).alloc (.cells #[.float .f64 (top64 y1 Y), .float .f64 (bot64 y0 Y)] 51)).alloc (.cells #[.int .i64 (64 * X), .int .i64 (64 * X + 64)] 3)).drew = W1 at HS ⊢
      clear hgc hgl
      generalize wr.heap.size + 1 = gs at HS ⊢
      generalize wr.heap.size = ge at HS ⊢
      have HCO := hid (show ∀ j : Nat, j < 2 -> CutOk x1 y1 (64 * X + 64 * (j : Int)) (slope64 x1 y1 x0 y0) by
       intro j hj
       rcases (by omega : j = 0 ∨ j = 1) with rfl | rfl
       ·rw [show 64 * X + 64 * ((0 : Nat) : Int) = 64 * X by omega]; exact HC0.out
       ·rw [show 64 * X + 64 * ((1 : Nat) : Int) = 64 * X + 64 by omega]; exact HC1.out)
      refine wp_endAt (n := 2) (cut_loop (by kernel_rfl) (w := w) (ge := ge) (gs := gs) (gc := gc) (gl := gl) (a0 := x1) (b0 := y1) (a1 := x0) (b1 := y0) (X := X) (Y := Y) HEN.out ⟨hx1, hx2⟩ rfl rfl HCO.out HS.out.1 HS.out.2 ?_)
      intro gd n cap _ _ _ _ _ _ _ _ _ _ _ _ _ _ _ _ _ _ _ _ _ _ _ _ _ _ _ _ _ _ W5 hn2 hn4 q3
      have HL := hid q3.len
      have HSO := hid HS
      clear HS
      have HS := hid q3
      clear q3
      obtain ⟨gc0, hgc0⟩ : ∃ g, g = gc := ⟨_, rfl⟩
      clear hgc0 HSO HCO
      generalize gd = gc at HS ⊢
      have hni : (2 : Int) <= (n : Int) := by omega
      have hn4x : n <= 4 := by omega
      go_wp2_with fail
      have LEN := hid (show n = (cutsTo x1 y1 x0 y0 X Y 2).length by exact HL.out.symm)
      have HCU := hid (show cuts64 x1 y1 x0 y0 X Y = cutsTo x1 y1 x0 y0 X Y 2 by rw [cutsTo_two TX.out])
      refine wp_endAt (n := 4) (sort_loop (by kernel_rfl) (w := w) (ge := ge) (gs := gs) (sl := slope64 x1 y1 x0 y0) (a0 := x1) (b0 := y1) (a1 := x0) (b1 := y0) (CS := cutsTo x1 y1 x0 y0 X Y 2) (by omega) (by omega) HS.out ?_)
      intro _ _ _ _ _ _ _ _ _ _ _ _ _ _ _ _ _ _ _ _ _ _ _ _ _ _ _ _ _ _ _ _ _ _ _ _ _ _ _ W2 q4
      have hd4 := HDO.out hge
      have Q4 := hid (show CutS w ge gs gc n cap #[.int .i64 x1, .int .i64 y1, .int .i64 x0, .int .i64 y0] (slope64 x1 y1 x0 y0) (sortTo (cutsTo x1 y1 x0 y0 X Y 2).length (cutsTo x1 y1 x0 y0 X Y 2)) W2 by rw [<- LEN.out]; exact q4)
      have hpc : ∀ i, i + 1 < n -> (ec64 13830554455654793216 x1 y1 x0 y0 X).PieceOk ((sortTo (cutsTo x1 y1 x0 y0 X Y 2).length (cutsTo x1 y1 x0 y0 X Y 2)).getD i 0) ((sortTo (cutsTo x1 y1 x0 y0 X Y 2).length (cutsTo x1 y1 x0 y0 X Y 2)).getD (i + 1) 0) ((ec64 13830554455654793216 x1 y1 x0 y0 X).sum (sortTo (cutsTo x1 y1 x0 y0 X Y 2).length (cutsTo x1 y1 x0 y0 X Y 2)) s i) := by
       intro i hi
       have P := hd4.pieces i (by rw [HCU.out, <- LEN.out]; exact hi)
       rw [HCU.out] at P
       exact P
      have HPC := hid hpc
      have R := hid (show areaSum (l.take (k + 1)) X Y 0 = (ec64 13830554455654793216 x1 y1 x0 y0 X).sum (sortTo (cutsTo x1 y1 x0 y0 X Y 2).length (cutsTo x1 y1 x0 y0 X Y 2)) s (n - 1) by
       rw [HD.out, downW, if_neg (by rw [hge]; decide), HCU.out, <- LEN.out])
      clear q4 hd4 hpc
      generalize sortTo (cutsTo x1 y1 x0 y0 X Y 2).length (cutsTo x1 y1 x0 y0 X Y 2) = SC at Q4 HPC R
      go_wp2_with fail
      refine wp_endAt (n := 8) (sum_loop (by kernel_rfl) (w := w) (ge := ge) (gs := gs) (s := s) (sg := 13830554455654793216) (a0 := x1) (b0 := y1) (a1 := x0) (b1 := y0) (X := X) (SC := SC) (by omega) (by omega) rfl rfl HPC.out Q4.out ?_)
      intro _ _ _ _ _ _ _ _ _ _ _ _ _ _ _ _ _ _ _ _ _ _ _ _ _ _ _ _ _ _ _ _ _ _ _ _ _ _ _ _ _ _ _ _ _ _ _ _ _ _ _ W3 q5
      rw [<- R.out]
      have SM := hid q5.same
      clear q5
      go_wp2_with fail
      go_roundw
      case measure => simp [intOf]; omega
      case rel => exact ⟨k + 1, by omega, by go_num, rfl, SM.out⟩
    ·have R := hid (show areaSum (l.take (k + 1)) X Y 0 = s by rw [HD.out, downW, if_pos hge])
     rcases fge64_true hge with hg1 | ⟨hg1, hg2⟩
     ·clear hge
      go_wp2_with fail
      go_region
      go_wp2_with fail
      go_roundw
      case measure => simp [intOf]; omega
      case rel => exact ⟨k + 1, by omega, by go_num, by rw [R.out], (Q2.out.alloc _).drew⟩
     ·clear hge
      go_wp2_with fail
      go_region
      go_wp2_with fail
      go_roundw
      case measure => simp [intOf]; omega
      case rel => exact ⟨k + 1, by omega, by go_num, by rw [R.out], (Q2.out.alloc _).drew⟩
   ·have hdown : areaSum (l.take (k + 1)) X Y 0 = downW 4607182418800017408 x0 y0 x1 y1 X Y s := by rw [HN.out, edgeW, if_neg t0]
    have hdok : fge64 (top64 y0 Y) (bot64 y1 Y) = false -> DownOk 4607182418800017408 x0 y0 x1 y1 X Y s := fun h => HE.out.2 t0 h
    have HD := hid hdown
    have HDO := hid hdok
    have HEN := hid (show ENear ((x0, y0), (x1, y1)) from ⟨⟨n1, n2⟩, ⟨n3, n4⟩, ⟨n5, n6⟩, ⟨n7, n8⟩⟩)
    clear hdown hdok
    cases hge : fge64 (top64 y0 Y) (bot64 y1 Y)
    ·obtain ⟨o1, o2, o3, o4⟩ := HDO.out hge
     obtain ⟨hg1, hg2⟩ := fge64_false hge
     by_cases tx : x0 = x1
     ·have htx : (x0 != x1) = false := by simp [tx]
      have TX := hid tx
      clear tx
      have hsz := Q2.out.size
      go_wp2_with fail
      go_region
      go_wp2_with fail
      obtain ⟨gc, hgc⟩ : ∃ gc, gc = wr.heap.size + 1 + 1 := ⟨_, rfl⟩
      have START : CutS w wr.heap.size (wr.heap.size + 1) gc 2 2 #[.int .i64 x0, .int .i64 y0, .int .i64 x1, .int .i64 y1] (slope64 x0 y0 x1 y1) [top64 y0 Y, bot64 y1 Y] (((wr.alloc (.cells #[.int .i64 x0, .int .i64 y0, .int .i64 x1, .int .i64 y1] 78)).alloc (.cells #[.float .f64 (slope64 x0 y0 x1 y1)] 51)).alloc (.cells #[.float .f64 (top64 y0 Y), .float .f64 (bot64 y1 Y)] 51)).drew := by
       have hsz2 : (wr.alloc (.cells #[.int .i64 x0, .int .i64 y0, .int .i64 x1, .int .i64 y1] 78)).heap.size = wr.heap.size + 1 := by simp
       have hsz3 : ((wr.alloc (.cells #[.int .i64 x0, .int .i64 y0, .int .i64 x1, .int .i64 y1] 78)).alloc (.cells #[.float .f64 (slope64 x0 y0 x1 y1)] 51)).heap.size = wr.heap.size + 1 + 1 := by simp
       refine CutS.drew ⟨?_, ((Blk.new wr 78 _).alloc _).alloc _, ?_, ((Q2.out.alloc _).alloc _).alloc _, by omega⟩
       ·have h9 := World.ownsRow_lit (base := wr.heap.size + 1 + 1) (e := 51) (size := 1) ((wr.alloc (.cells #[.int .i64 x0, .int .i64 y0, .int .i64 x1, .int .i64 y1] 78)).alloc (.cells #[.float .f64 (slope64 x0 y0 x1 y1)] 51)) #[.float .f64 (top64 y0 Y), .float .f64 (bot64 y1 Y)] 2 (by simp) (by unfold maxLen; omega) rfl
        rw [hsz3] at h9
        rw [hgc]
        exact h9
       ·have h9 := (Blk.new (wr.alloc (.cells #[.int .i64 x0, .int .i64 y0, .int .i64 x1, .int .i64 y1] 78)) 51 #[.float .f64 (slope64 x0 y0 x1 y1)]).alloc (.cells #[.float .f64 (top64 y0 Y), .float .f64 (bot64 y1 Y)] 51)
        rw [hsz2] at h9
        exact h9
      have HS := hid START
      clear START
      rw [<- hgc]
      generalize (((wr.alloc (.cells #[.int .i64 x0, .int .i64 y0, .int .i64 x1, .int .i64 y1] 78)).alloc (.cells #[.float .f64 (slope64 x0 y0 x1 y1)] 51)).alloc (.cells #[.float .f64 (top64 y0 Y), .float .f64 (bot64 y1 Y)] 51)).drew = W1 at HS ⊢
      clear hgc
      generalize wr.heap.size + 1 = gs at HS ⊢
      generalize wr.heap.size = ge at HS ⊢
      have LEN := hid (show 2 = ([top64 y0 Y, bot64 y1 Y]).length by rfl)
      have HCU := hid (show cuts64 x0 y0 x1 y1 X Y = [top64 y0 Y, bot64 y1 Y] by rw [cuts64, if_pos TX.out])
      refine wp_endAt (n := 4) (sort_loop (by kernel_rfl) (w := w) (ge := ge) (gs := gs) (sl := slope64 x0 y0 x1 y1) (a0 := x0) (b0 := y0) (a1 := x1) (b1 := y1) (CS := [top64 y0 Y, bot64 y1 Y]) (by omega) (by omega) HS.out ?_)
      intro _ _ _ _ _ _ _ _ _ _ _ _ _ _ _ _ _ _ _ _ _ _ _ _ _ _ _ _ _ _ _ _ _ _ _ _ _ _ _ W2 q4
      have hd4 := HDO.out hge
      have Q4 := hid (show CutS w ge gs gc 2 2 #[.int .i64 x0, .int .i64 y0, .int .i64 x1, .int .i64 y1] (slope64 x0 y0 x1 y1) (sortTo ([top64 y0 Y, bot64 y1 Y]).length ([top64 y0 Y, bot64 y1 Y])) W2 by rw [<- LEN.out]; exact q4)
      have hpc : ∀ i, i + 1 < 2 -> (ec64 4607182418800017408 x0 y0 x1 y1 X).PieceOk ((sortTo ([top64 y0 Y, bot64 y1 Y]).length ([top64 y0 Y, bot64 y1 Y])).getD i 0) ((sortTo ([top64 y0 Y, bot64 y1 Y]).length ([top64 y0 Y, bot64 y1 Y])).getD (i + 1) 0) ((ec64 4607182418800017408 x0 y0 x1 y1 X).sum (sortTo ([top64 y0 Y, bot64 y1 Y]).length ([top64 y0 Y, bot64 y1 Y])) s i) := by
       intro i hi
       have P := hd4.pieces i (by rw [HCU.out, <- LEN.out]; exact hi)
       rw [HCU.out] at P
       exact P
      have HPC := hid hpc
      have R := hid (show areaSum (l.take (k + 1)) X Y 0 = (ec64 4607182418800017408 x0 y0 x1 y1 X).sum (sortTo ([top64 y0 Y, bot64 y1 Y]).length ([top64 y0 Y, bot64 y1 Y])) s (2 - 1) by
       rw [HD.out, downW, if_neg (by rw [hge]; decide), HCU.out, <- LEN.out])
      clear q4 hd4 hpc
      generalize sortTo ([top64 y0 Y, bot64 y1 Y]).length ([top64 y0 Y, bot64 y1 Y]) = SC at Q4 HPC R
      go_wp2_with fail
      refine wp_endAt (n := 8) (sum_loop (by kernel_rfl) (w := w) (ge := ge) (gs := gs) (s := s) (sg := 4607182418800017408) (a0 := x0) (b0 := y0) (a1 := x1) (b1 := y1) (X := X) (SC := SC) (by omega) (by omega) rfl rfl HPC.out Q4.out ?_)
      intro _ _ _ _ _ _ _ _ _ _ _ _ _ _ _ _ _ _ _ _ _ _ _ _ _ _ _ _ _ _ _ _ _ _ _ _ _ _ _ _ _ _ _ _ _ _ _ _ _ _ _ W3 q5
      rw [<- R.out]
      have SM := hid q5.same
      clear q5
      go_wp2_with fail
      go_roundw
      case measure => simp [intOf]; omega
      case rel => exact ⟨k + 1, by omega, by go_num, rfl, SM.out⟩
     ·have htx : (x0 != x1) = true := by simp [tx]
      have TX := hid tx
      have HC0 := hid (o2 tx)
      have HC1 := hid (o3 tx)
      clear tx
      have hsz := Q2.out.size
      go_wp2_with fail
      go_region
      go_wp2_with fail
      obtain ⟨gc, hgc⟩ : ∃ gc, gc = wr.heap.size + 1 + 1 := ⟨_, rfl⟩
      obtain ⟨gl, hgl⟩ : ∃ gl, gl = wr.heap.size + 1 + 1 + 1 := ⟨_, rfl⟩
      have START : CutS w wr.heap.size (wr.heap.size + 1) gc 2 2 #[.int .i64 x0, .int .i64 y0, .int .i64 x1, .int .i64 y1] (slope64 x0 y0 x1 y1) [top64 y0 Y, bot64 y1 Y] (((((wr.alloc (.cells #[.int .i64 x0, .int .i64 y0, .int .i64 x1, .int .i64 y1] 78)).alloc (.cells #[.float .f64 (slope64 x0 y0 x1 y1)] 51)).alloc (.cells #[.float .f64 (top64 y0 Y), .float .f64 (bot64 y1 Y)] 51)).alloc (.cells #[.int .i64 (64 * X), .int .i64 (64 * X + 64)] 3)).drew) /\ Blk (((((wr.alloc (.cells #[.int .i64 x0, .int .i64 y0, .int .i64 x1, .int .i64 y1] 78)).alloc (.cells #[.float .f64 (slope64 x0 y0 x1 y1)] 51)).alloc (.cells #[.float .f64 (top64 y0 Y), .float .f64 (bot64 y1 Y)] 51)).alloc (.cells #[.int .i64 (64 * X), .int .i64 (64 * X + 64)] 3)).drew) gl 3 #[.int .i64 (64 * X), .int .i64 (64 * X + 64)] := by
       have hsz2 : (wr.alloc (.cells #[.int .i64 x0, .int .i64 y0, .int .i64 x1, .int .i64 y1] 78)).heap.size = wr.heap.size + 1 := by simp
       have hsz3 : ((wr.alloc (.cells #[.int .i64 x0, .int .i64 y0, .int .i64 x1, .int .i64 y1] 78)).alloc (.cells #[.float .f64 (slope64 x0 y0 x1 y1)] 51)).heap.size = wr.heap.size + 1 + 1 := by simp
       have hsz4 : (((wr.alloc (.cells #[.int .i64 x0, .int .i64 y0, .int .i64 x1, .int .i64 y1] 78)).alloc (.cells #[.float .f64 (slope64 x0 y0 x1 y1)] 51)).alloc (.cells #[.float .f64 (top64 y0 Y), .float .f64 (bot64 y1 Y)] 51)).heap.size = wr.heap.size + 1 + 1 + 1 := by simp
       refine ⟨CutS.drew (CutS.alloc ⟨?_, ((Blk.new wr 78 _).alloc _).alloc _, ?_, ((Q2.out.alloc _).alloc _).alloc _, by omega⟩ _), ?_⟩
       ·have h9 := World.ownsRow_lit (base := wr.heap.size + 1 + 1) (e := 51) (size := 1) ((wr.alloc (.cells #[.int .i64 x0, .int .i64 y0, .int .i64 x1, .int .i64 y1] 78)).alloc (.cells #[.float .f64 (slope64 x0 y0 x1 y1)] 51)) #[.float .f64 (top64 y0 Y), .float .f64 (bot64 y1 Y)] 2 (by simp) (by unfold maxLen; omega) rfl
        rw [hsz3] at h9
        rw [hgc]
        exact h9
       ·have h9 := (Blk.new (wr.alloc (.cells #[.int .i64 x0, .int .i64 y0, .int .i64 x1, .int .i64 y1] 78)) 51 #[.float .f64 (slope64 x0 y0 x1 y1)]).alloc (.cells #[.float .f64 (top64 y0 Y), .float .f64 (bot64 y1 Y)] 51)
        rw [hsz2] at h9
        exact h9
       ·have h9 := Blk.new (((wr.alloc (.cells #[.int .i64 x0, .int .i64 y0, .int .i64 x1, .int .i64 y1] 78)).alloc (.cells #[.float .f64 (slope64 x0 y0 x1 y1)] 51)).alloc (.cells #[.float .f64 (top64 y0 Y), .float .f64 (bot64 y1 Y)] 51)) 3 #[.int .i64 (64 * X), .int .i64 (64 * X + 64)]
        rw [hsz4, <- hgl] at h9
        exact h9.drew
      have HS := hid START
      clear START
      rw [<- hgl, <- hgc]
      generalize ((((wr.alloc (.cells #[.int .i64 x0, .int .i64 y0, .int .i64 x1, .int .i64 y1] 78)).alloc (.cells #[.float .f64 (slope64 x0 y0 x1 y1)] 51)).alloc (.cells #[.float .f64 (top64 y0 Y), .float .f64 (bot64 y1 Y)] 51)).alloc (.cells #[.int .i64 (64 * X), .int .i64 (64 * X + 64)] 3)).drew = W1 at HS ⊢
      clear hgc hgl
      generalize wr.heap.size + 1 = gs at HS ⊢
      generalize wr.heap.size = ge at HS ⊢
      have HCO := hid (show ∀ j : Nat, j < 2 -> CutOk x0 y0 (64 * X + 64 * (j : Int)) (slope64 x0 y0 x1 y1) by
       intro j hj
       rcases (by omega : j = 0 ∨ j = 1) with rfl | rfl
       ·rw [show 64 * X + 64 * ((0 : Nat) : Int) = 64 * X by omega]; exact HC0.out
       ·rw [show 64 * X + 64 * ((1 : Nat) : Int) = 64 * X + 64 by omega]; exact HC1.out)
      refine wp_endAt (n := 2) (cut_loop (by kernel_rfl) (w := w) (ge := ge) (gs := gs) (gc := gc) (gl := gl) (a0 := x0) (b0 := y0) (a1 := x1) (b1 := y1) (X := X) (Y := Y) HEN.out ⟨hx1, hx2⟩ rfl rfl HCO.out HS.out.1 HS.out.2 ?_)
      intro gd n cap _ _ _ _ _ _ _ _ _ _ _ _ _ _ _ _ _ _ _ _ _ _ _ _ _ _ _ _ _ _ W5 hn2 hn4 q3
      have HL := hid q3.len
      have HSO := hid HS
      clear HS
      have HS := hid q3
      clear q3
      obtain ⟨gc0, hgc0⟩ : ∃ g, g = gc := ⟨_, rfl⟩
      clear hgc0 HSO HCO
      generalize gd = gc at HS ⊢
      have hni : (2 : Int) <= (n : Int) := by omega
      have hn4x : n <= 4 := by omega
      go_wp2_with fail
      have LEN := hid (show n = (cutsTo x0 y0 x1 y1 X Y 2).length by exact HL.out.symm)
      have HCU := hid (show cuts64 x0 y0 x1 y1 X Y = cutsTo x0 y0 x1 y1 X Y 2 by rw [cutsTo_two TX.out])
      refine wp_endAt (n := 4) (sort_loop (by kernel_rfl) (w := w) (ge := ge) (gs := gs) (sl := slope64 x0 y0 x1 y1) (a0 := x0) (b0 := y0) (a1 := x1) (b1 := y1) (CS := cutsTo x0 y0 x1 y1 X Y 2) (by omega) (by omega) HS.out ?_)
      intro _ _ _ _ _ _ _ _ _ _ _ _ _ _ _ _ _ _ _ _ _ _ _ _ _ _ _ _ _ _ _ _ _ _ _ _ _ _ _ W2 q4
      have hd4 := HDO.out hge
      have Q4 := hid (show CutS w ge gs gc n cap #[.int .i64 x0, .int .i64 y0, .int .i64 x1, .int .i64 y1] (slope64 x0 y0 x1 y1) (sortTo (cutsTo x0 y0 x1 y1 X Y 2).length (cutsTo x0 y0 x1 y1 X Y 2)) W2 by rw [<- LEN.out]; exact q4)
      have hpc : ∀ i, i + 1 < n -> (ec64 4607182418800017408 x0 y0 x1 y1 X).PieceOk ((sortTo (cutsTo x0 y0 x1 y1 X Y 2).length (cutsTo x0 y0 x1 y1 X Y 2)).getD i 0) ((sortTo (cutsTo x0 y0 x1 y1 X Y 2).length (cutsTo x0 y0 x1 y1 X Y 2)).getD (i + 1) 0) ((ec64 4607182418800017408 x0 y0 x1 y1 X).sum (sortTo (cutsTo x0 y0 x1 y1 X Y 2).length (cutsTo x0 y0 x1 y1 X Y 2)) s i) := by
       intro i hi
       have P := hd4.pieces i (by rw [HCU.out, <- LEN.out]; exact hi)
       rw [HCU.out] at P
       exact P
      have HPC := hid hpc
      have R := hid (show areaSum (l.take (k + 1)) X Y 0 = (ec64 4607182418800017408 x0 y0 x1 y1 X).sum (sortTo (cutsTo x0 y0 x1 y1 X Y 2).length (cutsTo x0 y0 x1 y1 X Y 2)) s (n - 1) by
       rw [HD.out, downW, if_neg (by rw [hge]; decide), HCU.out, <- LEN.out])
      clear q4 hd4 hpc
      generalize sortTo (cutsTo x0 y0 x1 y1 X Y 2).length (cutsTo x0 y0 x1 y1 X Y 2) = SC at Q4 HPC R
      go_wp2_with fail
      refine wp_endAt (n := 8) (sum_loop (by kernel_rfl) (w := w) (ge := ge) (gs := gs) (s := s) (sg := 4607182418800017408) (a0 := x0) (b0 := y0) (a1 := x1) (b1 := y1) (X := X) (SC := SC) (by omega) (by omega) rfl rfl HPC.out Q4.out ?_)
      intro _ _ _ _ _ _ _ _ _ _ _ _ _ _ _ _ _ _ _ _ _ _ _ _ _ _ _ _ _ _ _ _ _ _ _ _ _ _ _ _ _ _ _ _ _ _ _ _ _ _ _ W3 q5
      rw [<- R.out]
      have SM := hid q5.same
      clear q5
      go_wp2_with fail
      go_roundw
      case measure => simp [intOf]; omega
      case rel => exact ⟨k + 1, by omega, by go_num, rfl, SM.out⟩
    ·have R := hid (show areaSum (l.take (k + 1)) X Y 0 = s by rw [HD.out, downW, if_pos hge])
     rcases fge64_true hge with hg1 | ⟨hg1, hg2⟩
     ·clear hge
      go_wp2_with fail
      go_region
      go_wp2_with fail
      go_roundw
      case measure => simp [intOf]; omega
      case rel => exact ⟨k + 1, by omega, by go_num, by rw [R.out], (Q2.out.alloc _).drew⟩
     ·clear hge
      go_wp2_with fail
      go_region
      go_wp2_with fail
      go_roundw
      case measure => simp [intOf]; omega
      case rel => exact ⟨k + 1, by omega, by go_num, by rw [R.out], (Q2.out.alloc _).drew⟩
  ·obtain rfl : k = l.length := by omega
   rw [List.take_of_length_le (Nat.le_refl _)]
   have Q2 := hid q2
   clear q2
   go_wp2_with fail
   go_ret
   exact ⟨rfl, Q2.out⟩
end Go.Proofs.Ytmgcbodlolnheaa
namespace Go.Proofs.Ytmgcbodlolnheaa
open Go.ChangeShapes Go.WideShapes Go.ChangeAt Go.RowKit Go.Deep
set_option linter.unusedVariables false
set_option maxRecDepth 100000 in
theorem area_none (A : Option Addr) (cap : Nat) (X Y : Int) (w : World) (hok : AreaOk [] X Y) :
  Calls Try.prog 46 #[.slice A 0 cap, .int .i64 X, .int .i64 Y, .int .i64 64] w fun e w' => e = .returned (.float .f64 (areaW [] X Y)) /\ Same w w' := by
 have hq : Fok64 .quo 0 (floatOfInt .f64 4096) := hok.o1
 clear hok
 go_enter Try.func46, Try.ntmps46
 go_wp2_with fail
 go_loopw [9, 30] (fun s i wr => i = .int .i64 0 /\ s = .float .f64 0 /\ Same w wr) (fun _ i _ => 0)
 case atStart => exact ⟨rfl, rfl, Kept.refl _ _⟩
 case round =>
  obtain ⟨rfl, rfl, hs⟩ := hrel
  go_wp2_with fail
  go_ret
  exact ⟨rfl, hs⟩
theorem area_own (es : List Edge) (v : Value) (X Y : Int) {D : Nat} (w : World) (hlen : es.length <= 1000000) (hx : 0 <= X /\ X <= 100000) (hy : 0 <= Y /\ Y <= 100000) (hp : w.ownsRow D 78 4 v es.length (edgeCells es)) (hnear : ∀ e ∈ es, ENear e) (hok : AreaOk es X Y) :
  Calls Try.prog 46 #[v, .int .i64 X, .int .i64 Y, .int .i64 64] w fun e w' => e = .returned (.float .f64 (areaW es X Y)) /\ Same w w' := by
 rcases Nat.eq_zero_or_pos es.length with h0 | h0
 ·have he := List.length_eq_zero_iff.1 h0
  subst he
  rcases hp.2 with ⟨rfl, _⟩ | ⟨g, cap, cur, rfl, _⟩
  ·exact area_none none 0 X Y w hok
  ·exact area_none _ cap X Y w hok
 ·obtain ⟨g, cap, rfl, _, _⟩ := hp.form h0
  exact area_cons es g 0 cap X Y w h0 hlen hx hy (edges_own hp rfl h0) hnear hok
theorem sevB_iff {W H : Int} {ls : List (List (Int × Int))} : sevB W H ls = true ↔ (sizedB W H = true /\ W <= 200 /\ H <= 200 /\ ls.length <= 4 /\ sevTest W H ls = true) := by
 unfold sevB
 simp only [Bool.and_eq_true, decide_eq_true_eq, and_assoc]
theorem sevTest_mem {W H : Int} {ls : List (List (Int × Int))} (h : sevTest W H ls = true) {p : List (Int × Int)} (hp : p ∈ ls) : withinB p (64 * (64 + imin W H)) = true /\ p.length <= 12 := by
 have := List.all_eq_true.1 h p hp
 unfold rowOk at this
 rw [Bool.and_eq_true, decide_eq_true_eq] at this
 exact this
theorem sev_edges (ls : List (List (Int × Int))) : sevEdges ls = ls.flatMap edges := by
 unfold sevEdges
 congr 1
 funext p
 exact polyTo_edges p
theorem sev_ne {W H : Int} {ls : List (List (Int × Int))} (h : sevTest W H ls = true) : ∀ p ∈ ls, p ≠ [] := by
 intro p hp h0
 have := (withinB_iff.1 (sevTest_mem h hp).1).2.1
 rw [h0] at this
 simp at this
theorem sev_far {W H : Int} {ls : List (List (Int × Int))} (hW : W <= 200) (hH : H <= 200) (h : sevTest W H ls = true) : ∀ p ∈ ls, Far p 16896 := by
 intro p hp q hq
 have := (withinB_iff.1 (sevTest_mem h hp).1).1 q hq
 have hm : imin W H <= 200 := by unfold imin; split <;> omega
 omega
theorem far_up {p : List (Int × Int)} (h : Far p 16896) : Far p 262144 := fun q hq => by have := h q hq; omega
theorem edge17_near {e : Edge} (h : Edge17 e) : ENear e := by unfold Edge17 at h; unfold ENear; omega
end Go.Proofs.Ytmgcbodlolnheaa
namespace Go.Proofs.Ytmgcbodlolnheaa.fnFixed
open Go.ChangeShapes Go.WideShapes Go.ChangeAt Go.RowKit Go.Deep
set_option linter.unusedVariables false
end Go.Proofs.Ytmgcbodlolnheaa.fnFixed
namespace Go.Proofs.Ytmgcbodlolnheaa
open Go.ChangeShapes Go.WideShapes Go.ChangeAt Go.RowKit Go.Deep
set_option linter.unusedVariables false
theorem sev_pts {W H : Nat} {ls : List (List (Int × Int))} (hW : W <= 200) (hH : H <= 200) (h : sevTest (W : Int) (H : Int) ls = true) : ∀ p ∈ ls, ∀ v ∈ p, PtIn W v := by
 intro p hp q hq
 have := (withinB_iff.1 (sevTest_mem h hp).1).1 q hq
 have hm : imin (W : Int) (H : Int) <= 200 /\ imin (W : Int) (H : Int) <= W := by unfold imin; split <;> omega
 unfold PtIn In264
 omega
theorem sev_48 {W H : Int} {ls : List (List (Int × Int))} (h4 : ls.length <= 4) (h : sevTest W H ls = true) : (ls.flatMap edges).length <= 48 := by
 have h12 : ∀ p ∈ ls, p.length <= 12 := fun p hp => (sevTest_mem h hp).2
 clear h
 have key : ∀ l : List (List (Int × Int)), (∀ p ∈ l, p.length <= 12) -> (l.flatMap edges).length <= 12 * l.length := by
  intro l
  induction l with
  | nil => intro _; simp
  | cons p l ih =>
   intro h
   have h1 := ih fun q hq => h q (by simp [hq])
   have h2 := h p (by simp)
   rw [List.flatMap_cons, List.length_append, length_edges, List.length_cons]
   omega
 have := key ls h12
 omega
end Go.Proofs.Ytmgcbodlolnheaa
namespace Go.Proofs.Ytmgcbodlolnheaa.fnFlo
open Go.ChangeShapes Go.WideShapes Go.ChangeAt Go.RowKit Go.Deep
set_option linter.unusedVariables false
set_option maxHeartbeats 4000000 in
set_option maxRecDepth 100000 in
theorem walk_long (W H : Nat) (ls : List (List (Int × Int))) (v : Value) (w : World) (hv : RowsAt w w.heap.size v ls) (hfit : fits2B ls = true) (hs : sevB (W : Int) (H : Int) ls = true) :
  Calls Try.prog 9 #[.int .i64 W, .int .i64 H, v] w fun e w' => e = .returned (.bool true) /\ Same w w' := by
 obtain ⟨z1, z2, z3, z4, z5⟩ := sevB_iff.1 hs
 obtain ⟨s1, s2, s3, s4, s5⟩ := sizedB_iff.1 z1
 have HV := hid hv
 have HF := hid hfit
 have HB := hid hs
 have hn : W * H <= 65536 := by
  have : ((W * H : Nat) : Int) <= 65536 := by push_cast; exact s5
  omega
 have hfar := sev_far z2 z3 z5
 have hne := sev_ne z5
 have hl := sev_len z5
 have hok : MaskROk true W H (sevOps ls) := maskROk_several true rfl W H hne fun p hp => far_up (hfar p hp)
 have hml : (maskR true W H (sevOps ls)).length = W * H := len_several W H true hne
 have h17 : ∀ e ∈ sevEdges ls, Edge17 e := by rw [sev_edges]; exact edge17_of hfar
 have hall : NearAll (maskR true W H (sevOps ls)) W H (sevEdges ls) (driftW (sevEdges ls)) := by
  have h9 := hl.2
  rw [sev_edges] at h9 ⊢
  exact flo_all (by omega) (by omega) (by omega) (by omega) hne (sev_pts (by omega) (by omega) z5) (sev_48 z4 z5)
 have hdok : DriftOk (sevEdges ls) := (drift_num h17 (by have := hl.2; omega)).1
 have HDOK := hid hdok
 have HOK := hid hok
 have H17 := hid h17
 have HALL := hid hall
 have HML := hid hml
 have HL := hid hl
 clear hv hfit hs z1 z5 hfar hne hok h17 hall hml hl s5 hdok
 go_enter Try.func9, Try.ntmps9
 go_wp2_with fail
 refine (fits2_any ls v w HV.out).mono ?_
 rintro e w' ⟨rfl, rfl⟩
 rw [HF.out]
 go_wp2_with fail
 refine (several_any (W : Int) (H : Int) ls v w HV.out).mono ?_
 rintro e w1 ⟨v7, v8, rfl, t1, t2⟩
 rw [HB.out]
 have T1 := hid (t1 HB.out)
 have T2 := hid t2
 clear t1 t2
 go_wp2_with fail
 have hops : OpsAt w1 w1.heap.size v7 (sevOps ls) := by
  obtain ⟨xs, r1, r2⟩ := T1.out.ops
  refine opsAt_own rfl ?_ r1 r2
  have h9 := HL.out.1
  omega
 have HOP := hid hops
 clear hops
 refine (maskBy_any W H (sevOps ls) v7 w1 (by omega) (by omega) (by omega) (by omega) hn true HOP.out HOK.out).mono ?_
 rintro e w2 ⟨d, rfl, hd, t1, t2⟩
 have BA := hid t1
 have T3 := hid (T2.out.trans t2)
 have E2 := hid (own_sameW T1.out.edges t2)
 clear t1 t2 hd
 generalize maskR true W H (sevOps ls) = m at BA HALL HML
 have hel : (sevEdges ls).length <= 100 := by have := HL.out.2; omega
 generalize sevEdges ls = es at E2 H17 HALL HDOK hel
 go_wp2_with fail
 refine (drift_own es v8 w2 (by omega) E2.out H17.out HDOK.out).mono ?_
 rintro e w3 ⟨rfl, t3⟩
 have T4 := hid (T3.out.trans t3)
 have E3 := hid (own_sameW E2.out t3)
 have B3 := hid (t3.blk BA.out id)
 clear t3
 go_wp2_with fail
 refine (nearMask m d (W * H) W H es v8 (driftW es) w3 (by omega) (by omega) HML.out B3.out HALL.out (fun X Y wr hX hY hsm hok => area_own es v8 X Y wr (by omega) (by omega) (by omega) (own_sameW E3.out hsm) (fun e he => edge17_near (H17.out e he)) hok)).mono ?_
 rintro e w4 ⟨rfl, t4⟩
 have T5 := hid (T4.out.trans t4)
 clear t4
 go_wp2_with fail
 go_ret
 exact ⟨rfl, T5.out⟩
set_option maxHeartbeats 2000000 in
set_option maxRecDepth 100000 in
theorem walk (W H : Int) (ls : List (List (Int × Int))) (v : Value) (w : World) (hv : RowsAt w w.heap.size v ls) :
  Calls Try.prog 9 #[.int .i64 W, .int .i64 H, v] w fun e w' => e = .returned (.bool true) /\ Same w w' := by
 cases hf : fits2B ls
 ·have HF := hid hf
  have HV := hid hv
  clear hf hv
  go_enter Try.func9, Try.ntmps9
  go_wp2_with fail
  refine (fits2_any ls v w HV.out).mono ?_
  rintro e w' ⟨rfl, rfl⟩
  rw [HF.out]
  go_wp2_with fail
  go_ret
  exact ⟨rfl, Kept.refl _ _⟩
 cases hs : sevB W H ls
 ·have HF := hid hf
  have HV := hid hv
  have HS := hid hs
  clear hf hv hs
  go_enter Try.func9, Try.ntmps9
  go_wp2_with fail
  refine (fits2_any ls v w HV.out).mono ?_
  rintro e w' ⟨rfl, rfl⟩
  rw [HF.out]
  go_wp2_with fail
  refine (several_any W H ls v w HV.out).mono ?_
  rintro e w1 ⟨v7, v8, rfl, _, t2⟩
  rw [HS.out]
  have T2 := hid t2
  clear t2
  go_wp2_with fail
  go_ret
  exact ⟨rfl, T2.out⟩
 obtain ⟨z1, _⟩ := sevB_iff.1 hs
 obtain ⟨s1, s2, s3, s4, s5⟩ := sizedB_iff.1 z1
 obtain ⟨Wn, rfl⟩ : ∃ n : Nat, W = n := ⟨W.toNat, by omega⟩
 obtain ⟨Hn, rfl⟩ : ∃ n : Nat, H = n := ⟨H.toNat, by omega⟩
 exact walk_long Wn Hn ls v w hv hf hs
theorem own : ownKnob Try.prog.godebug = none := by kernel_rfl
theorem readable : ∀ t ∈ Try.f9.params.toList, Try.prog.readableRec t = true /\ t < Try.prog.types.size := by
 rw [Try.params9]
 intro t ht
 simp only [List.mem_cons, List.not_mem_nil, or_false] at ht
 rcases ht with rfl | rfl | rfl
 all_goals exact ⟨by kernel_rfl, of_decide_eq_true (by kernel_rfl)⟩
set_option maxRecDepth 100000 in
theorem lifted (os : Os) (started : os.Started) (H : Type) (enc : TypeId × Value -> H) :
  ReturnsInHanded {} Try.checked os 9 .any (Rows.fnFloatingIsAreaSpec.pre6 enc Try.prog Try.f9 Rows.fnFloatingIsAreaRow.domain false) (Rows.fnFloatingIsAreaSpec.post enc Try.prog Try.f9 false true false false) := by
 refine returnsInHanded_of_change (C := Try.checked) own started (by kernel_rfl) Try.func9
  (ChangeSpec.witness6 (enc := enc) (C := Try.checked) false ⟨#[], #[.int .i64 0, .int .i64 0, .slice none 0 0], []⟩ 9 (by kernel_rfl) (by kernel_rfl) (by kernel_rfl) (by kernel_rfl)) ?_
 intro W base args ds gs before hval0 hW hcnd _
 have hval : ∀ (j : Nat) t v, Try.f9.params[j]? = some t -> args[j]? = some v -> Value.okWide Try.prog W .any base t v := hval0
 have hW' := hW
 obtain ⟨p, q, hA0, hV, rfl, hfz, hnd⟩ := hW
 have hA : DataW.TrodAll enc Try.prog W 0 (fun _ => true) true Try.f9.params.toList args.toList ds p := hA0
 rw [Try.params9] at hA hval
 obtain ⟨v0, vs0, d0, ds0, p0, q0, hargs, rfl, rfl, h0, r0⟩ := trodAll_cons hA
 obtain ⟨v1, vs1, d1, ds1, p1, q1, rfl, rfl, rfl, h1, r1⟩ := trodAll_cons r0
 obtain ⟨v2, vs2, d2, ds2, p2, q2, rfl, rfl, rfl, h2, r2⟩ := trodAll_cons r1
 obtain ⟨rfl, rfl, rfl⟩ := trodAll_nil r2
 obtain rfl : args = #[v0, v1, v2] := by cases args; simp_all
 obtain ⟨rfl, rfl⟩ := trodVars_none hV
 obtain ⟨a0, rfl, rfl, rfl, w0⟩ := open_int Try.underlying3 (hval 0 3 v0 rfl rfl) h0
 obtain ⟨a1, rfl, rfl, rfl, w1⟩ := open_int Try.underlying3 (hval 1 3 v1 rfl rfl) h1
 obtain ⟨ls, hls⟩ := open_rowsT (hval 2 45 v2 rfl rfl) h2
 clear hA0 hval0
 simp only [List.append_nil] at hW'
 refine (walk a0 a1 ls v2 W hls).mono fun e W' ⟨he, hg⟩ => ?_
 subst he
 exact ⟨_, rfl, law_post readable rfl rfl rfl hW' hg.toBelow⟩
theorem over : Rows.fnFloatingIsAreaRow.holds Try.pinned (OpenSpec.ofChange Rows.fnFloatingIsAreaSpec) :=
 OpenClaim.holds_of_wide 9 Try.f9 rfl rfl rfl rfl rfl rfl rfl ⟨rfl, rfl, rfl, rfl, rfl⟩ rfl rfl rfl rfl rfl (by kernel_rfl) Try.func9 (by kernel_rfl)
  (of_decide_eq_true (by kernel_rfl)) (by unfold Func.isWrapper; first | (rw [if_pos (by decide +kernel)]; kernel_rfl) | (rw [if_neg (by decide +kernel)]; exact ⟨rfl, rfl⟩))
  (fun os started H enc _ => lifted os started H enc)
theorem proved : Rows.FnFloatingIsAreaSaid :=
 over
#print axioms proved
end Go.Proofs.Ytmgcbodlolnheaa.fnFlo
