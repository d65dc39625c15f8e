/- 'spec.Area': contract. PRINTED by -/
import Derived.Test.YtmgcbodlolnheaaZ14
namespace Go.Proofs.Ytmgcbodlolnheaa
open Flt
open Go.ChangeShapes Go.WideShapes Go.ChangeAt Go.RowKit
set_option linter.unusedVariables false
@[local go_sem ↓] theorem run_maxI {P : Program} {w : World} (ts : Array TypeId) (t : TypeId) (k k1 : IntKind) (x y : Int) : (Builtin.max_ ts t #[.int k x, .int k1 y]).run P w = .ok (.int k (imax x y)) w := by
 have e : imax x y = if x < y then y else x := by unfold imax; split <;> split <;> omega
 rw [e]
 simp [Builtin.max_, Builtin.max2]
@[local go_sem ↓] theorem run_minI {P : Program} {w : World} (ts : Array TypeId) (t : TypeId) (k k1 : IntKind) (x y : Int) : (Builtin.min_ ts t #[.int k x, .int k1 y]).run P w = .ok (.int k (imin x y)) w := by
 have e : imin x y = if y < x then y else x := by unfold imin; split <;> split <;> omega
 rw [e]
 simp [Builtin.min_, Builtin.min2]
def ENear (e : Edge) : Prop := (-1000000 <= e.1.1 /\ e.1.1 <= 1000000) /\ (-1000000 <= e.1.2 /\ e.1.2 <= 1000000) /\ (-1000000 <= e.2.1 /\ e.2.1 <= 1000000) /\ (-1000000 <= e.2.2 /\ e.2.2 <= 1000000)
theorem piece_is {x0 y0 x1 y1 X : Int} {sg p q sl zp zq side right : Nat} (hsl : sl = slope64 x0 y0 x1 y1) (hzp : zp = areaAt x0 y0 sl p) (hzq : zq = areaAt x0 y0 sl q) (hs : side = floatOfInt .f64 64) (hr : right = floatOfInt .f64 (64 * X + 64)) :
  (ec64 sg x0 y0 x1 y1 X).piece p q = fop64 .quo (fop64 .mul (fop64 .mul sg (fop64 .sub q p)) (fop64 .add (fmin64 (fmax64 (fop64 .sub right zp) 0) side) (fmin64 (fmax64 (fop64 .sub right zq) 0) side))) 4611686018427387904 := by
 subst hzp hzq hsl hs hr
 unfold EC.piece EC.reach ec64
 with_reducible rfl
structure PieceFacts (x0 y0 : Int) (sl sg p q zp zq side right s : Nat) : Prop where
 ap : AreaAtOk x0 y0 sl p
 aq : AreaAtOk x0 y0 sl q
 p1 : Fok64 .sub right zp
 p2 : Cmp64 (fop64 .sub right zp) 0
 p3 : Cmp64 (fmax64 (fop64 .sub right zp) 0) side
 q1 : Fok64 .sub right zq
 q2 : Cmp64 (fop64 .sub right zq) 0
 q3 : Cmp64 (fmax64 (fop64 .sub right zq) 0) side
 o1 : Fok64 .sub q p
 o2 : Fok64 .mul sg (fop64 .sub q p)
 o3 : Fok64 .add (fmin64 (fmax64 (fop64 .sub right zp) 0) side) (fmin64 (fmax64 (fop64 .sub right zq) 0) side)
 o4 : Fok64 .mul (fop64 .mul sg (fop64 .sub q p)) (fop64 .add (fmin64 (fmax64 (fop64 .sub right zp) 0) side) (fmin64 (fmax64 (fop64 .sub right zq) 0) side))
 o5 : Fok64 .quo (fop64 .mul (fop64 .mul sg (fop64 .sub q p)) (fop64 .add (fmin64 (fmax64 (fop64 .sub right zp) 0) side) (fmin64 (fmax64 (fop64 .sub right zq) 0) side))) 4611686018427387904
 o6 : Fok64 .add s (fop64 .quo (fop64 .mul (fop64 .mul sg (fop64 .sub q p)) (fop64 .add (fmin64 (fmax64 (fop64 .sub right zp) 0) side) (fmin64 (fmax64 (fop64 .sub right zq) 0) side))) 4611686018427387904)
theorem piece_facts {x0 y0 x1 y1 X : Int} {sg p q sl zp zq side right s : Nat} (hsl : sl = slope64 x0 y0 x1 y1) (hzp : zp = areaAt x0 y0 sl p) (hzq : zq = areaAt x0 y0 sl q) (hs : side = floatOfInt .f64 64) (hr : right = floatOfInt .f64 (64 * X + 64))
  (P : (ec64 sg x0 y0 x1 y1 X).PieceOk p q s) : PieceFacts x0 y0 sl sg p q zp zq side right s := by
 obtain ⟨⟨aok, a4, a5, a6⟩, ⟨bok, b4, b5, b6⟩, d1, d2, d3, d4, d5, d6⟩ := P
 rw [piece_is hsl hzp hzq hs hr] at d6
 subst hzp hzq hsl hs hr
 exact ⟨aok, bok, a4, a5, a6, b4, b5, b6, d1, d2, d3, d4, d5, d6⟩
theorem areaAt_as {x0 y0 : Int} {slope y e s z : Nat} {w : World} (hz : z = areaAt x0 y0 slope y) (h : AreaAtOk x0 y0 slope y) (h0 : w.cell? ⟨e, 0, none⟩ = some (.int .i64 x0)) (h1 : w.cell? ⟨e, 1, none⟩ = some (.int .i64 y0)) (h2 : w.cell? ⟨s, 0, none⟩ = some (.float .f64 slope)) :
  Calls Try.prog 57 #[.float .f64 y, .pointer (some ⟨e, 0, none⟩), .pointer (some ⟨s, 0, none⟩)] w fun en w' => en = .returned (.float .f64 z) /\ w = w' := by
 subst hz
 exact areaAt_any x0 y0 slope y e s w h h0 h1 h2
structure CutS (w : World) (ge gs gc n cap : Nat) (es : Array Value) (sl : Nat) (cs : List Nat) (wr : World) : Prop where
 own : wr.ownsRow (gs + 1) 51 1 (.slice (some ⟨gc, 0, none⟩) n cap) n (cs.map (Value.float .f64))
 e : Blk wr ge 78 es
 s : Blk wr gs 51 #[.float .f64 sl]
 same : Same w wr
 old : w.heap.size <= gs
section
variable {w wr : World} {ge gs gc n cap sl : Nat} {es : Array Value} {cs : List Nat}
theorem CutS.len (h : CutS w ge gs gc n cap es sl cs wr) : cs.length = n := by have := h.own.1; simpa using this
theorem CutS.cell (h : CutS w ge gs gc n cap es sl cs wr) {j : Nat} (hj : j < n) : wr.cell? ⟨gc, j, none⟩ = some (.float .f64 (cs.getD j 0)) := by
 rw [h.own.cellAt j (by omega), List.getElem?_map]
 have := h.len
 simp [List.getD, List.getElem?_eq_getElem (show j < cs.length by omega)]
theorem CutS.frozen (h : CutS w ge gs gc n cap es sl cs wr) (j : Nat) : wr.frozen? ⟨gc, j, none⟩ = false := h.own.frozenAt j
theorem CutS.drew (h : CutS w ge gs gc n cap es sl cs wr) : CutS w ge gs gc n cap es sl cs wr.drew := ⟨h.own.drew, h.e.drew, h.s.drew, h.same.drew, h.old⟩
theorem CutS.drewN (h : CutS w ge gs gc n cap es sl cs wr) (k : Nat) : CutS w ge gs gc n cap es sl cs (wr.drewN k) := ⟨h.own, h.e, h.s, h.same.drewN k, h.old⟩
theorem CutS.alloc (h : CutS w ge gs gc n cap es sl cs wr) (o : Obj) : CutS w ge gs gc n cap es sl cs (wr.alloc o) := ⟨h.own.alloc o, h.e.alloc o, h.s.alloc o, h.same.alloc o, h.old⟩
theorem CutS.far (h : CutS w ge gs gc n cap es sl cs wr) : gs + 1 <= gc := (h.own.lt gc rfl).1
theorem CutS.other (h : CutS w ge gs gc n cap es sl cs wr) {g : Nat} {t : TypeId} {c : Array Value} (hb : Blk wr g t c) (ht : t ≠ 51) : gc ≠ g := by
 rintro rfl
 rcases h.own.2 with ⟨h', _⟩ | ⟨g', cap', cur, h', _, hg, _⟩
 ·cases h'
 ·simp only [Value.slice.injEq, Option.some.injEq, Addr.mk.injEq, and_true, true_and] at h'
  obtain ⟨rfl, rfl⟩ := h'
  exact ht (hb.eq_ (show Blk wr gc 51 cur from hg)).1
theorem CutS.stored (h : CutS w ge gs gc n cap es sl cs wr) (j u : Nat) : CutS w ge gs gc n cap es sl (cs.set j u) (wr.setCell ⟨gc, j, none⟩ (.float .f64 u)) := by
 have h1 := h.other h.e (by decide)
 have h2 := h.far
 have h3 := h.old
 refine ⟨?_, h.e.far (fun e => h1 e.symm) _, h.s.far (by simp only; omega) _, h.same.set_new (by omega), h.old⟩
 rw [List.map_set]
 exact (h.own.stored j _).1
theorem CutS.swap (h : CutS w ge gs gc n cap es sl cs wr) (j : Nat) : CutS w ge gs gc n cap es sl (swapAt cs (j + 1)) ((wr.setCell ⟨gc, j + 1, none⟩ (.float .f64 (cs.getD j 0))).setCell ⟨gc, j, none⟩ (.float .f64 (cs.getD (j + 1) 0))) := (h.stored _ _).stored _ _
theorem CutS.next (h : CutS w ge gs gc n cap es sl cs wr) {w1 : World} {v' : Value} {c : Nat} (hown : w1.ownsRow (gs + 1) 51 1 v' (n + 1) (cs.map (Value.float .f64) ++ [.float .f64 c])) (hg : wr.grownBy w1 (some gc)) :
  ∃ gc' cap', v' = .slice (some ⟨gc', 0, none⟩) (n + 1) cap' /\ CutS w ge gs gc' (n + 1) cap' es sl (cs ++ [c]) w1 := by
 obtain ⟨gc', cap', rfl, _⟩ := hown.form (by omega)
 have h1 := h.other h.e (by decide)
 have h2 := h.far
 have h3 := h.old
 refine ⟨gc', cap', rfl, by simpa using hown, ?_, ?_, ?_, h.old⟩
 ·exact (hg.block ge h.e.lt (fun e => h1 (by simpa using e.symm))).trans h.e
 ·exact (hg.block gs h.s.lt (fun e => by simp at e; omega)).trans h.s
 ·exact h.same.grown hg fun k hk => .inl (by simp at hk; omega)
theorem CutS.kept (h : CutS w ge gs gc n cap es sl cs wr) {w1 : World} {g : Nat} {t : TypeId} {c : Array Value} (hb : Blk wr g t c) (ht : t ≠ 51) (hg : wr.grownBy w1 (some gc)) : Blk w1 g t c :=
 (hg.block g hb.lt (fun e => h.other hb ht (by simpa using e.symm))).trans hb
end
theorem cells_lone (W : World) (t : TypeId) (a : Value) : ∀ (j : Nat) (u : Value), [a][j]? = some u -> (W.alloc (.cells #[a] t)).cell? ((⟨W.heap.size, 0, none⟩ : Addr).add j) = some u := by
 intro j u hu
 have hb := Blk.new W t #[a]
 have e : (⟨W.heap.size, 0, none⟩ : Addr).add j = ⟨W.heap.size, j, none⟩ := by unfold Addr.add; split <;> simp_all
 rw [e, hb.cell]
 simpa using hu
theorem info51 : (Try.prog.info? 51).map (fun i => (i.zero, i.size, i.bytes)) = some (some (.float .f64 0), 1, 8) := by kernel_rfl
def cutsTo (x0 y0 x1 y1 X Y : Int) : Nat -> List Nat
 | 0 => [top64 y0 Y, bot64 y1 Y]
 | j + 1 => addCut (top64 y0 Y) (bot64 y1 Y) (cutW x0 y0 (64 * X + 64 * j) (slope64 x0 y0 x1 y1)) (cutsTo x0 y0 x1 y1 X Y j)
theorem cutsTo_two {x0 y0 x1 y1 X Y : Int} (h : x0 ≠ x1) : cuts64 x0 y0 x1 y1 X Y = cutsTo x0 y0 x1 y1 X Y 2 := by
 rw [cuts64, if_neg h]
 simp only [cutsTo]
 rw [show 64 * X + 64 * ((0 : Nat) : Int) = 64 * X by omega, show 64 * X + 64 * ((1 : Nat) : Int) = 64 * X + 64 by omega]
theorem cutsTo_len (x0 y0 x1 y1 X Y : Int) : ∀ j, 2 <= (cutsTo x0 y0 x1 y1 X Y j).length /\ (cutsTo x0 y0 x1 y1 X Y j).length <= 2 + j
 | 0 => by simp [cutsTo]
 | j + 1 => by
  have := cutsTo_len x0 y0 x1 y1 X Y j
  rw [cutsTo]
  unfold addCut
  split
  ·simp; omega
  ·omega
def EndAt (n : Nat) (R : Act -> World -> Prop) : Exit -> Act -> World -> Prop
 | .exit m, a, w => m = n /\ R a w
 | _, _, _ => False
theorem wp_endAt {P : Program} {c : Code} {n : Nat} {Q : Exit -> Act -> World -> Prop} {a : Act} {w : World} (h : Code.wp P c (EndAt n (Q (.exit n))) a w) : Code.wp P c Q a w :=
 Code.wp_mono (fun e a w h => by
  cases e with
  | exit m =>
   obtain ⟨rfl, h⟩ := h
   exact h
  | _ => exact h.elim) h
def loopsOf : Code -> List Code
 | .loop c => c :: loopsOf c
 | .seq a b => loopsOf a ++ loopsOf b
 | .block _ c => loopsOf c
 | .scope c => loopsOf c
 | .cond _ a b => loopsOf a ++ loopsOf b
 | _ => []
noncomputable def loop46 (k : Nat) : Code := ((Try.f46.body.map loopsOf).getD []).getD k .skip
set_option maxHeartbeats 40000000 in
set_option maxRecDepth 100000 in
theorem sum_loop {c : Code} (hc : loop46 4 = c) {Q0 : Act -> World -> Prop} {t0 t1 t2 t3 t4 t5 t6 t7 t8 t10 t11 t13 t14 t15 t18 t19 t20 t21 t22 t26 t27 t28 t29 t30 t31 t32 t33 t34 t35 t36 t37 t38 t39 t40 t41 t42 t43 t44 t45 t46 t47 t48 t49 t50 t51 t52 t53 t54 t55 t56 t57 t58 t59 t60 t61 t62 t63 t64 t65 t66 t67 t68 t69 t70 t71 t72 t73 t74 t75 t76 t77 t78 t79 t80 t81 t82 t83 t84 t85 t86 t87 t88 t89 t90 t91 t92 t93 t94 t95 t96 t97 t98 t99 t100 t101 t102 t103 t104 t105 t106 t107 t108 t109 t110 t111 t112 t113 t114 t115 t116 t117 t118 t119 t120 t121 t122 t123 t124 t125 t126 t127 t128 t129 t130 t131 t132 t133 t134 t135 t136 t137 t138 t139 t140 t141 t142 t143 t144 t145 t146 t147 t148 t149 t150 t151 t152 t153 t154 t155 t156 t157 t158 t159 t160 t161 t162 t163 t164 t165 t166 t167 t168 t169 t170 t171 t172 t173 t174 t175 t176 t177 t178 t179 t180 t181 t182 t183 t184 t185 t186 t187 t188 t189 t190 t191 t192 t193 t194 t195 t196 t197 t198 t199 t200 t201 t202 t203 t204 t205 t206 t207 t208 t209 t210 t211 t212 t213 t214 t215 t216 t217 t218 t219 t220 t221 t222 t223 t224 t225 t226 t227 t228 : Value} {w W : World} {ge gs gc n cap s sg right side : Nat} {a0 b0 a1 b1 X : Int} {SC : List Nat}
  (hn2 : 2 <= n) (hn4 : n <= 4) (hside : side = floatOfInt .f64 64) (hright : right = floatOfInt .f64 (64 * X + 64))
  (hp : ∀ i, i + 1 < n -> (ec64 sg a0 b0 a1 b1 X).PieceOk (SC.getD i 0) (SC.getD (i + 1) 0) ((ec64 sg a0 b0 a1 b1 X).sum SC s i))
  (hS : CutS w ge gs gc n cap #[.int .i64 a0, .int .i64 b0, .int .i64 a1, .int .i64 b1] (slope64 a0 b0 a1 b1) SC W)
  (hexit : ∀ (u25 u26 u27 u174 u175 u176 u177 u178 u179 u180 u181 u182 u183 u184 u185 u186 u187 u188 u189 u190 u191 u192 u193 u194 u195 u196 u197 u198 u199 u200 u201 u202 u203 u204 u205 u206 u207 u208 u209 u210 u211 u212 u213 u214 u215 u216 u217 u218 u219 u220 u221 : Value) (wi : World), CutS w ge gs gc n cap #[.int .i64 a0, .int .i64 b0, .int .i64 a1, .int .i64 b1] (slope64 a0 b0 a1 b1) SC wi -> Q0 ⟨(List.toArray (t0 :: t1 :: t2 :: t3 :: t4 :: t5 :: t6 :: t7 :: t8 :: .float .f64 ((ec64 sg a0 b0 a1 b1 X).sum SC s (n - 1)) :: t10 :: t11 :: .float .f64 sg :: t13 :: t14 :: t15 :: .func (Fn.func 57) #[] #[.pointer (some ⟨ge, 0, none⟩), .pointer (some ⟨gs, 0, none⟩)] :: .slice (some ⟨gc, 0, none⟩) n cap :: t18 :: t19 :: t20 :: t21 :: t22 :: .float .f64 right :: .float .f64 side :: u25 :: u26 :: u27 :: t28 :: t29 :: t30 :: t31 :: t32 :: t33 :: t34 :: t35 :: t36 :: t37 :: t38 :: t39 :: t40 :: t41 :: t42 :: t43 :: t44 :: t45 :: t46 :: t47 :: t48 :: t49 :: t50 :: t51 :: t52 :: t53 :: t54 :: t55 :: t56 :: t57 :: t58 :: t59 :: t60 :: t61 :: t62 :: t63 :: t64 :: t65 :: t66 :: t67 :: t68 :: t69 :: t70 :: t71 :: t72 :: t73 :: t74 :: t75 :: t76 :: t77 :: t78 :: t79 :: t80 :: t81 :: t82 :: t83 :: t84 :: t85 :: t86 :: t87 :: t88 :: t89 :: t90 :: t91 :: t92 :: t93 :: t94 :: t95 :: t96 :: t97 :: t98 :: t99 :: t100 :: t101 :: t102 :: t103 :: t104 :: t105 :: t106 :: t107 :: t108 :: t109 :: t110 :: t111 :: t112 :: t113 :: t114 :: t115 :: t116 :: t117 :: t118 :: t119 :: t120 :: t121 :: t122 :: t123 :: t124 :: t125 :: t126 :: t127 :: t128 :: t129 :: t130 :: t131 :: t132 :: t133 :: t134 :: t135 :: t136 :: t137 :: t138 :: t139 :: t140 :: t141 :: t142 :: t143 :: t144 :: t145 :: t146 :: t147 :: t148 :: t149 :: t150 :: t151 :: t152 :: t153 :: t154 :: t155 :: t156 :: t157 :: t158 :: t159 :: t160 :: t161 :: t162 :: t163 :: t164 :: t165 :: t166 :: t167 :: t168 :: t169 :: t170 :: t171 :: t172 :: t173 :: u174 :: u175 :: u176 :: u177 :: u178 :: u179 :: u180 :: u181 :: u182 :: u183 :: u184 :: u185 :: u186 :: u187 :: u188 :: u189 :: u190 :: u191 :: u192 :: u193 :: u194 :: u195 :: u196 :: u197 :: u198 :: u199 :: u200 :: u201 :: u202 :: u203 :: u204 :: u205 :: u206 :: u207 :: u208 :: u209 :: u210 :: u211 :: u212 :: u213 :: u214 :: u215 :: u216 :: u217 :: u218 :: u219 :: u220 :: u221 :: t222 :: t223 :: t224 :: t225 :: t226 :: t227 :: t228 :: [])), []⟩ wi) :
  Code.wp Try.prog (Code.loop c) (EndAt 8 Q0) ⟨(List.toArray (t0 :: t1 :: t2 :: t3 :: t4 :: t5 :: t6 :: t7 :: t8 :: .float .f64 s :: t10 :: t11 :: .float .f64 sg :: t13 :: t14 :: t15 :: .func (Fn.func 57) #[] #[.pointer (some ⟨ge, 0, none⟩), .pointer (some ⟨gs, 0, none⟩)] :: .slice (some ⟨gc, 0, none⟩) n cap :: t18 :: t19 :: t20 :: t21 :: t22 :: .float .f64 right :: .float .f64 side :: .int .i64 1 :: t26 :: t27 :: t28 :: t29 :: t30 :: t31 :: t32 :: t33 :: t34 :: t35 :: t36 :: t37 :: t38 :: t39 :: t40 :: t41 :: t42 :: t43 :: t44 :: t45 :: t46 :: t47 :: t48 :: t49 :: t50 :: t51 :: t52 :: t53 :: t54 :: t55 :: t56 :: t57 :: t58 :: t59 :: t60 :: t61 :: t62 :: t63 :: t64 :: t65 :: t66 :: t67 :: t68 :: t69 :: t70 :: t71 :: t72 :: t73 :: t74 :: t75 :: t76 :: t77 :: t78 :: t79 :: t80 :: t81 :: t82 :: t83 :: t84 :: t85 :: t86 :: t87 :: t88 :: t89 :: t90 :: t91 :: t92 :: t93 :: t94 :: t95 :: t96 :: t97 :: t98 :: t99 :: t100 :: t101 :: t102 :: t103 :: t104 :: t105 :: t106 :: t107 :: t108 :: t109 :: t110 :: t111 :: t112 :: t113 :: t114 :: t115 :: t116 :: t117 :: t118 :: t119 :: t120 :: t121 :: t122 :: t123 :: t124 :: t125 :: t126 :: t127 :: t128 :: t129 :: t130 :: t131 :: t132 :: t133 :: t134 :: t135 :: t136 :: t137 :: t138 :: t139 :: t140 :: t141 :: t142 :: t143 :: t144 :: t145 :: t146 :: t147 :: t148 :: t149 :: t150 :: t151 :: t152 :: t153 :: t154 :: t155 :: t156 :: t157 :: t158 :: t159 :: t160 :: t161 :: t162 :: t163 :: t164 :: t165 :: t166 :: t167 :: t168 :: t169 :: t170 :: t171 :: t172 :: t173 :: t174 :: t175 :: t176 :: t177 :: t178 :: t179 :: t180 :: t181 :: t182 :: t183 :: t184 :: t185 :: t186 :: t187 :: t188 :: t189 :: t190 :: t191 :: t192 :: t193 :: t194 :: t195 :: t196 :: t197 :: t198 :: t199 :: t200 :: t201 :: t202 :: t203 :: t204 :: t205 :: t206 :: t207 :: t208 :: t209 :: t210 :: t211 :: t212 :: t213 :: t214 :: t215 :: t216 :: t217 :: t218 :: t219 :: t220 :: t221 :: t222 :: t223 :: t224 :: t225 :: t226 :: t227 :: t228 :: [])), []⟩ W := by
 subst hc
 conv => arg 2; arg 1; whnf
 have HS := hid hS
 have HP := hid hp
 have HSIDE := hid hside
 have HRIGHT := hid hright
 have HEX := hid hexit
 clear hS hp hside hright hexit
 go_loopw [9, 25] (fun sv i wi => ∃ j : Nat, j + 1 <= n /\ i = .int .i64 ((j : Int) + 1) /\ sv = .float .f64 ((ec64 sg a0 b0 a1 b1 X).sum SC s j) /\ CutS w ge gs gc n cap #[.int .i64 a0, .int .i64 b0, .int .i64 a1, .int .i64 b1] (slope64 a0 b0 a1 b1) SC wi) (fun _ i _ => n - (intOf i).toNat)
 case atStart => exact ⟨0, by omega, by simp, rfl, HS.out⟩
 case round =>
  obtain ⟨j, hj, rfl, rfl, q6⟩ := hrel
  have Q6 := hid q6
  clear q6
  by_cases hjn : j + 1 < n
  ·have P := HP.out j hjn
   have NX := hid (show (ec64 sg a0 b0 a1 b1 X).sum SC s (j + 1) = fop64 .add ((ec64 sg a0 b0 a1 b1 X).sum SC s j) ((ec64 sg a0 b0 a1 b1 X).piece (SC.getD j 0) (SC.getD (j + 1) 0)) from rfl)
   have c5 := Q6.out.cell (j := j + 1) (by omega)
   have c6 := Q6.out.cell (j := j) (by omega)
   have e0 := Q6.out.e.cell 0
   have e1 := Q6.out.e.cell 1
   have s0 := Q6.out.s.cell 0
   simp only [List.getElem?_toArray, List.getElem?_cons_zero, List.getElem?_cons_succ] at e0 e1 s0
   generalize (ec64 sg a0 b0 a1 b1 X).sum SC s j = s1 at P NX ⊢
   generalize SC.getD j 0 = p at P NX c6
   generalize SC.getD (j + 1) 0 = q at P NX c5
   obtain ⟨sl, hsl⟩ : ∃ sl, sl = slope64 a0 b0 a1 b1 := ⟨_, rfl⟩
   obtain ⟨zp, hzp⟩ : ∃ zp, zp = areaAt a0 b0 sl p := ⟨_, rfl⟩
   obtain ⟨zq, hzq⟩ : ∃ zq, zq = areaAt a0 b0 sl q := ⟨_, rfl⟩
   rw [piece_is hsl hzp hzq HSIDE.out HRIGHT.out] at NX
   obtain ⟨aok, bok, a4, a5, a6, b4, b5, b6, d1, d2, d3, d4, d5, d6⟩ := piece_facts hsl hzp hzq HSIDE.out HRIGHT.out P
   rw [<- hsl] at s0
   clear P
   have CP := hid (areaAt_as hzp aok e0 e1 s0)
   have CQ := hid (areaAt_as hzq bok e0 e1 s0)
   clear hzp hzq aok bok e0 e1 s0
   have i1 : (j : Int) + 1 < (n : Int) := by omega
   have i2 : (j : Int) < (n : Int) := by omega
   have i3 : IntKind.i64.wrap ((j : Int) + 1 - 1) = (j : Int) := by rw [IntWalk.i64_in _ (by omega)]; omega
   go_wp2_with fail
   go_at_call 57
   refine CP.out.mono ?_
   rintro e w' ⟨rfl, rfl⟩
   go_wp2_with fail
   go_at_call 57
   refine CQ.out.mono ?_
   rintro e w' ⟨rfl, rfl⟩
   go_wp2_with fail
   go_quiet (fail)
   go_wp2_with fail
   go_roundw
   case measure => simp [intOf]; omega
   case rel => exact ⟨j + 1, by omega, by go_num, by rw [NX.out], Q6.out.drewN _⟩
  ·have hj9 : j = n - 1 := by omega
   have hjn' : ¬ (j : Int) + 1 < (n : Int) := by omega
   clear hjn
   go_wp2_with fail
   subst hj9
   exact ⟨rfl, HEX.out _ _ _ _ _ _ _ _ _ _ _ _ _ _ _ _ _ _ _ _ _ _ _ _ _ _ _ _ _ _ _ _ _ _ _ _ _ _ _ _ _ _ _ _ _ _ _ _ _ _ _ _ Q6.out⟩
set_option maxHeartbeats 40000000 in
set_option maxRecDepth 100000 in
theorem sort_loop {c : Code} (hc : loop46 2 = c) {Q0 : Act -> World -> Prop} {t0 t1 t2 t3 t4 t5 t6 t7 t8 t9 t10 t11 t12 t13 t14 t15 t16 t18 t19 t20 t21 t22 t23 t24 t25 t26 t27 t28 t29 t30 t31 t32 t33 t34 t35 t36 t37 t38 t39 t40 t41 t42 t43 t44 t45 t46 t47 t48 t49 t50 t51 t52 t53 t54 t55 t56 t57 t58 t59 t60 t61 t62 t63 t64 t65 t66 t67 t68 t69 t70 t71 t72 t73 t74 t75 t76 t77 t78 t79 t80 t81 t82 t83 t84 t85 t86 t87 t88 t89 t90 t91 t92 t93 t94 t95 t96 t97 t98 t99 t100 t101 t102 t103 t104 t105 t106 t107 t108 t109 t110 t111 t112 t113 t114 t115 t116 t117 t118 t119 t120 t121 t122 t123 t124 t125 t126 t127 t130 t131 t132 t133 t134 t135 t136 t137 t138 t139 t140 t141 t142 t143 t144 t145 t146 t147 t148 t149 t150 t151 t152 t153 t154 t155 t156 t157 t158 t159 t160 t161 t162 t163 t164 t165 t166 t167 t168 t169 t170 t171 t172 t173 t174 t175 t176 t177 t178 t179 t180 t181 t182 t183 t184 t185 t186 t187 t188 t189 t190 t191 t192 t193 t194 t195 t196 t197 t198 t199 t200 t201 t202 t203 t204 t205 t206 t207 t208 t209 t210 t211 t212 t213 t214 t215 t216 t217 t218 t219 t220 t221 t222 t223 t224 t225 t226 t227 t228 : Value} {w W : World} {ge gs gc n cap sl : Nat} {a0 b0 a1 b1 : Int} {CS : List Nat}
  (hn2 : 2 <= n) (hn4 : n <= 4) (hS : CutS w ge gs gc n cap #[.int .i64 a0, .int .i64 b0, .int .i64 a1, .int .i64 b1] sl CS W)
  (hexit : ∀ (u21 u22 u129 u130 u131 u132 u133 u134 u135 u136 u137 u138 u139 u140 u141 u142 u143 u144 u145 u146 u147 u148 u149 u150 u151 u152 u153 u154 u155 u156 u157 u158 u159 u160 u161 u162 u163 u164 u165 : Value) (wi : World), CutS w ge gs gc n cap #[.int .i64 a0, .int .i64 b0, .int .i64 a1, .int .i64 b1] sl (sortTo n CS) wi -> Q0 ⟨(List.toArray (t0 :: t1 :: t2 :: t3 :: t4 :: t5 :: t6 :: t7 :: t8 :: t9 :: t10 :: t11 :: t12 :: t13 :: t14 :: t15 :: t16 :: .slice (some ⟨gc, 0, none⟩) n cap :: t18 :: t19 :: t20 :: u21 :: u22 :: t23 :: t24 :: t25 :: t26 :: t27 :: t28 :: t29 :: t30 :: t31 :: t32 :: t33 :: t34 :: t35 :: t36 :: t37 :: t38 :: t39 :: t40 :: t41 :: t42 :: t43 :: t44 :: t45 :: t46 :: t47 :: t48 :: t49 :: t50 :: t51 :: t52 :: t53 :: t54 :: t55 :: t56 :: t57 :: t58 :: t59 :: t60 :: t61 :: t62 :: t63 :: t64 :: t65 :: t66 :: t67 :: t68 :: t69 :: t70 :: t71 :: t72 :: t73 :: t74 :: t75 :: t76 :: t77 :: t78 :: t79 :: t80 :: t81 :: t82 :: t83 :: t84 :: t85 :: t86 :: t87 :: t88 :: t89 :: t90 :: t91 :: t92 :: t93 :: t94 :: t95 :: t96 :: t97 :: t98 :: t99 :: t100 :: t101 :: t102 :: t103 :: t104 :: t105 :: t106 :: t107 :: t108 :: t109 :: t110 :: t111 :: t112 :: t113 :: t114 :: t115 :: t116 :: t117 :: t118 :: t119 :: t120 :: t121 :: t122 :: t123 :: t124 :: t125 :: t126 :: t127 :: .int .i64 n :: u129 :: u130 :: u131 :: u132 :: u133 :: u134 :: u135 :: u136 :: u137 :: u138 :: u139 :: u140 :: u141 :: u142 :: u143 :: u144 :: u145 :: u146 :: u147 :: u148 :: u149 :: u150 :: u151 :: u152 :: u153 :: u154 :: u155 :: u156 :: u157 :: u158 :: u159 :: u160 :: u161 :: u162 :: u163 :: u164 :: u165 :: t166 :: t167 :: t168 :: t169 :: t170 :: t171 :: t172 :: t173 :: t174 :: t175 :: t176 :: t177 :: t178 :: t179 :: t180 :: t181 :: t182 :: t183 :: t184 :: t185 :: t186 :: t187 :: t188 :: t189 :: t190 :: t191 :: t192 :: t193 :: t194 :: t195 :: t196 :: t197 :: t198 :: t199 :: t200 :: t201 :: t202 :: t203 :: t204 :: t205 :: t206 :: t207 :: t208 :: t209 :: t210 :: t211 :: t212 :: t213 :: t214 :: t215 :: t216 :: t217 :: t218 :: t219 :: t220 :: t221 :: t222 :: t223 :: t224 :: t225 :: t226 :: t227 :: t228 :: [])), []⟩ wi) :
  Code.wp Try.prog (Code.loop c) (EndAt 4 Q0) ⟨(List.toArray (t0 :: t1 :: t2 :: t3 :: t4 :: t5 :: t6 :: t7 :: t8 :: t9 :: t10 :: t11 :: t12 :: t13 :: t14 :: t15 :: t16 :: .slice (some ⟨gc, 0, none⟩) n cap :: t18 :: t19 :: t20 :: t21 :: t22 :: t23 :: t24 :: t25 :: t26 :: t27 :: t28 :: t29 :: t30 :: t31 :: t32 :: t33 :: t34 :: t35 :: t36 :: t37 :: t38 :: t39 :: t40 :: t41 :: t42 :: t43 :: t44 :: t45 :: t46 :: t47 :: t48 :: t49 :: t50 :: t51 :: t52 :: t53 :: t54 :: t55 :: t56 :: t57 :: t58 :: t59 :: t60 :: t61 :: t62 :: t63 :: t64 :: t65 :: t66 :: t67 :: t68 :: t69 :: t70 :: t71 :: t72 :: t73 :: t74 :: t75 :: t76 :: t77 :: t78 :: t79 :: t80 :: t81 :: t82 :: t83 :: t84 :: t85 :: t86 :: t87 :: t88 :: t89 :: t90 :: t91 :: t92 :: t93 :: t94 :: t95 :: t96 :: t97 :: t98 :: t99 :: t100 :: t101 :: t102 :: t103 :: t104 :: t105 :: t106 :: t107 :: t108 :: t109 :: t110 :: t111 :: t112 :: t113 :: t114 :: t115 :: t116 :: t117 :: t118 :: t119 :: t120 :: t121 :: t122 :: t123 :: t124 :: t125 :: t126 :: t127 :: .int .i64 n :: .int .i64 0 :: t130 :: t131 :: t132 :: t133 :: t134 :: t135 :: t136 :: t137 :: t138 :: t139 :: t140 :: t141 :: t142 :: t143 :: t144 :: t145 :: t146 :: t147 :: t148 :: t149 :: t150 :: t151 :: t152 :: t153 :: t154 :: t155 :: t156 :: t157 :: t158 :: t159 :: t160 :: t161 :: t162 :: t163 :: t164 :: t165 :: t166 :: t167 :: t168 :: t169 :: t170 :: t171 :: t172 :: t173 :: t174 :: t175 :: t176 :: t177 :: t178 :: t179 :: t180 :: t181 :: t182 :: t183 :: t184 :: t185 :: t186 :: t187 :: t188 :: t189 :: t190 :: t191 :: t192 :: t193 :: t194 :: t195 :: t196 :: t197 :: t198 :: t199 :: t200 :: t201 :: t202 :: t203 :: t204 :: t205 :: t206 :: t207 :: t208 :: t209 :: t210 :: t211 :: t212 :: t213 :: t214 :: t215 :: t216 :: t217 :: t218 :: t219 :: t220 :: t221 :: t222 :: t223 :: t224 :: t225 :: t226 :: t227 :: t228 :: [])), []⟩ W := by
 subst hc
 conv => arg 2; arg 1; whnf
 have HS := hid hS
 have HEX := hid hexit
 clear hS hexit
 go_loopw [129] (fun i wi => ∃ j : Nat, j <= n /\ i = .int .i64 j /\ CutS w ge gs gc n cap #[.int .i64 a0, .int .i64 b0, .int .i64 a1, .int .i64 b1] sl (sortTo j CS) wi) (fun i _ => n - (intOf i).toNat)
 case atStart => exact ⟨0, Nat.zero_le _, rfl, HS.out⟩
 case round =>
  obtain ⟨i, hi, rfl, q3⟩ := hrel
  have Q3 := hid q3
  clear q3
  by_cases hin : i < n
  ·have hin' : (i : Int) < (n : Int) := by omega
   clear HEX
   go_wp2_with fail
   go_loopw [22] (fun m wi => ∃ (j : Nat) (cur : List Nat), j <= i /\ m = .int .i64 j /\ sink j cur = sortTo (i + 1) CS /\ CutS w ge gs gc n cap #[.int .i64 a0, .int .i64 b0, .int .i64 a1, .int .i64 b1] sl cur wi) (fun m _ => (intOf m).toNat)
   case atStart => exact ⟨i, _, Nat.le_refl _, rfl, rfl, Q3.out⟩
   case round =>
    obtain ⟨j, cur, hj, rfl, q4, q5⟩ := hrel
    have Q4 := hid q4
    have Q5 := hid q5
    clear q4 q5
    by_cases hj0 : j = 0
    ·subst hj0
     have R := hid (show CutS w ge gs gc n cap #[.int .i64 a0, .int .i64 b0, .int .i64 a1, .int .i64 b1] sl (sortTo (i + 1) CS) wr by rw [<- Q4.out]; exact Q5.out)
     go_wp2_with fail
     go_quiet (fail)
     go_wp2_with fail
     go_roundw
     case measure => simp [intOf]; omega
     case rel => exact ⟨i + 1, by omega, by go_num, R.out.drewN _⟩
    ·obtain ⟨jj, rfl⟩ : ∃ jj, j = jj + 1 := ⟨j - 1, by omega⟩
     have c5 := Q5.out.cell (j := jj + 1) (by omega)
     have c6 := Q5.out.cell (j := jj) (by omega)
     have z5 := Q5.out.frozen (jj + 1)
     have z6 := Q5.out.frozen jj
     have SW := hid (fun q => (Q5.out.drewN q).swap jj)
     have hstep := Q4.out
     rw [sink] at hstep
     have HST := hid hstep
     clear hstep
     generalize hv5 : cur.getD (jj + 1) 0 = v5 at c5 SW HST
     generalize hv6 : cur.getD jj 0 = v6 at c6 SW HST
     clear hv5 hv6
     have i1 : (jj : Int) + 1 < (n : Int) := by omega
     have i2 : (jj : Int) < (n : Int) := by omega
     have i3 : IntKind.i64.wrap ((jj : Int) + 1 - 1) = (jj : Int) := by rw [IntWalk.i64_in _ (by omega)]; omega
     have i4 : decide ((0 : Int) < (jj : Int) + 1) = true := decide_eq_true (by omega)
     clear hj0
     by_cases hlt5 : flt64 v5 v6 = true
     ·have h5 : (FloatKind.f64.format.order v5 v6 == some Ordering.lt) = true := hlt5
      have NX := hid (show sink jj (swapAt cur (jj + 1)) = sortTo (i + 1) CS by rw [<- HST.out, if_pos hlt5])
      clear hlt5
      go_wp2_with fail
      go_quiet (fail)
      go_wp2_with fail
      go_region
      go_wp2_with fail
      go_roundw
      case measure => simp [intOf]
      case rel => exact ⟨jj, _, by omega, by go_num, NX.out, SW.out _⟩
     ·have h5 : (FloatKind.f64.format.order v5 v6 == some Ordering.lt) = false := Bool.eq_false_iff.2 hlt5
      have R := hid (show CutS w ge gs gc n cap #[.int .i64 a0, .int .i64 b0, .int .i64 a1, .int .i64 b1] sl (sortTo (i + 1) CS) wr by rw [<- HST.out, if_neg hlt5]; exact Q5.out)
      clear hlt5
      go_wp2_with fail
      go_quiet (fail)
      go_wp2_with fail
      go_roundw
      case measure => simp [intOf]; omega
      case rel => exact ⟨i + 1, by omega, by go_num, R.out.drewN _⟩
  ·have hin' : ¬ (i : Int) < (n : Int) := by omega
   have hin9 : i = n := by omega
   clear hin
   have R := hid (show CutS w ge gs gc n cap #[.int .i64 a0, .int .i64 b0, .int .i64 a1, .int .i64 b1] sl (sortTo n CS) wr by have h9 := Q3.out; rw [hin9] at h9; exact h9)
   clear hin9
   go_wp2_with fail
   exact ⟨rfl, HEX.out _ _ _ _ _ _ _ _ _ _ _ _ _ _ _ _ _ _ _ _ _ _ _ _ _ _ _ _ _ _ _ _ _ _ _ _ _ _ _ _ R.out⟩
set_option maxHeartbeats 40000000 in
set_option maxRecDepth 100000 in
theorem cut_loop {c : Code} (hc : loop46 1 = c) {Q0 : Act -> World -> Prop} {t0 t1 t2 t3 t4 t5 t6 t7 t8 t9 t10 t12 t16 t18 t19 t20 t21 t22 t23 t24 t25 t26 t27 t28 t29 t30 t31 t32 t33 t34 t35 t36 t37 t38 t39 t40 t41 t42 t43 t44 t45 t46 t47 t48 t49 t50 t51 t52 t53 t54 t55 t56 t57 t58 t59 t60 t61 t62 t63 t64 t65 t66 t67 t68 t69 t70 t71 t72 t73 t74 t75 t76 t77 t78 t79 t80 t81 t82 t83 t84 t85 t86 t87 t88 t89 t90 t91 t92 t93 t94 t95 t96 t100 t101 t102 t103 t104 t105 t106 t107 t108 t109 t110 t111 t112 t113 t114 t115 t116 t117 t118 t119 t120 t121 t122 t123 t124 t125 t126 t127 t128 t129 t130 t131 t132 t133 t134 t135 t136 t137 t138 t139 t140 t141 t142 t143 t144 t145 t146 t147 t148 t149 t150 t151 t152 t153 t154 t155 t156 t157 t158 t159 t160 t161 t162 t163 t164 t165 t166 t167 t168 t169 t170 t171 t172 t173 t174 t175 t176 t177 t178 t179 t180 t181 t182 t183 t184 t185 t186 t187 t188 t189 t190 t191 t192 t193 t194 t195 t196 t197 t198 t199 t200 t201 t202 t203 t204 t205 t206 t207 t208 t209 t210 t211 t212 t213 t214 t215 t216 t217 t218 t219 t220 t221 t222 t223 t224 t225 t226 t227 t228 : Value} {w W : World} {ge gs gc gl tp bt : Nat} {a0 b0 a1 b1 X Y : Int}
  (hN : ENear ((a0, b0), (a1, b1))) (hx : 0 <= X /\ X <= 100000) (htp : tp = top64 b0 Y) (hbt : bt = bot64 b1 Y)
  (hco : ∀ j : Nat, j < 2 -> CutOk a0 b0 (64 * X + 64 * (j : Int)) (slope64 a0 b0 a1 b1))
  (hS : CutS w ge gs gc 2 2 #[.int .i64 a0, .int .i64 b0, .int .i64 a1, .int .i64 b1] (slope64 a0 b0 a1 b1) [tp, bt] W) (hB : Blk W gl 3 #[.int .i64 (64 * X), .int .i64 (64 * X + 64)])
  (hexit : ∀ (gd n cap : Nat) (u19 u20 u99 u100 u101 u102 u103 u104 u105 u106 u107 u108 u109 u110 u111 u112 u113 u114 u115 u116 u117 u118 u119 u120 u121 u122 u123 u124 u125 u126 : Value) (wi : World), 2 <= n -> n <= 4 -> CutS w ge gs gd n cap #[.int .i64 a0, .int .i64 b0, .int .i64 a1, .int .i64 b1] (slope64 a0 b0 a1 b1) (cutsTo a0 b0 a1 b1 X Y 2) wi -> Q0 ⟨(List.toArray (t0 :: t1 :: t2 :: t3 :: t4 :: t5 :: t6 :: t7 :: t8 :: t9 :: t10 :: .pointer (some ⟨ge, 0, none⟩) :: t12 :: .float .f64 tp :: .float .f64 bt :: .pointer (some ⟨gs, 0, none⟩) :: t16 :: .slice (some ⟨gd, 0, none⟩) n cap :: t18 :: u19 :: u20 :: t21 :: t22 :: t23 :: t24 :: t25 :: t26 :: t27 :: t28 :: t29 :: t30 :: t31 :: t32 :: t33 :: t34 :: t35 :: t36 :: t37 :: t38 :: t39 :: t40 :: t41 :: t42 :: t43 :: t44 :: t45 :: t46 :: t47 :: t48 :: t49 :: t50 :: t51 :: t52 :: t53 :: t54 :: t55 :: t56 :: t57 :: t58 :: t59 :: t60 :: t61 :: t62 :: t63 :: t64 :: t65 :: t66 :: t67 :: t68 :: t69 :: t70 :: t71 :: t72 :: t73 :: t74 :: t75 :: t76 :: t77 :: t78 :: t79 :: t80 :: t81 :: t82 :: t83 :: t84 :: t85 :: t86 :: t87 :: t88 :: t89 :: t90 :: t91 :: t92 :: t93 :: t94 :: t95 :: t96 :: .slice (some ⟨gl, 0, none⟩) 2 2 :: .int .i64 2 :: u99 :: u100 :: u101 :: u102 :: u103 :: u104 :: u105 :: u106 :: u107 :: u108 :: u109 :: u110 :: u111 :: u112 :: u113 :: u114 :: u115 :: u116 :: u117 :: u118 :: u119 :: u120 :: u121 :: u122 :: u123 :: u124 :: u125 :: u126 :: t127 :: t128 :: t129 :: t130 :: t131 :: t132 :: t133 :: t134 :: t135 :: t136 :: t137 :: t138 :: t139 :: t140 :: t141 :: t142 :: t143 :: t144 :: t145 :: t146 :: t147 :: t148 :: t149 :: t150 :: t151 :: t152 :: t153 :: t154 :: t155 :: t156 :: t157 :: t158 :: t159 :: t160 :: t161 :: t162 :: t163 :: t164 :: t165 :: t166 :: t167 :: t168 :: t169 :: t170 :: t171 :: t172 :: t173 :: t174 :: t175 :: t176 :: t177 :: t178 :: t179 :: t180 :: t181 :: t182 :: t183 :: t184 :: t185 :: t186 :: t187 :: t188 :: t189 :: t190 :: t191 :: t192 :: t193 :: t194 :: t195 :: t196 :: t197 :: t198 :: t199 :: t200 :: t201 :: t202 :: t203 :: t204 :: t205 :: t206 :: t207 :: t208 :: t209 :: t210 :: t211 :: t212 :: t213 :: t214 :: t215 :: t216 :: t217 :: t218 :: t219 :: t220 :: t221 :: t222 :: t223 :: t224 :: t225 :: t226 :: t227 :: t228 :: [])), []⟩ wi) :
  Code.wp Try.prog (Code.loop c) (EndAt 2 Q0) ⟨(List.toArray (t0 :: t1 :: t2 :: t3 :: t4 :: t5 :: t6 :: t7 :: t8 :: t9 :: t10 :: .pointer (some ⟨ge, 0, none⟩) :: t12 :: .float .f64 tp :: .float .f64 bt :: .pointer (some ⟨gs, 0, none⟩) :: t16 :: .slice (some ⟨gc, 0, none⟩) 2 2 :: t18 :: t19 :: t20 :: t21 :: t22 :: t23 :: t24 :: t25 :: t26 :: t27 :: t28 :: t29 :: t30 :: t31 :: t32 :: t33 :: t34 :: t35 :: t36 :: t37 :: t38 :: t39 :: t40 :: t41 :: t42 :: t43 :: t44 :: t45 :: t46 :: t47 :: t48 :: t49 :: t50 :: t51 :: t52 :: t53 :: t54 :: t55 :: t56 :: t57 :: t58 :: t59 :: t60 :: t61 :: t62 :: t63 :: t64 :: t65 :: t66 :: t67 :: t68 :: t69 :: t70 :: t71 :: t72 :: t73 :: t74 :: t75 :: t76 :: t77 :: t78 :: t79 :: t80 :: t81 :: t82 :: t83 :: t84 :: t85 :: t86 :: t87 :: t88 :: t89 :: t90 :: t91 :: t92 :: t93 :: t94 :: t95 :: t96 :: .slice (some ⟨gl, 0, none⟩) 2 2 :: .int .i64 2 :: .int .i64 0 :: t100 :: t101 :: t102 :: t103 :: t104 :: t105 :: t106 :: t107 :: t108 :: t109 :: t110 :: t111 :: t112 :: t113 :: t114 :: t115 :: t116 :: t117 :: t118 :: t119 :: t120 :: t121 :: t122 :: t123 :: t124 :: t125 :: t126 :: t127 :: t128 :: t129 :: t130 :: t131 :: t132 :: t133 :: t134 :: t135 :: t136 :: t137 :: t138 :: t139 :: t140 :: t141 :: t142 :: t143 :: t144 :: t145 :: t146 :: t147 :: t148 :: t149 :: t150 :: t151 :: t152 :: t153 :: t154 :: t155 :: t156 :: t157 :: t158 :: t159 :: t160 :: t161 :: t162 :: t163 :: t164 :: t165 :: t166 :: t167 :: t168 :: t169 :: t170 :: t171 :: t172 :: t173 :: t174 :: t175 :: t176 :: t177 :: t178 :: t179 :: t180 :: t181 :: t182 :: t183 :: t184 :: t185 :: t186 :: t187 :: t188 :: t189 :: t190 :: t191 :: t192 :: t193 :: t194 :: t195 :: t196 :: t197 :: t198 :: t199 :: t200 :: t201 :: t202 :: t203 :: t204 :: t205 :: t206 :: t207 :: t208 :: t209 :: t210 :: t211 :: t212 :: t213 :: t214 :: t215 :: t216 :: t217 :: t218 :: t219 :: t220 :: t221 :: t222 :: t223 :: t224 :: t225 :: t226 :: t227 :: t228 :: [])), []⟩ W := by
 subst hc
 conv => arg 2; arg 1; whnf
 obtain ⟨⟨n1, n2⟩, ⟨n3, n4⟩, ⟨n5, n6⟩, ⟨n7, n8⟩⟩ := hN
 simp only at n1 n2 n3 n4 n5 n6 n7 n8
 obtain ⟨hx1, hx2⟩ := hx
 have hS0 : CutS w ge gs gc 2 2 #[.int .i64 a0, .int .i64 b0, .int .i64 a1, .int .i64 b1] (slope64 a0 b0 a1 b1) (cutsTo a0 b0 a1 b1 X Y 0) W := by rw [cutsTo, <- htp, <- hbt]; exact hS
 have HS := hid hS0
 have HB := hid hB
 have HEX := hid hexit
 have HCO := hid hco
 have HTP := hid htp
 have HBT := hid hbt
 obtain ⟨i0, hi0, hz0, hz1, hz2⟩ := info_parts info51
 clear hS hS0 hB hexit hco htp hbt
 go_loopw [17, 99] (fun v i wi => ∃ j gc n cap : Nat, j <= 2 /\ i = .int .i64 j /\ v = .slice (some ⟨gc, 0, none⟩) n cap /\ CutS w ge gs gc n cap #[.int .i64 a0, .int .i64 b0, .int .i64 a1, .int .i64 b1] (slope64 a0 b0 a1 b1) (cutsTo a0 b0 a1 b1 X Y j) wi /\ Blk wi gl 3 #[.int .i64 (64 * X), .int .i64 (64 * X + 64)]) (fun _ i _ => 2 - (intOf i).toNat)
 case atStart => exact ⟨0, gc, 2, 2, by omega, rfl, rfl, HS.out, HB.out⟩
 case round =>
  obtain ⟨j, gc, n, cap, hj, rfl, rfl, q3, q4⟩ := hrel
  have hlen := cutsTo_len a0 b0 a1 b1 X Y j
  rw [q3.len] at hlen
  obtain ⟨hn2, hn4⟩ := hlen
  by_cases hj2 : j < 2
  ·have hCO := HCO.out j hj2
   clear HEX
   have hz := q4.cell j
   have hzc : (#[Value.int .i64 (64 * X), Value.int .i64 (64 * X + 64)])[j]? = some (.int .i64 (64 * X + 64 * (j : Int))) := by
    rcases (by omega : j = 0 ∨ j = 1) with rfl | rfl
    ·rw [show 64 * X + 64 * ((0 : Nat) : Int) = 64 * X by omega]; rfl
    ·rw [show 64 * X + 64 * ((1 : Nat) : Int) = 64 * X + 64 by omega]; rfl
   rw [hzc] at hz
   have hnx : cutsTo a0 b0 a1 b1 X Y (j + 1) = addCut (top64 b0 Y) (bot64 b1 Y) (cutW a0 b0 (64 * X + 64 * j) (slope64 a0 b0 a1 b1)) (cutsTo a0 b0 a1 b1 X Y j) := rfl
   rw [<- HTP.out, <- HBT.out] at hnx
   have hzb : -10000000 <= 64 * X + 64 * (j : Int) /\ 64 * X + 64 * (j : Int) <= 10000000 := by omega
   generalize 64 * X + 64 * (j : Int) = z at hCO hz hnx hzb
   obtain ⟨k1, k2⟩ := hCO
   obtain ⟨sl, hsl⟩ : ∃ sl, sl = slope64 a0 b0 a1 b1 := ⟨_, rfl⟩
   have e0 := q3.e.cell 0
   have e1 := q3.e.cell 1
   have s0 := q3.s.cell 0
   simp only [List.getElem?_toArray, List.getElem?_cons_zero, List.getElem?_cons_succ] at e0 e1 s0
   rw [<- hsl] at k1 k2 hnx s0
   have Q3 := hid q3
   have Q4 := hid q4
   have NX := hid hnx
   obtain ⟨hzb1, hzb2⟩ := hzb
   have hji : (j : Int) < 2 := by omega
   have hng : gl < wr.heap.size := q4.lt
   have hngs : gs < wr.heap.size := q3.s.lt
   clear q3 q4 hnx hsl hzc
   by_cases hA : fgt64 (cutW a0 b0 z sl) tp = true
   ·have tA : (FloatKind.f64.format.order (fop64 .add (floatOfInt .f64 b0) (fop64 .quo (floatOfInt .f64 (z - a0)) sl)) tp == some .gt) = true := hA
    by_cases hB : flt64 (cutW a0 b0 z sl) bt = true
    ·have tB : (FloatKind.f64.format.order (fop64 .add (floatOfInt .f64 b0) (fop64 .quo (floatOfInt .f64 (z - a0)) sl)) bt == some .lt) = true := hB
     have R := hid (show cutsTo a0 b0 a1 b1 X Y (j + 1) = cutsTo a0 b0 a1 b1 X Y j ++ [fop64 .add (floatOfInt .f64 b0) (fop64 .quo (floatOfInt .f64 (z - a0)) sl)] by rw [NX.out, addCut, if_pos ⟨hA, hB⟩]; rfl)
     clear hA hB
     go_wp2_with (at_builtin; refine wpList_append_own _ rfl _ _ 96 rfl (gs + 1) 51 i0 (.float .f64 0) 1 8 Try.underlying96 hi0 hz0 hz1 hz2 rfl (by decide) _ _ _ rfl (Q3.out.own.alloc _) ⟨wr.heap.size, 0, none⟩ 1 1 [.float .f64 (fop64 .add (floatOfInt .f64 b0) (fop64 .quo (floatOfInt .f64 (z - a0)) sl))] rfl rfl ?c1 ?c2 ?c3 ?c4 ?c5 ?_)
     case c1 => exact cells_lone _ _ _
     case c2 => intro u hu; simp at hu; subst hu; rfl
     case c3 => unfold maxLen; omega
     case c4 => omega
     case c5 => simp; omega
     intro v' w1 hown' hgrow _
     obtain ⟨gc', cap', rfl, q5⟩ := (Q3.out.alloc _).next hown' hgrow
     have q6 := (Q3.out.alloc _).kept (Q4.out.alloc _) (by decide) hgrow
     rw [<- R.out] at q5
     have Q5 := hid q5
     have Q6 := hid q6
     clear q5 q6 hown' hgrow
     go_wp2_with fail
     go_roundw
     case measure => simp [intOf]; omega
     case rel => exact ⟨j + 1, gc', n + 1, cap', by omega, by go_num, rfl, Q5.out, Q6.out⟩
    ·have tB : (FloatKind.f64.format.order (fop64 .add (floatOfInt .f64 b0) (fop64 .quo (floatOfInt .f64 (z - a0)) sl)) bt == some .lt) = false := Bool.eq_false_iff.2 hB
     have R := hid (show cutsTo a0 b0 a1 b1 X Y (j + 1) = cutsTo a0 b0 a1 b1 X Y j by rw [NX.out, addCut, if_neg (fun h => hB h.2)])
     clear hA hB
     go_wp2_with fail
     go_roundw
     case measure => simp [intOf]; omega
     case rel => exact ⟨j + 1, gc, n, cap, by omega, by go_num, rfl, by rw [R.out]; exact Q3.out, Q4.out⟩
   ·have tA : (FloatKind.f64.format.order (fop64 .add (floatOfInt .f64 b0) (fop64 .quo (floatOfInt .f64 (z - a0)) sl)) tp == some .gt) = false := Bool.eq_false_iff.2 hA
    have R := hid (show cutsTo a0 b0 a1 b1 X Y (j + 1) = cutsTo a0 b0 a1 b1 X Y j by rw [NX.out, addCut, if_neg (fun h => hA h.1)])
    clear hA
    go_wp2_with fail
    go_roundw
    case measure => simp [intOf]; omega
    case rel => exact ⟨j + 1, gc, n, cap, by omega, by go_num, rfl, by rw [R.out]; exact Q3.out, Q4.out⟩
  ·have hj2' : ¬ (j : Int) < 2 := by omega
   obtain rfl : j = 2 := by omega
   have HS := hid q3
   clear hj2 hj q3 q4
   go_wp2_with fail
   exact ⟨rfl, HEX.out _ _ _ _ _ _ _ _ _ _ _ _ _ _ _ _ _ _ _ _ _ _ _ _ _ _ _ _ _ _ _ _ _ _ hn2 hn4 HS.out⟩
end Go.Proofs.Ytmgcbodlolnheaa
