/-
  One row of 'fixedLineTo': what the round of its loop leaves. MADE BY PROGRAM (gen_row.py).
-/
import Derived.Test.YtmgcbodlolnheaaZFixRow
import Derived.Test.YtmgcbodlolnheaaZNew
import Derived.Deep.DeepCutAuto
import Derived.Deep.LoopGhost
namespace Go.Proofs.Ytmgcbodlolnheaa
open Go.ChangeShapes Go.WideShapes Go.ChangeAt Go.RowKit
def firstLoop : Code → Option Code
  | .loop c => some c
  | .seq a b => match firstLoop a with
    | some c => some c
    | none => firstLoop b
  | .block _ c => firstLoop c
  | .scope c => firstLoop c
  | .cond _ a b => match firstLoop a with
    | some c => some c
    | none => firstLoop b
  | _ => none
noncomputable def body59 : Code := (Try.f59.body.bind firstLoop).getD .skip
set_option linter.unusedVariables false
theorem sq_bd (z : Int) (h : 0 ≤ z) (h' : z ≤ 512) : 0 ≤ z * z ∧ z * z ≤ 262144 :=
  ⟨Int.mul_nonneg h h, by have := Int.mul_le_mul h' h' h (by omega); omega⟩
theorem exists_frame (a : Act) (F : (Nat → Value) → Act) (h : a = F (fun i => a.tmps.getD i undef)) : ∃ f, a = F f := ⟨_, h⟩
set_option maxHeartbeats 4000000 in
set_option maxRecDepth 100000 in
theorem row_narrow (K : Act → World → Prop) (Q0 : Exit → Act → World → Prop) (b g n Y W dxdy : Nat) (dir ay ey x yM : Int) (ws : World) (c1 c2 c3 c4 c5 c6 c7 u16 u17 u18 u19 u20 u21 u22 u23 u24 u25 u26 u27 u28 u29 u30 u31 u32 u33 u34 u35 u36 u37 u38 u39 u40 u41 u42 u43 u44 u45 u46 u47 u48 c49 c50 c51 c52 c53 c54 c55 c56 c57 c58 c59 c60 c61 c62 c63 c64 c65 c66 c67 c68 c69 c70 c71 c72 c73 c74 c75 c76 c77 c78 c79 c80 c81 c82 c83 c84 c85 c86 c87 c88 c89 c90 c91 c92 c93 c94 c95 c96 c97 c98 c99 c100 c101 c102 c103 c104 c105 c106 c107 c108 c109 c110 c111 c112 c113 c114 c115 u116 u117 u118 u119 u120 u121 u122 u123 u124 u125 u126 u127 u128 u129 u130 u131 u132 u133 u134 u135 u136 u137 u138 u139 u140 u141 u142 u143 u144 u145 u146 u147 u148 u149 u150 u151 u152 u153 u154 u155 u156 u157 u158 u159 u160 u161 u162 u163 u164 u165 u166 u167 u168 u169 u170 u171 u172 u173 u174 u175 u176 u177 u178 u179 u180 u181 u182 u183 u184 u185 u186 u187 u188 u189 u190 u191 u192 u193 u194 u195 u196 u197 u198 u199 u200 u201 u202 u203 u204 u205 u206 u207 u208 u209 u210 u211 u212 u213 u214 u215 u216 u217 u218 u219 u220 u221 u222 u223 u224 u225 u226 u227 u228 u229 u230 u231 u232 u233 u234 u235 u236 u237 u238 u239 u240 u241 u242 u243 u244 u245 u246 u247 u248 u249 u250 u251 u252 u253 u254 u255 u256 u257 u258 u259 u260 u261 u262 u263 u264 u265 u266 u267 u268 u269 u270 u271 u272 u273 u274 u275 u276 u277 u278 u279 u280 u281 u282 u283 u284 u285 u286 u287 u288 u289 u290 u291 u292 u293 u294 u295 u296 u297 u298 u299 u300 u301 u302 u303 u304 u305 u306 u307 u308 u309 u310 u311 u312 u313 u314 u315 u316 u317 u318 u319 u320 u321 u322 u323 u324 u325 u326 u327 u328 u329 u330 u331 u332 u333 u334 u335 u336 u337 u338 u339 u340 u341 u342 u343 u344 u345 u346 u347 u348 u349 u350 u351 u352 u353 u354 u355 u356 u357 u358 u359 u360 u361 u362 u363 u364 u365 u366 u367 u368 u369 u370 u371 u372 u373 u374 u375 u376 u377 u378 u379 u380 u381 u382 u383 u384 u385 u386 u387 u388 u389 u390 u391 u392 u393 u394 u395 u396 u397 u398 u399 u400 u401 u402 : Value)
  (l : List Int) (rest : List Value) (hl : l.length = n)
  (c1' : ws.cell? ⟨b, 1, none⟩ = some (.slice (some ⟨g, 0, none⟩) n (n + rest.length))) (hyM : (Y : Int) < yM)
  (hbg : Blk ws g 100 (bufCells l rest))
  (hY : Y ≤ 2000) (hW : W ≤ 2000) (dy xn : Int)
  (hdy : imin (((Y : Int) + 1) * 512) ey - imax ((Y : Int) * 512) ay = dy)
  (hs : 0 ≤ dy) (hs2 : dy ≤ 512) (hd1 : -512 ≤ dy * dir) (hd2 : dy * dir ≤ 512)
  (q10 : Fok .mul (floatOfInt .f32 dy) dxdy)
  (q11 : Iok (fop .mul (floatOfInt .f32 dy) dxdy))
  (hxn : x + fint (fop .mul (floatOfInt .f32 dy) dxdy) = xn)
  (q12 : -200000000 ≤ xn)
  (q13 : xn ≤ 200000000) (q14 : -200000000 ≤ x) (q15 : x ≤ 200000000)
  (hm0 : 0 ≤ (Y : Int) * W) (hm1 : (Y : Int) * W + W ≤ n) (hn : n ≤ 100000) (hcap2 : n + rest.length ≤ 100000) (hW1 : 1 ≤ W)
  (lo hi : Int) (HLO : Hid (lo = imin x xn)) (HHI : Hid (hi = imax x xn)) (b1 : -200000000 ≤ lo) (b2 : hi ≤ 200000000) (b3 : lo ≤ hi)
  (hnar : (hi + 511) / 512 ≤ lo / 512 + 1) 
  (hK : ∀ a' w', (∃ f : Nat → Value, a' = ⟨#[.pointer (some ⟨b, 0, none⟩), c1, c2, c3, c4, c5, c6, c7, .int .i32 dir, .float .f32 dxdy, .int .i32 ay, .int .i32 ey, .int .i32 xn, .int .i32 (↑Y + 1), .int .i32 yM, .int .i32 ↑W, (f 16), (f 17), (f 18), (f 19), (f 20), (f 21), (f 22), (f 23), (f 24), (f 25), (f 26), (f 27), (f 28), (f 29), (f 30), (f 31), (f 32), (f 33), (f 34), (f 35), (f 36), (f 37), (f 38), (f 39), (f 40), (f 41), (f 42), (f 43), (f 44), (f 45), (f 46), (f 47), (f 48), c49, c50, c51, c52, c53, c54, c55, c56, c57, c58, c59, c60, c61, c62, c63, c64, c65, c66, c67, c68, c69, c70, c71, c72, c73, c74, c75, c76, c77, c78, c79, c80, c81, c82, c83, c84, c85, c86, c87, c88, c89, c90, c91, c92, c93, c94, c95, c96, c97, c98, c99, c100, c101, c102, c103, c104, c105, c106, c107, c108, c109, c110, c111, c112, c113, c114, c115, (f 116), (f 117), (f 118), (f 119), (f 120), (f 121), (f 122), (f 123), (f 124), (f 125), (f 126), (f 127), (f 128), (f 129), (f 130), (f 131), (f 132), (f 133), (f 134), (f 135), (f 136), (f 137), (f 138), (f 139), (f 140), (f 141), (f 142), (f 143), (f 144), (f 145), (f 146), (f 147), (f 148), (f 149), (f 150), (f 151), (f 152), (f 153), (f 154), (f 155), (f 156), (f 157), (f 158), (f 159), (f 160), (f 161), (f 162), (f 163), (f 164), (f 165), (f 166), (f 167), (f 168), (f 169), (f 170), (f 171), (f 172), (f 173), (f 174), (f 175), (f 176), (f 177), (f 178), (f 179), (f 180), (f 181), (f 182), (f 183), (f 184), (f 185), (f 186), (f 187), (f 188), (f 189), (f 190), (f 191), (f 192), (f 193), (f 194), (f 195), (f 196), (f 197), (f 198), (f 199), (f 200), (f 201), (f 202), (f 203), (f 204), (f 205), (f 206), (f 207), (f 208), (f 209), (f 210), (f 211), (f 212), (f 213), (f 214), (f 215), (f 216), (f 217), (f 218), (f 219), (f 220), (f 221), (f 222), (f 223), (f 224), (f 225), (f 226), (f 227), (f 228), (f 229), (f 230), (f 231), (f 232), (f 233), (f 234), (f 235), (f 236), (f 237), (f 238), (f 239), (f 240), (f 241), (f 242), (f 243), (f 244), (f 245), (f 246), (f 247), (f 248), (f 249), (f 250), (f 251), (f 252), (f 253), (f 254), (f 255), (f 256), (f 257), (f 258), (f 259), (f 260), (f 261), (f 262), (f 263), (f 264), (f 265), (f 266), (f 267), (f 268), (f 269), (f 270), (f 271), (f 272), (f 273), (f 274), (f 275), (f 276), (f 277), (f 278), (f 279), (f 280), (f 281), (f 282), (f 283), (f 284), (f 285), (f 286), (f 287), (f 288), (f 289), (f 290), (f 291), (f 292), (f 293), (f 294), (f 295), (f 296), (f 297), (f 298), (f 299), (f 300), (f 301), (f 302), (f 303), (f 304), (f 305), (f 306), (f 307), (f 308), (f 309), (f 310), (f 311), (f 312), (f 313), (f 314), (f 315), (f 316), (f 317), (f 318), (f 319), (f 320), (f 321), (f 322), (f 323), (f 324), (f 325), (f 326), (f 327), (f 328), (f 329), (f 330), (f 331), (f 332), (f 333), (f 334), (f 335), (f 336), (f 337), (f 338), (f 339), (f 340), (f 341), (f 342), (f 343), (f 344), (f 345), (f 346), (f 347), (f 348), (f 349), (f 350), (f 351), (f 352), (f 353), (f 354), (f 355), (f 356), (f 357), (f 358), (f 359), (f 360), (f 361), (f 362), (f 363), (f 364), (f 365), (f 366), (f 367), (f 368), (f 369), (f 370), (f 371), (f 372), (f 373), (f 374), (f 375), (f 376), (f 377), (f 378), (f 379), (f 380), (f 381), (f 382), (f 383), (f 384), (f 385), (f 386), (f 387), (f 388), (f 389), (f 390), (f 391), (f 392), (f 393), (f 394), (f 395), (f 396), (f 397), (f 398), (f 399), (f 400), (f 401), (f 402)], []⟩) → Blk w' g 100 (bufCells (addRow W (Y * W) l x xn (dy * dir)) rest) → Kept (· = g) ws w' → K a' w') :
  Code.wp Try.prog body59 (Exit.then K Q0) ⟨#[.pointer (some ⟨b, 0, none⟩), c1, c2, c3, c4, c5, c6, c7, .int .i32 dir, .float .f32 dxdy, .int .i32 ay, .int .i32 ey, .int .i32 x, .int .i32 ↑Y, .int .i32 yM, .int .i32 ↑W, u16, u17, u18, u19, u20, u21, u22, u23, u24, u25, u26, u27, u28, u29, u30, u31, u32, u33, u34, u35, u36, u37, u38, u39, u40, u41, u42, u43, u44, u45, u46, u47, u48, c49, c50, c51, c52, c53, c54, c55, c56, c57, c58, c59, c60, c61, c62, c63, c64, c65, c66, c67, c68, c69, c70, c71, c72, c73, c74, c75, c76, c77, c78, c79, c80, c81, c82, c83, c84, c85, c86, c87, c88, c89, c90, c91, c92, c93, c94, c95, c96, c97, c98, c99, c100, c101, c102, c103, c104, c105, c106, c107, c108, c109, c110, c111, c112, c113, c114, c115, u116, u117, u118, u119, u120, u121, u122, u123, u124, u125, u126, u127, u128, u129, u130, u131, u132, u133, u134, u135, u136, u137, u138, u139, u140, u141, u142, u143, u144, u145, u146, u147, u148, u149, u150, u151, u152, u153, u154, u155, u156, u157, u158, u159, u160, u161, u162, u163, u164, u165, u166, u167, u168, u169, u170, u171, u172, u173, u174, u175, u176, u177, u178, u179, u180, u181, u182, u183, u184, u185, u186, u187, u188, u189, u190, u191, u192, u193, u194, u195, u196, u197, u198, u199, u200, u201, u202, u203, u204, u205, u206, u207, u208, u209, u210, u211, u212, u213, u214, u215, u216, u217, u218, u219, u220, u221, u222, u223, u224, u225, u226, u227, u228, u229, u230, u231, u232, u233, u234, u235, u236, u237, u238, u239, u240, u241, u242, u243, u244, u245, u246, u247, u248, u249, u250, u251, u252, u253, u254, u255, u256, u257, u258, u259, u260, u261, u262, u263, u264, u265, u266, u267, u268, u269, u270, u271, u272, u273, u274, u275, u276, u277, u278, u279, u280, u281, u282, u283, u284, u285, u286, u287, u288, u289, u290, u291, u292, u293, u294, u295, u296, u297, u298, u299, u300, u301, u302, u303, u304, u305, u306, u307, u308, u309, u310, u311, u312, u313, u314, u315, u316, u317, u318, u319, u320, u321, u322, u323, u324, u325, u326, u327, u328, u329, u330, u331, u332, u333, u334, u335, u336, u337, u338, u339, u340, u341, u342, u343, u344, u345, u346, u347, u348, u349, u350, u351, u352, u353, u354, u355, u356, u357, u358, u359, u360, u361, u362, u363, u364, u365, u366, u367, u368, u369, u370, u371, u372, u373, u374, u375, u376, u377, u378, u379, u380, u381, u382, u383, u384, u385, u386, u387, u388, u389, u390, u391, u392, u393, u394, u395, u396, u397, u398, u399, u400, u401, u402], []⟩ ws := by
  have HL := hid hl
  have HB := hid hbg
  have HK := hid (Kept.refl (· = g) ws)
  clear hl hbg
  conv => arg 2; whnf
  go_upto_region 24 with (first | (go_at_call 70; refine (fixedMin_any _ _ _).mono ?_; rintro e w' ⟨rfl, rfl⟩) | (go_at_call 71; refine (fixedMax_any _ _ _).mono ?_; rintro e w' ⟨rfl, rfl⟩) | (go_at_call 68; refine (fixedFloor_any _ _).mono ?_; rintro e w' ⟨rfl, rfl⟩) | (go_at_call 69; refine (fixedCeil_any _ _ (by omega) (by omega)).mono ?_; rintro e w' ⟨rfl, rfl⟩) | (go_at_call 67; refine (clamp_any _ _ (by omega) (by omega) _).mono ?_; rintro e w' ⟨rfl, rfl⟩))
  go_upto_if 156 with fail
  go_cut [20, 21] from 157 to 158 (fun s20 s21 wx => s20 = .int .i32 lo ∧ s21 = .int .i32 hi ∧ ws = wx)
  case first =>
    have hlo := HLO.out
    have hhi := HHI.out
    go_wp2_with fail
    all_goals go_meet
    · exact ⟨by subst hlo; unfold imin; rw [if_neg (by omega)], by subst hhi; unfold imax; rw [if_pos (by omega)], rfl⟩
    · exact ⟨by subst hlo; unfold imin; split <;> congr 1; omega, by subst hhi; unfold imax; split <;> congr 1; omega, rfl⟩
  case rest =>
    obtain ⟨rfl, rfl, rfl⟩ := hcut
    go_upto_if 185 with (first | (go_at_call 70; refine (fixedMin_any _ _ _).mono ?_; rintro e w' ⟨rfl, rfl⟩) | (go_at_call 71; refine (fixedMax_any _ _ _).mono ?_; rintro e w' ⟨rfl, rfl⟩) | (go_at_call 68; refine (fixedFloor_any _ _).mono ?_; rintro e w' ⟨rfl, rfl⟩) | (go_at_call 69; refine (fixedCeil_any _ _ (by omega) (by omega)).mono ?_; rintro e w' ⟨rfl, rfl⟩) | (go_at_call 67; refine (clamp_any _ _ (by omega) (by omega) _).mono ?_; rintro e w' ⟨rfl, rfl⟩))
    go_cut [] from 186 to 196 (fun wx => Blk wx g 100 (bufCells (bumpAt l (Y * W + clampN (lo / 512) W) (wrap32 (dy * dir * (512 - ((x + xn) / 2 - lo / 512 * 512))))) rest) ∧ Kept (· = g) ws wx)
    case first =>
      by_cases ht : clampN (lo / 512) W < n - Y * W
      · have hk : (Y * W + clampN (lo / 512) W) < (l).length := by have := HL.out; skip; omega
        have hc := buf_cell HB.out hk
        have hf := HB.out.frozen (Y * W + clampN (lo / 512) W)
        go_wp2_with fail
        go_meet
        exact ⟨buf_bump HB.out hk _, HK.out.set_in (by rfl)⟩
      · have ht' : decide (clampN (lo / 512) W < n - Y * W) = false := by simpa using ht
        go_wp2_with fail
        go_meet
        exact ⟨by rw [bumpAt_out _ _ _ (by have := HL.out; skip; omega)]; exact HB.out, HK.out⟩
    case rest =>
      obtain ⟨hb1, hk1⟩ := hcut
      clear HK HB
      have HB1 := hid hb1
      have HK := hid hk1
      clear hb1 hk1
      go_upto_if 205 with (first | (go_at_call 70; refine (fixedMin_any _ _ _).mono ?_; rintro e w' ⟨rfl, rfl⟩) | (go_at_call 71; refine (fixedMax_any _ _ _).mono ?_; rintro e w' ⟨rfl, rfl⟩) | (go_at_call 68; refine (fixedFloor_any _ _).mono ?_; rintro e w' ⟨rfl, rfl⟩) | (go_at_call 69; refine (fixedCeil_any _ _ (by omega) (by omega)).mono ?_; rintro e w' ⟨rfl, rfl⟩) | (go_at_call 67; refine (clamp_any _ _ (by omega) (by omega) _).mono ?_; rintro e w' ⟨rfl, rfl⟩))
      go_cut [] from 206 to 215 (fun wx => Blk wx g 100 (bufCells (bumpAt (bumpAt l (Y * W + clampN (lo / 512) W) (wrap32 (dy * dir * (512 - ((x + xn) / 2 - lo / 512 * 512))))) (Y * W + clampN (lo / 512 + 1) W) (wrap32 (dy * dir * ((x + xn) / 2 - lo / 512 * 512)))) rest) ∧ Kept (· = g) ws wx)
      case first =>
        by_cases ht : clampN (lo / 512 + 1) W < n - Y * W
        · have hk : (Y * W + clampN (lo / 512 + 1) W) < ((bumpAt l (Y * W + clampN (lo / 512) W) (wrap32 (dy * dir * (512 - ((x + xn) / 2 - lo / 512 * 512)))))).length := by have := HL.out; simp only [length_bumpAt]; omega
          have hc := buf_cell HB1.out hk
          have hf := HB1.out.frozen (Y * W + clampN (lo / 512 + 1) W)
          go_wp2_with fail
          go_meet
          exact ⟨buf_bump HB1.out hk _, HK.out.set_in (by rfl)⟩
        · have ht' : decide (clampN (lo / 512 + 1) W < n - Y * W) = false := by simpa using ht
          go_wp2_with fail
          go_meet
          exact ⟨by rw [bumpAt_out _ _ _ (by have := HL.out; simp only [length_bumpAt]; omega)]; exact HB1.out, HK.out⟩
      case rest =>
        obtain ⟨hb1, hk1⟩ := hcut
        clear HK HB1
        have HB3 := hid hb1
        have HK := hid hk1
        clear hb1 hk1
        go_wp2_with fail
        refine hK _ _ (exists_frame _ _ rfl) ?_ HK.out
        have hb := HB3.out
        have hlo := HLO.out
        have hhi := HHI.out
        rw [addRow_narrow W (Y * W) l x xn (dy * dir) lo hi hlo hhi hnar]
        exact hb
set_option maxHeartbeats 4000000 in
set_option maxRecDepth 100000 in
theorem row_two (K : Act → World → Prop) (Q0 : Exit → Act → World → Prop) (b g n Y W dxdy : Nat) (dir ay ey x yM : Int) (ws : World) (c1 c2 c3 c4 c5 c6 c7 u16 u17 u18 u19 u20 u21 u22 u23 u24 u25 u26 u27 u28 u29 u30 u31 u32 u33 u34 u35 u36 u37 u38 u39 u40 u41 u42 u43 u44 u45 u46 u47 u48 c49 c50 c51 c52 c53 c54 c55 c56 c57 c58 c59 c60 c61 c62 c63 c64 c65 c66 c67 c68 c69 c70 c71 c72 c73 c74 c75 c76 c77 c78 c79 c80 c81 c82 c83 c84 c85 c86 c87 c88 c89 c90 c91 c92 c93 c94 c95 c96 c97 c98 c99 c100 c101 c102 c103 c104 c105 c106 c107 c108 c109 c110 c111 c112 c113 c114 c115 u116 u117 u118 u119 u120 u121 u122 u123 u124 u125 u126 u127 u128 u129 u130 u131 u132 u133 u134 u135 u136 u137 u138 u139 u140 u141 u142 u143 u144 u145 u146 u147 u148 u149 u150 u151 u152 u153 u154 u155 u156 u157 u158 u159 u160 u161 u162 u163 u164 u165 u166 u167 u168 u169 u170 u171 u172 u173 u174 u175 u176 u177 u178 u179 u180 u181 u182 u183 u184 u185 u186 u187 u188 u189 u190 u191 u192 u193 u194 u195 u196 u197 u198 u199 u200 u201 u202 u203 u204 u205 u206 u207 u208 u209 u210 u211 u212 u213 u214 u215 u216 u217 u218 u219 u220 u221 u222 u223 u224 u225 u226 u227 u228 u229 u230 u231 u232 u233 u234 u235 u236 u237 u238 u239 u240 u241 u242 u243 u244 u245 u246 u247 u248 u249 u250 u251 u252 u253 u254 u255 u256 u257 u258 u259 u260 u261 u262 u263 u264 u265 u266 u267 u268 u269 u270 u271 u272 u273 u274 u275 u276 u277 u278 u279 u280 u281 u282 u283 u284 u285 u286 u287 u288 u289 u290 u291 u292 u293 u294 u295 u296 u297 u298 u299 u300 u301 u302 u303 u304 u305 u306 u307 u308 u309 u310 u311 u312 u313 u314 u315 u316 u317 u318 u319 u320 u321 u322 u323 u324 u325 u326 u327 u328 u329 u330 u331 u332 u333 u334 u335 u336 u337 u338 u339 u340 u341 u342 u343 u344 u345 u346 u347 u348 u349 u350 u351 u352 u353 u354 u355 u356 u357 u358 u359 u360 u361 u362 u363 u364 u365 u366 u367 u368 u369 u370 u371 u372 u373 u374 u375 u376 u377 u378 u379 u380 u381 u382 u383 u384 u385 u386 u387 u388 u389 u390 u391 u392 u393 u394 u395 u396 u397 u398 u399 u400 u401 u402 : Value)
  (l : List Int) (rest : List Value) (hl : l.length = n)
  (c1' : ws.cell? ⟨b, 1, none⟩ = some (.slice (some ⟨g, 0, none⟩) n (n + rest.length))) (hyM : (Y : Int) < yM)
  (hbg : Blk ws g 100 (bufCells l rest))
  (hY : Y ≤ 2000) (hW : W ≤ 2000) (dy xn : Int)
  (hdy : imin (((Y : Int) + 1) * 512) ey - imax ((Y : Int) * 512) ay = dy)
  (hs : 0 ≤ dy) (hs2 : dy ≤ 512) (hd1 : -512 ≤ dy * dir) (hd2 : dy * dir ≤ 512)
  (q10 : Fok .mul (floatOfInt .f32 dy) dxdy)
  (q11 : Iok (fop .mul (floatOfInt .f32 dy) dxdy))
  (hxn : x + fint (fop .mul (floatOfInt .f32 dy) dxdy) = xn)
  (q12 : -200000000 ≤ xn)
  (q13 : xn ≤ 200000000) (q14 : -200000000 ≤ x) (q15 : x ≤ 200000000)
  (hm0 : 0 ≤ (Y : Int) * W) (hm1 : (Y : Int) * W + W ≤ n) (hn : n ≤ 100000) (hcap2 : n + rest.length ≤ 100000) (hW1 : 1 ≤ W)
  (lo hi : Int) (HLO : Hid (lo = imin x xn)) (HHI : Hid (hi = imax x xn)) (b1 : -200000000 ≤ lo) (b2 : hi ≤ 200000000) (b3 : lo < hi)
  (htwo : (hi + 511) / 512 ≤ lo / 512 + 2) (htwo' : lo / 512 + 2 ≤ (hi + 511) / 512) 
  (hK : ∀ a' w', (∃ f : Nat → Value, a' = ⟨#[.pointer (some ⟨b, 0, none⟩), c1, c2, c3, c4, c5, c6, c7, .int .i32 dir, .float .f32 dxdy, .int .i32 ay, .int .i32 ey, .int .i32 xn, .int .i32 (↑Y + 1), .int .i32 yM, .int .i32 ↑W, (f 16), (f 17), (f 18), (f 19), (f 20), (f 21), (f 22), (f 23), (f 24), (f 25), (f 26), (f 27), (f 28), (f 29), (f 30), (f 31), (f 32), (f 33), (f 34), (f 35), (f 36), (f 37), (f 38), (f 39), (f 40), (f 41), (f 42), (f 43), (f 44), (f 45), (f 46), (f 47), (f 48), c49, c50, c51, c52, c53, c54, c55, c56, c57, c58, c59, c60, c61, c62, c63, c64, c65, c66, c67, c68, c69, c70, c71, c72, c73, c74, c75, c76, c77, c78, c79, c80, c81, c82, c83, c84, c85, c86, c87, c88, c89, c90, c91, c92, c93, c94, c95, c96, c97, c98, c99, c100, c101, c102, c103, c104, c105, c106, c107, c108, c109, c110, c111, c112, c113, c114, c115, (f 116), (f 117), (f 118), (f 119), (f 120), (f 121), (f 122), (f 123), (f 124), (f 125), (f 126), (f 127), (f 128), (f 129), (f 130), (f 131), (f 132), (f 133), (f 134), (f 135), (f 136), (f 137), (f 138), (f 139), (f 140), (f 141), (f 142), (f 143), (f 144), (f 145), (f 146), (f 147), (f 148), (f 149), (f 150), (f 151), (f 152), (f 153), (f 154), (f 155), (f 156), (f 157), (f 158), (f 159), (f 160), (f 161), (f 162), (f 163), (f 164), (f 165), (f 166), (f 167), (f 168), (f 169), (f 170), (f 171), (f 172), (f 173), (f 174), (f 175), (f 176), (f 177), (f 178), (f 179), (f 180), (f 181), (f 182), (f 183), (f 184), (f 185), (f 186), (f 187), (f 188), (f 189), (f 190), (f 191), (f 192), (f 193), (f 194), (f 195), (f 196), (f 197), (f 198), (f 199), (f 200), (f 201), (f 202), (f 203), (f 204), (f 205), (f 206), (f 207), (f 208), (f 209), (f 210), (f 211), (f 212), (f 213), (f 214), (f 215), (f 216), (f 217), (f 218), (f 219), (f 220), (f 221), (f 222), (f 223), (f 224), (f 225), (f 226), (f 227), (f 228), (f 229), (f 230), (f 231), (f 232), (f 233), (f 234), (f 235), (f 236), (f 237), (f 238), (f 239), (f 240), (f 241), (f 242), (f 243), (f 244), (f 245), (f 246), (f 247), (f 248), (f 249), (f 250), (f 251), (f 252), (f 253), (f 254), (f 255), (f 256), (f 257), (f 258), (f 259), (f 260), (f 261), (f 262), (f 263), (f 264), (f 265), (f 266), (f 267), (f 268), (f 269), (f 270), (f 271), (f 272), (f 273), (f 274), (f 275), (f 276), (f 277), (f 278), (f 279), (f 280), (f 281), (f 282), (f 283), (f 284), (f 285), (f 286), (f 287), (f 288), (f 289), (f 290), (f 291), (f 292), (f 293), (f 294), (f 295), (f 296), (f 297), (f 298), (f 299), (f 300), (f 301), (f 302), (f 303), (f 304), (f 305), (f 306), (f 307), (f 308), (f 309), (f 310), (f 311), (f 312), (f 313), (f 314), (f 315), (f 316), (f 317), (f 318), (f 319), (f 320), (f 321), (f 322), (f 323), (f 324), (f 325), (f 326), (f 327), (f 328), (f 329), (f 330), (f 331), (f 332), (f 333), (f 334), (f 335), (f 336), (f 337), (f 338), (f 339), (f 340), (f 341), (f 342), (f 343), (f 344), (f 345), (f 346), (f 347), (f 348), (f 349), (f 350), (f 351), (f 352), (f 353), (f 354), (f 355), (f 356), (f 357), (f 358), (f 359), (f 360), (f 361), (f 362), (f 363), (f 364), (f 365), (f 366), (f 367), (f 368), (f 369), (f 370), (f 371), (f 372), (f 373), (f 374), (f 375), (f 376), (f 377), (f 378), (f 379), (f 380), (f 381), (f 382), (f 383), (f 384), (f 385), (f 386), (f 387), (f 388), (f 389), (f 390), (f 391), (f 392), (f 393), (f 394), (f 395), (f 396), (f 397), (f 398), (f 399), (f 400), (f 401), (f 402)], []⟩) → Blk w' g 100 (bufCells (addRow W (Y * W) l x xn (dy * dir)) rest) → Kept (· = g) ws w' → K a' w') :
  Code.wp Try.prog body59 (Exit.then K Q0) ⟨#[.pointer (some ⟨b, 0, none⟩), c1, c2, c3, c4, c5, c6, c7, .int .i32 dir, .float .f32 dxdy, .int .i32 ay, .int .i32 ey, .int .i32 x, .int .i32 ↑Y, .int .i32 yM, .int .i32 ↑W, u16, u17, u18, u19, u20, u21, u22, u23, u24, u25, u26, u27, u28, u29, u30, u31, u32, u33, u34, u35, u36, u37, u38, u39, u40, u41, u42, u43, u44, u45, u46, u47, u48, c49, c50, c51, c52, c53, c54, c55, c56, c57, c58, c59, c60, c61, c62, c63, c64, c65, c66, c67, c68, c69, c70, c71, c72, c73, c74, c75, c76, c77, c78, c79, c80, c81, c82, c83, c84, c85, c86, c87, c88, c89, c90, c91, c92, c93, c94, c95, c96, c97, c98, c99, c100, c101, c102, c103, c104, c105, c106, c107, c108, c109, c110, c111, c112, c113, c114, c115, u116, u117, u118, u119, u120, u121, u122, u123, u124, u125, u126, u127, u128, u129, u130, u131, u132, u133, u134, u135, u136, u137, u138, u139, u140, u141, u142, u143, u144, u145, u146, u147, u148, u149, u150, u151, u152, u153, u154, u155, u156, u157, u158, u159, u160, u161, u162, u163, u164, u165, u166, u167, u168, u169, u170, u171, u172, u173, u174, u175, u176, u177, u178, u179, u180, u181, u182, u183, u184, u185, u186, u187, u188, u189, u190, u191, u192, u193, u194, u195, u196, u197, u198, u199, u200, u201, u202, u203, u204, u205, u206, u207, u208, u209, u210, u211, u212, u213, u214, u215, u216, u217, u218, u219, u220, u221, u222, u223, u224, u225, u226, u227, u228, u229, u230, u231, u232, u233, u234, u235, u236, u237, u238, u239, u240, u241, u242, u243, u244, u245, u246, u247, u248, u249, u250, u251, u252, u253, u254, u255, u256, u257, u258, u259, u260, u261, u262, u263, u264, u265, u266, u267, u268, u269, u270, u271, u272, u273, u274, u275, u276, u277, u278, u279, u280, u281, u282, u283, u284, u285, u286, u287, u288, u289, u290, u291, u292, u293, u294, u295, u296, u297, u298, u299, u300, u301, u302, u303, u304, u305, u306, u307, u308, u309, u310, u311, u312, u313, u314, u315, u316, u317, u318, u319, u320, u321, u322, u323, u324, u325, u326, u327, u328, u329, u330, u331, u332, u333, u334, u335, u336, u337, u338, u339, u340, u341, u342, u343, u344, u345, u346, u347, u348, u349, u350, u351, u352, u353, u354, u355, u356, u357, u358, u359, u360, u361, u362, u363, u364, u365, u366, u367, u368, u369, u370, u371, u372, u373, u374, u375, u376, u377, u378, u379, u380, u381, u382, u383, u384, u385, u386, u387, u388, u389, u390, u391, u392, u393, u394, u395, u396, u397, u398, u399, u400, u401, u402], []⟩ ws := by
  have HL := hid hl
  have HB := hid hbg
  have HK := hid (Kept.refl (· = g) ws)
  clear hl hbg
  conv => arg 2; whnf
  go_upto_region 24 with (first | (go_at_call 70; refine (fixedMin_any _ _ _).mono ?_; rintro e w' ⟨rfl, rfl⟩) | (go_at_call 71; refine (fixedMax_any _ _ _).mono ?_; rintro e w' ⟨rfl, rfl⟩) | (go_at_call 68; refine (fixedFloor_any _ _).mono ?_; rintro e w' ⟨rfl, rfl⟩) | (go_at_call 69; refine (fixedCeil_any _ _ (by omega) (by omega)).mono ?_; rintro e w' ⟨rfl, rfl⟩) | (go_at_call 67; refine (clamp_any _ _ (by omega) (by omega) _).mono ?_; rintro e w' ⟨rfl, rfl⟩))
  go_upto_if 156 with fail
  go_cut [20, 21] from 157 to 158 (fun s20 s21 wx => s20 = .int .i32 lo ∧ s21 = .int .i32 hi ∧ ws = wx)
  case first =>
    have hlo := HLO.out
    have hhi := HHI.out
    go_wp2_with fail
    all_goals go_meet
    · exact ⟨by subst hlo; unfold imin; rw [if_neg (by omega)], by subst hhi; unfold imax; rw [if_pos (by omega)], rfl⟩
    · exact ⟨by subst hlo; unfold imin; split <;> congr 1; omega, by subst hhi; unfold imax; split <;> congr 1; omega, rfl⟩
  case rest =>
    obtain ⟨rfl, rfl, rfl⟩ := hcut
    have e0 := sq_bd (512 - (lo - lo / 512 * 512)) (by omega) (by omega)
    have e1 := sq_bd (hi - (hi + 511) / 512 * 512 + 512) (by omega) (by omega)
    obtain ⟨e0, e0'⟩ := e0
    obtain ⟨e1, e1'⟩ := e1
    go_upto_if 243 with (first | (go_at_call 70; refine (fixedMin_any _ _ _).mono ?_; rintro e w' ⟨rfl, rfl⟩) | (go_at_call 71; refine (fixedMax_any _ _ _).mono ?_; rintro e w' ⟨rfl, rfl⟩) | (go_at_call 68; refine (fixedFloor_any _ _).mono ?_; rintro e w' ⟨rfl, rfl⟩) | (go_at_call 69; refine (fixedCeil_any _ _ (by omega) (by omega)).mono ?_; rintro e w' ⟨rfl, rfl⟩) | (go_at_call 67; refine (clamp_any _ _ (by omega) (by omega) _).mono ?_; rintro e w' ⟨rfl, rfl⟩))
    go_cut [] from 244 to 258 (fun wx => Blk wx g 100 (bufCells (bumpAt l (Y * W + clampN (lo / 512) W) (wrap32 ((wrap32 ((512 - (lo - lo / 512 * 512)) * (512 - (lo - lo / 512 * 512)) * (dy * dir))).tdiv (2 * (hi - lo))))) rest) ∧ Kept (· = g) ws wx)
    case first =>
      by_cases ht : clampN (lo / 512) W < n - Y * W
      · have hk : (Y * W + clampN (lo / 512) W) < (l).length := by have := HL.out; skip; omega
        have hc := buf_cell HB.out hk
        have hf := HB.out.frozen (Y * W + clampN (lo / 512) W)
        go_wp2_with fail
        go_meet
        exact ⟨buf_bump HB.out hk _, HK.out.set_in (by rfl)⟩
      · have ht' : decide (clampN (lo / 512) W < n - Y * W) = false := by simpa using ht
        go_wp2_with fail
        go_meet
        exact ⟨by rw [bumpAt_out _ _ _ (by have := HL.out; skip; omega)]; exact HB.out, HK.out⟩
    case rest =>
      obtain ⟨hb1, hk1⟩ := hcut
      clear HK HB
      have HB1 := hid hb1
      have HK := hid hk1
      clear hb1 hk1
      have ht2 : ((hi + 511) / 512 == lo / 512 + 2) = true := beq_iff_eq.2 (by omega)
      go_upto_if 271 with (first | (go_at_call 70; refine (fixedMin_any _ _ _).mono ?_; rintro e w' ⟨rfl, rfl⟩) | (go_at_call 71; refine (fixedMax_any _ _ _).mono ?_; rintro e w' ⟨rfl, rfl⟩) | (go_at_call 68; refine (fixedFloor_any _ _).mono ?_; rintro e w' ⟨rfl, rfl⟩) | (go_at_call 69; refine (fixedCeil_any _ _ (by omega) (by omega)).mono ?_; rintro e w' ⟨rfl, rfl⟩) | (go_at_call 67; refine (clamp_any _ _ (by omega) (by omega) _).mono ?_; rintro e w' ⟨rfl, rfl⟩))
      go_cut [] from 272 to 291 (fun wx => Blk wx g 100 (bufCells (bumpAt (bumpAt l (Y * W + clampN (lo / 512) W) (wrap32 ((wrap32 ((512 - (lo - lo / 512 * 512)) * (512 - (lo - lo / 512 * 512)) * (dy * dir))).tdiv (2 * (hi - lo))))) (Y * W + clampN (lo / 512 + 1) W) (wrap32 ((wrap32 ((2 * (hi - lo) * 512 - (512 - (lo - lo / 512 * 512)) * (512 - (lo - lo / 512 * 512)) - (hi - (hi + 511) / 512 * 512 + 512) * (hi - (hi + 511) / 512 * 512 + 512)) * (dy * dir))).tdiv (2 * (hi - lo))))) rest) ∧ Kept (· = g) ws wx)
      case first =>
        by_cases ht : clampN (lo / 512 + 1) W < n - Y * W
        · have hk : (Y * W + clampN (lo / 512 + 1) W) < ((bumpAt l (Y * W + clampN (lo / 512) W) (wrap32 ((wrap32 ((512 - (lo - lo / 512 * 512)) * (512 - (lo - lo / 512 * 512)) * (dy * dir))).tdiv (2 * (hi - lo)))))).length := by have := HL.out; simp only [length_bumpAt]; omega
          have hc := buf_cell HB1.out hk
          have hf := HB1.out.frozen (Y * W + clampN (lo / 512 + 1) W)
          go_wp2_with fail
          go_meet
          exact ⟨buf_bump HB1.out hk _, HK.out.set_in (by rfl)⟩
        · have ht' : decide (clampN (lo / 512 + 1) W < n - Y * W) = false := by simpa using ht
          go_wp2_with fail
          go_meet
          exact ⟨by rw [bumpAt_out _ _ _ (by have := HL.out; simp only [length_bumpAt]; omega)]; exact HB1.out, HK.out⟩
      case rest =>
        obtain ⟨hb1, hk1⟩ := hcut
        clear HK HB1
        have HB2 := hid hb1
        have HK := hid hk1
        clear hb1 hk1
        go_upto_if 386 with (first | (go_at_call 70; refine (fixedMin_any _ _ _).mono ?_; rintro e w' ⟨rfl, rfl⟩) | (go_at_call 71; refine (fixedMax_any _ _ _).mono ?_; rintro e w' ⟨rfl, rfl⟩) | (go_at_call 68; refine (fixedFloor_any _ _).mono ?_; rintro e w' ⟨rfl, rfl⟩) | (go_at_call 69; refine (fixedCeil_any _ _ (by omega) (by omega)).mono ?_; rintro e w' ⟨rfl, rfl⟩) | (go_at_call 67; refine (clamp_any _ _ (by omega) (by omega) _).mono ?_; rintro e w' ⟨rfl, rfl⟩))
        go_cut [] from 387 to 401 (fun wx => Blk wx g 100 (bufCells (bumpAt (bumpAt (bumpAt l (Y * W + clampN (lo / 512) W) (wrap32 ((wrap32 ((512 - (lo - lo / 512 * 512)) * (512 - (lo - lo / 512 * 512)) * (dy * dir))).tdiv (2 * (hi - lo))))) (Y * W + clampN (lo / 512 + 1) W) (wrap32 ((wrap32 ((2 * (hi - lo) * 512 - (512 - (lo - lo / 512 * 512)) * (512 - (lo - lo / 512 * 512)) - (hi - (hi + 511) / 512 * 512 + 512) * (hi - (hi + 511) / 512 * 512 + 512)) * (dy * dir))).tdiv (2 * (hi - lo))))) (Y * W + clampN ((hi + 511) / 512) W) (wrap32 ((wrap32 ((hi - (hi + 511) / 512 * 512 + 512) * (hi - (hi + 511) / 512 * 512 + 512) * (dy * dir))).tdiv (2 * (hi - lo))))) rest) ∧ Kept (· = g) ws wx)
        case first =>
          by_cases ht : clampN ((hi + 511) / 512) W < n - Y * W
          · have hk : (Y * W + clampN ((hi + 511) / 512) W) < ((bumpAt (bumpAt l (Y * W + clampN (lo / 512) W) (wrap32 ((wrap32 ((512 - (lo - lo / 512 * 512)) * (512 - (lo - lo / 512 * 512)) * (dy * dir))).tdiv (2 * (hi - lo))))) (Y * W + clampN (lo / 512 + 1) W) (wrap32 ((wrap32 ((2 * (hi - lo) * 512 - (512 - (lo - lo / 512 * 512)) * (512 - (lo - lo / 512 * 512)) - (hi - (hi + 511) / 512 * 512 + 512) * (hi - (hi + 511) / 512 * 512 + 512)) * (dy * dir))).tdiv (2 * (hi - lo)))))).length := by have := HL.out; simp only [length_bumpAt]; omega
            have hc := buf_cell HB2.out hk
            have hf := HB2.out.frozen (Y * W + clampN ((hi + 511) / 512) W)
            go_wp2_with fail
            go_meet
            exact ⟨buf_bump HB2.out hk _, HK.out.set_in (by rfl)⟩
          · have ht' : decide (clampN ((hi + 511) / 512) W < n - Y * W) = false := by simpa using ht
            go_wp2_with fail
            go_meet
            exact ⟨by rw [bumpAt_out _ _ _ (by have := HL.out; simp only [length_bumpAt]; omega)]; exact HB2.out, HK.out⟩
        case rest =>
          obtain ⟨hb1, hk1⟩ := hcut
          clear HK HB2
          have HB3 := hid hb1
          have HK := hid hk1
          clear hb1 hk1
          go_wp2_with fail
          refine hK _ _ (exists_frame _ _ rfl) ?_ HK.out
          have hb := HB3.out
          have hlo := HLO.out
          have hhi := HHI.out
          rw [addRow_two W (Y * W) l x xn (dy * dir) lo hi hlo hhi (by omega)]
          exact hb
end Go.Proofs.Ytmgcbodlolnheaa
