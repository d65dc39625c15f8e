/- One row of 'floatingLineTo': what the round of its loop leaves. MADE BY PROGRAM (gen_frows.py). The loop of 'floatingLineTo'. MADE BY PROGRAM (gen_frows.py). One row of 'fixedLineTo': what the round of its loop leaves. MADE BY PROGRAM (gen_row.py). The loop of 'fixedLineTo', and the function. MADE BY PROGRAM (gen_rows.py). 'fixedLineTo': what it leaves in the buffer, as a plain function; its -/
import Derived.Test.YtmgcbodlolnheaaZ01
import Derived.Deep.DeepCutAuto
import Derived.Deep.LoopGhost
import Derived.Test.YtmgcbodlolnheaaZ02
import Derived.Test.YtmgcbodlolnheaaZ03
import Derived.Deep.RegionHeld3
namespace Go.Proofs.Ytmgcbodlolnheaa
open Go.ChangeShapes Go.WideShapes Go.ChangeAt Go.RowKit
set_option linter.unusedVariables false
set_option maxHeartbeats 4000000 in
set_option maxRecDepth 100000 in
theorem frow_neg (K : Act -> World -> Prop) (Q0 : Exit -> Act -> World -> Prop) (b W dxdy dir ay ey x : Nat) (y yM : Int) (ws : World) (c1 c3 c4 c5 c6 u14 u15 u16 u17 u18 u19 u20 u21 u22 u23 u24 u25 u26 u27 u28 u29 u30 u31 u32 u33 u34 u35 u36 u37 u38 u39 u40 u41 u42 c43 c44 c45 c46 c47 c48 c49 c50 c51 c52 c53 c54 c55 c56 c57 c58 c59 c60 c61 c62 c63 c64 c65 c66 c67 c68 c69 c70 c71 c72 c73 c74 c75 c76 c77 c78 c79 c80 c81 c82 c83 c84 c85 c86 c87 c88 c89 c90 c91 c92 c93 c94 c95 c96 c97 c98 c99 c100 c101 u102 u103 u104 u105 u106 u107 u108 u109 u110 u111 u112 u113 u114 u115 u116 u117 u118 u119 u120 u121 u122 u123 u124 u125 u126 u127 u128 u129 u130 u131 u132 u133 u134 u135 u136 u137 u138 u139 u140 u141 u142 u143 u144 u145 u146 u147 u148 u149 u150 u151 u152 u153 u154 u155 u156 u157 u158 u159 u160 u161 u162 u163 u164 u165 u166 u167 u168 u169 u170 u171 u172 u173 u174 u175 u176 u177 u178 u179 u180 u181 u182 u183 u184 u185 u186 u187 u188 u189 u190 u191 u192 u193 u194 u195 u196 u197 u198 u199 u200 u201 u202 u203 u204 u205 u206 u207 u208 u209 u210 u211 u212 u213 u214 u215 u216 u217 u218 u219 u220 u221 u222 u223 u224 u225 u226 u227 u228 u229 u230 u231 u232 u233 u234 u235 u236 u237 u238 u239 u240 u241 u242 u243 u244 u245 u246 u247 u248 u249 u250 u251 u252 u253 u254 u255 u256 u257 u258 u259 u260 u261 u262 u263 u264 u265 u266 u267 u268 u269 u270 u271 u272 u273 u274 u275 u276 u277 u278 u279 u280 u281 u282 u283 u284 u285 u286 u287 u288 u289 u290 u291 u292 u293 u294 u295 u296 u297 u298 u299 u300 u301 u302 u303 u304 u305 u306 u307 u308 u309 u310 u311 u312 u313 u314 u315 u316 u317 u318 u319 u320 u321 u322 u323 u324 u325 u326 u327 u328 u329 u330 u331 u332 u333 u334 u335 u336 u337 u338 u339 u340 u341 u342 u343 u344 u345 u346 u347 u348 u349 u350 u351 u352 u353 u354 u355 u356 u357 u358 u359 u360 u361 u362 u363 : Value)
 (hyM : y < yM) (hy : -1000000000 <= y) (hy0 : y < 0) (dy xn : Nat)
 (hdy : fop .sub (fmin (floatOfInt .f32 (y + 1)) ey) (fmax (floatOfInt .f32 y) ay) = dy)
 (q1 : Fok .sub (fmin (floatOfInt .f32 (y + 1)) ey) (fmax (floatOfInt .f32 y) ay)) (q2 : Fok .mul dy dxdy) (q3 : Fok .add x (fop .mul dy dxdy))
 (hxn : fop .add x (fop .mul dy dxdy) = xn)
 (hK : ∀ a' w', (∃ f : Nat -> Value, a' = ⟨#[.pointer (some ⟨b, 0, none⟩), c1, .float .f32 ey, c3, c4, c5, c6, .float .f32 ay, .float .f32 dir, .float .f32 dxdy, .float .f32 xn, .int .i32 (y + 1), .int .i32 yM, .int .i32 ↑W, (f 14), (f 15), (f 16), (f 17), (f 18), (f 19), (f 20), (f 21), (f 22), (f 23), (f 24), (f 25), (f 26), (f 27), (f 28), (f 29), (f 30), (f 31), (f 32), (f 33), (f 34), (f 35), (f 36), (f 37), (f 38), (f 39), (f 40), (f 41), (f 42), c43, c44, c45, c46, c47, c48, c49, c50, c51, c52, c53, c54, c55, c56, c57, c58, c59, c60, c61, c62, c63, c64, c65, c66, c67, c68, c69, c70, c71, c72, c73, c74, c75, c76, c77, c78, c79, c80, c81, c82, c83, c84, c85, c86, c87, c88, c89, c90, c91, c92, c93, c94, c95, c96, c97, c98, c99, c100, c101, (f 102), (f 103), (f 104), (f 105), (f 106), (f 107), (f 108), (f 109), (f 110), (f 111), (f 112), (f 113), (f 114), (f 115), (f 116), (f 117), (f 118), (f 119), (f 120), (f 121), (f 122), (f 123), (f 124), (f 125), (f 126), (f 127), (f 128), (f 129), (f 130), (f 131), (f 132), (f 133), (f 134), (f 135), (f 136), (f 137), (f 138), (f 139), (f 140), (f 141), (f 142), (f 143), (f 144), (f 145), (f 146), (f 147), (f 148), (f 149), (f 150), (f 151), (f 152), (f 153), (f 154), (f 155), (f 156), (f 157), (f 158), (f 159), (f 160), (f 161), (f 162), (f 163), (f 164), (f 165), (f 166), (f 167), (f 168), (f 169), (f 170), (f 171), (f 172), (f 173), (f 174), (f 175), (f 176), (f 177), (f 178), (f 179), (f 180), (f 181), (f 182), (f 183), (f 184), (f 185), (f 186), (f 187), (f 188), (f 189), (f 190), (f 191), (f 192), (f 193), (f 194), (f 195), (f 196), (f 197), (f 198), (f 199), (f 200), (f 201), (f 202), (f 203), (f 204), (f 205), (f 206), (f 207), (f 208), (f 209), (f 210), (f 211), (f 212), (f 213), (f 214), (f 215), (f 216), (f 217), (f 218), (f 219), (f 220), (f 221), (f 222), (f 223), (f 224), (f 225), (f 226), (f 227), (f 228), (f 229), (f 230), (f 231), (f 232), (f 233), (f 234), (f 235), (f 236), (f 237), (f 238), (f 239), (f 240), (f 241), (f 242), (f 243), (f 244), (f 245), (f 246), (f 247), (f 248), (f 249), (f 250), (f 251), (f 252), (f 253), (f 254), (f 255), (f 256), (f 257), (f 258), (f 259), (f 260), (f 261), (f 262), (f 263), (f 264), (f 265), (f 266), (f 267), (f 268), (f 269), (f 270), (f 271), (f 272), (f 273), (f 274), (f 275), (f 276), (f 277), (f 278), (f 279), (f 280), (f 281), (f 282), (f 283), (f 284), (f 285), (f 286), (f 287), (f 288), (f 289), (f 290), (f 291), (f 292), (f 293), (f 294), (f 295), (f 296), (f 297), (f 298), (f 299), (f 300), (f 301), (f 302), (f 303), (f 304), (f 305), (f 306), (f 307), (f 308), (f 309), (f 310), (f 311), (f 312), (f 313), (f 314), (f 315), (f 316), (f 317), (f 318), (f 319), (f 320), (f 321), (f 322), (f 323), (f 324), (f 325), (f 326), (f 327), (f 328), (f 329), (f 330), (f 331), (f 332), (f 333), (f 334), (f 335), (f 336), (f 337), (f 338), (f 339), (f 340), (f 341), (f 342), (f 343), (f 344), (f 345), (f 346), (f 347), (f 348), (f 349), (f 350), (f 351), (f 352), (f 353), (f 354), (f 355), (f 356), (f 357), (f 358), (f 359), (f 360), (f 361), (f 362), (f 363)], []⟩) -> ws = w' -> K a' w') :
 Code.wp Try.prog body58 (Exit.then K Q0) ⟨#[.pointer (some ⟨b, 0, none⟩), c1, .float .f32 ey, c3, c4, c5, c6, .float .f32 ay, .float .f32 dir, .float .f32 dxdy, .float .f32 x, .int .i32 y, .int .i32 yM, .int .i32 ↑W, u14, u15, u16, u17, u18, u19, u20, u21, u22, u23, u24, u25, u26, u27, u28, u29, u30, u31, u32, u33, u34, u35, u36, u37, u38, u39, u40, u41, u42, c43, c44, c45, c46, c47, c48, c49, c50, c51, c52, c53, c54, c55, c56, c57, c58, c59, c60, c61, c62, c63, c64, c65, c66, c67, c68, c69, c70, c71, c72, c73, c74, c75, c76, c77, c78, c79, c80, c81, c82, c83, c84, c85, c86, c87, c88, c89, c90, c91, c92, c93, c94, c95, c96, c97, c98, c99, c100, c101, u102, u103, u104, u105, u106, u107, u108, u109, u110, u111, u112, u113, u114, u115, u116, u117, u118, u119, u120, u121, u122, u123, u124, u125, u126, u127, u128, u129, u130, u131, u132, u133, u134, u135, u136, u137, u138, u139, u140, u141, u142, u143, u144, u145, u146, u147, u148, u149, u150, u151, u152, u153, u154, u155, u156, u157, u158, u159, u160, u161, u162, u163, u164, u165, u166, u167, u168, u169, u170, u171, u172, u173, u174, u175, u176, u177, u178, u179, u180, u181, u182, u183, u184, u185, u186, u187, u188, u189, u190, u191, u192, u193, u194, u195, u196, u197, u198, u199, u200, u201, u202, u203, u204, u205, u206, u207, u208, u209, u210, u211, u212, u213, u214, u215, u216, u217, u218, u219, u220, u221, u222, u223, u224, u225, u226, u227, u228, u229, u230, u231, u232, u233, u234, u235, u236, u237, u238, u239, u240, u241, u242, u243, u244, u245, u246, u247, u248, u249, u250, u251, u252, u253, u254, u255, u256, u257, u258, u259, u260, u261, u262, u263, u264, u265, u266, u267, u268, u269, u270, u271, u272, u273, u274, u275, u276, u277, u278, u279, u280, u281, u282, u283, u284, u285, u286, u287, u288, u289, u290, u291, u292, u293, u294, u295, u296, u297, u298, u299, u300, u301, u302, u303, u304, u305, u306, u307, u308, u309, u310, u311, u312, u313, u314, u315, u316, u317, u318, u319, u320, u321, u322, u323, u324, u325, u326, u327, u328, u329, u330, u331, u332, u333, u334, u335, u336, u337, u338, u339, u340, u341, u342, u343, u344, u345, u346, u347, u348, u349, u350, u351, u352, u353, u354, u355, u356, u357, u358, u359, u360, u361, u362, u363], []⟩ ws := by
 conv => arg 2; whnf
 go_wp2_with (first | (go_at_call 65; refine (fmin_any _ _ _).mono ?_; rintro e w' ⟨rfl, rfl⟩) | (go_at_call 66; refine (fmax_any _ _ _).mono ?_; rintro e w' ⟨rfl, rfl⟩) | (go_at_call 63; refine (ffl_any _ (by assumption) _).mono ?_; rintro e w' ⟨rfl, rfl⟩) | (go_at_call 64; refine (fce_any _ (by assumption) _).mono ?_; rintro e w' ⟨rfl, rfl⟩) | (go_at_call 67; refine (clamp_any _ _ (by omega) (by omega) _).mono ?_; rintro e w' ⟨rfl, rfl⟩))
 exact hK _ _ (exists_frame _ _ rfl) rfl
set_option maxHeartbeats 4000000 in
set_option maxRecDepth 100000 in
theorem frow_end (K : Act -> World -> Prop) (Q0 : Exit -> Act -> World -> Prop) (b W dxdy dir ay ey x : Nat) (y yM : Int) (ws : World) (c1 c3 c4 c5 c6 u14 u15 u16 u17 u18 u19 u20 u21 u22 u23 u24 u25 u26 u27 u28 u29 u30 u31 u32 u33 u34 u35 u36 u37 u38 u39 u40 u41 u42 c43 c44 c45 c46 c47 c48 c49 c50 c51 c52 c53 c54 c55 c56 c57 c58 c59 c60 c61 c62 c63 c64 c65 c66 c67 c68 c69 c70 c71 c72 c73 c74 c75 c76 c77 c78 c79 c80 c81 c82 c83 c84 c85 c86 c87 c88 c89 c90 c91 c92 c93 c94 c95 c96 c97 c98 c99 c100 c101 u102 u103 u104 u105 u106 u107 u108 u109 u110 u111 u112 u113 u114 u115 u116 u117 u118 u119 u120 u121 u122 u123 u124 u125 u126 u127 u128 u129 u130 u131 u132 u133 u134 u135 u136 u137 u138 u139 u140 u141 u142 u143 u144 u145 u146 u147 u148 u149 u150 u151 u152 u153 u154 u155 u156 u157 u158 u159 u160 u161 u162 u163 u164 u165 u166 u167 u168 u169 u170 u171 u172 u173 u174 u175 u176 u177 u178 u179 u180 u181 u182 u183 u184 u185 u186 u187 u188 u189 u190 u191 u192 u193 u194 u195 u196 u197 u198 u199 u200 u201 u202 u203 u204 u205 u206 u207 u208 u209 u210 u211 u212 u213 u214 u215 u216 u217 u218 u219 u220 u221 u222 u223 u224 u225 u226 u227 u228 u229 u230 u231 u232 u233 u234 u235 u236 u237 u238 u239 u240 u241 u242 u243 u244 u245 u246 u247 u248 u249 u250 u251 u252 u253 u254 u255 u256 u257 u258 u259 u260 u261 u262 u263 u264 u265 u266 u267 u268 u269 u270 u271 u272 u273 u274 u275 u276 u277 u278 u279 u280 u281 u282 u283 u284 u285 u286 u287 u288 u289 u290 u291 u292 u293 u294 u295 u296 u297 u298 u299 u300 u301 u302 u303 u304 u305 u306 u307 u308 u309 u310 u311 u312 u313 u314 u315 u316 u317 u318 u319 u320 u321 u322 u323 u324 u325 u326 u327 u328 u329 u330 u331 u332 u333 u334 u335 u336 u337 u338 u339 u340 u341 u342 u343 u344 u345 u346 u347 u348 u349 u350 u351 u352 u353 u354 u355 u356 u357 u358 u359 u360 u361 u362 u363 : Value)
 (hyM : yM <= y)
 (hE : ∀ a' w', a'.defers = [] -> ws = w' -> Q0 (.exit 0) a' w') :
 Code.wp Try.prog body58 (Exit.then K Q0) ⟨#[.pointer (some ⟨b, 0, none⟩), c1, .float .f32 ey, c3, c4, c5, c6, .float .f32 ay, .float .f32 dir, .float .f32 dxdy, .float .f32 x, .int .i32 y, .int .i32 yM, .int .i32 ↑W, u14, u15, u16, u17, u18, u19, u20, u21, u22, u23, u24, u25, u26, u27, u28, u29, u30, u31, u32, u33, u34, u35, u36, u37, u38, u39, u40, u41, u42, c43, c44, c45, c46, c47, c48, c49, c50, c51, c52, c53, c54, c55, c56, c57, c58, c59, c60, c61, c62, c63, c64, c65, c66, c67, c68, c69, c70, c71, c72, c73, c74, c75, c76, c77, c78, c79, c80, c81, c82, c83, c84, c85, c86, c87, c88, c89, c90, c91, c92, c93, c94, c95, c96, c97, c98, c99, c100, c101, u102, u103, u104, u105, u106, u107, u108, u109, u110, u111, u112, u113, u114, u115, u116, u117, u118, u119, u120, u121, u122, u123, u124, u125, u126, u127, u128, u129, u130, u131, u132, u133, u134, u135, u136, u137, u138, u139, u140, u141, u142, u143, u144, u145, u146, u147, u148, u149, u150, u151, u152, u153, u154, u155, u156, u157, u158, u159, u160, u161, u162, u163, u164, u165, u166, u167, u168, u169, u170, u171, u172, u173, u174, u175, u176, u177, u178, u179, u180, u181, u182, u183, u184, u185, u186, u187, u188, u189, u190, u191, u192, u193, u194, u195, u196, u197, u198, u199, u200, u201, u202, u203, u204, u205, u206, u207, u208, u209, u210, u211, u212, u213, u214, u215, u216, u217, u218, u219, u220, u221, u222, u223, u224, u225, u226, u227, u228, u229, u230, u231, u232, u233, u234, u235, u236, u237, u238, u239, u240, u241, u242, u243, u244, u245, u246, u247, u248, u249, u250, u251, u252, u253, u254, u255, u256, u257, u258, u259, u260, u261, u262, u263, u264, u265, u266, u267, u268, u269, u270, u271, u272, u273, u274, u275, u276, u277, u278, u279, u280, u281, u282, u283, u284, u285, u286, u287, u288, u289, u290, u291, u292, u293, u294, u295, u296, u297, u298, u299, u300, u301, u302, u303, u304, u305, u306, u307, u308, u309, u310, u311, u312, u313, u314, u315, u316, u317, u318, u319, u320, u321, u322, u323, u324, u325, u326, u327, u328, u329, u330, u331, u332, u333, u334, u335, u336, u337, u338, u339, u340, u341, u342, u343, u344, u345, u346, u347, u348, u349, u350, u351, u352, u353, u354, u355, u356, u357, u358, u359, u360, u361, u362, u363], []⟩ ws := by
 conv => arg 2; whnf
 go_wp2_with fail
 exact hE _ _ rfl rfl
def FR58 (b W dxdy dir ay ey : Nat) (yM : Int) (c1 c3 c4 c5 c6 c43 c44 c45 c46 c47 c48 c49 c50 c51 c52 c53 c54 c55 c56 c57 c58 c59 c60 c61 c62 c63 c64 c65 c66 c67 c68 c69 c70 c71 c72 c73 c74 c75 c76 c77 c78 c79 c80 c81 c82 c83 c84 c85 c86 c87 c88 c89 c90 c91 c92 c93 c94 c95 c96 c97 c98 c99 c100 c101 : Value) (x : Nat) (y : Int) (f : Nat -> Value) : Act := ⟨#[.pointer (some ⟨b, 0, none⟩), c1, .float .f32 ey, c3, c4, c5, c6, .float .f32 ay, .float .f32 dir, .float .f32 dxdy, .float .f32 x, .int .i32 y, .int .i32 yM, .int .i32 ↑W, (f 14), (f 15), (f 16), (f 17), (f 18), (f 19), (f 20), (f 21), (f 22), (f 23), (f 24), (f 25), (f 26), (f 27), (f 28), (f 29), (f 30), (f 31), (f 32), (f 33), (f 34), (f 35), (f 36), (f 37), (f 38), (f 39), (f 40), (f 41), (f 42), c43, c44, c45, c46, c47, c48, c49, c50, c51, c52, c53, c54, c55, c56, c57, c58, c59, c60, c61, c62, c63, c64, c65, c66, c67, c68, c69, c70, c71, c72, c73, c74, c75, c76, c77, c78, c79, c80, c81, c82, c83, c84, c85, c86, c87, c88, c89, c90, c91, c92, c93, c94, c95, c96, c97, c98, c99, c100, c101, (f 102), (f 103), (f 104), (f 105), (f 106), (f 107), (f 108), (f 109), (f 110), (f 111), (f 112), (f 113), (f 114), (f 115), (f 116), (f 117), (f 118), (f 119), (f 120), (f 121), (f 122), (f 123), (f 124), (f 125), (f 126), (f 127), (f 128), (f 129), (f 130), (f 131), (f 132), (f 133), (f 134), (f 135), (f 136), (f 137), (f 138), (f 139), (f 140), (f 141), (f 142), (f 143), (f 144), (f 145), (f 146), (f 147), (f 148), (f 149), (f 150), (f 151), (f 152), (f 153), (f 154), (f 155), (f 156), (f 157), (f 158), (f 159), (f 160), (f 161), (f 162), (f 163), (f 164), (f 165), (f 166), (f 167), (f 168), (f 169), (f 170), (f 171), (f 172), (f 173), (f 174), (f 175), (f 176), (f 177), (f 178), (f 179), (f 180), (f 181), (f 182), (f 183), (f 184), (f 185), (f 186), (f 187), (f 188), (f 189), (f 190), (f 191), (f 192), (f 193), (f 194), (f 195), (f 196), (f 197), (f 198), (f 199), (f 200), (f 201), (f 202), (f 203), (f 204), (f 205), (f 206), (f 207), (f 208), (f 209), (f 210), (f 211), (f 212), (f 213), (f 214), (f 215), (f 216), (f 217), (f 218), (f 219), (f 220), (f 221), (f 222), (f 223), (f 224), (f 225), (f 226), (f 227), (f 228), (f 229), (f 230), (f 231), (f 232), (f 233), (f 234), (f 235), (f 236), (f 237), (f 238), (f 239), (f 240), (f 241), (f 242), (f 243), (f 244), (f 245), (f 246), (f 247), (f 248), (f 249), (f 250), (f 251), (f 252), (f 253), (f 254), (f 255), (f 256), (f 257), (f 258), (f 259), (f 260), (f 261), (f 262), (f 263), (f 264), (f 265), (f 266), (f 267), (f 268), (f 269), (f 270), (f 271), (f 272), (f 273), (f 274), (f 275), (f 276), (f 277), (f 278), (f 279), (f 280), (f 281), (f 282), (f 283), (f 284), (f 285), (f 286), (f 287), (f 288), (f 289), (f 290), (f 291), (f 292), (f 293), (f 294), (f 295), (f 296), (f 297), (f 298), (f 299), (f 300), (f 301), (f 302), (f 303), (f 304), (f 305), (f 306), (f 307), (f 308), (f 309), (f 310), (f 311), (f 312), (f 313), (f 314), (f 315), (f 316), (f 317), (f 318), (f 319), (f 320), (f 321), (f 322), (f 323), (f 324), (f 325), (f 326), (f 327), (f 328), (f 329), (f 330), (f 331), (f 332), (f 333), (f 334), (f 335), (f 336), (f 337), (f 338), (f 339), (f 340), (f 341), (f 342), (f 343), (f 344), (f 345), (f 346), (f 347), (f 348), (f 349), (f 350), (f 351), (f 352), (f 353), (f 354), (f 355), (f 356), (f 357), (f 358), (f 359), (f 360), (f 361), (f 362), (f 363)], []⟩
set_option maxHeartbeats 4000000 in
set_option maxRecDepth 100000 in
theorem loop58 (Q0 : Exit -> Act -> World -> Prop) (L : GL) (b g n W H : Nat) (yM : Int) (c1 c3 c4 c5 c6 c43 c44 c45 c46 c47 c48 c49 c50 c51 c52 c53 c54 c55 c56 c57 c58 c59 c60 c61 c62 c63 c64 c65 c66 c67 c68 c69 c70 c71 c72 c73 c74 c75 c76 c77 c78 c79 c80 c81 c82 c83 c84 c85 c86 c87 c88 c89 c90 c91 c92 c93 c94 c95 c96 c97 c98 c99 c100 c101 : Value) (f0 : Nat -> Value) (zc : Array Value) (rest : List Value) (ws : World) (k : Nat) (x0 : Nat) (y0 : Int) (l0 : List Nat)
 (hW : W <= 2000) (hW1 : 1 <= W) (hH : H <= 2000) (hn : W * H = n) (hn1 : n <= 100000) (hcap : n + rest.length <= 100000) (hyH : yM <= H)
 (hk : (yM - y0).toNat = k) (hy0 : -1000000000 <= y0) (hok : L.ok k y0 x0) (hl : l0.length = n) (hadds : FaddsOk (L.adds W k y0 x0) l0)
 (hz : Blk ws b 87 zc) (hz1 : zc[0]? = some (.slice (some ⟨g, 0, none⟩) n (n + rest.length))) (hg : Blk ws g 72 (fbufCells l0 rest))
 (hexit : ∀ a' w', a'.defers = [] -> Blk w' g 72 (fbufCells (fadds (L.adds W k y0 x0) l0) rest) -> Kept (· = g) ws w' -> Q0 (.exit 0) a' w') :
 Code.wp Try.prog (Code.loop body58) Q0 (FR58 b W L.dxdy L.dir L.ay L.ey yM c1 c3 c4 c5 c6 c43 c44 c45 c46 c47 c48 c49 c50 c51 c52 c53 c54 c55 c56 c57 c58 c59 c60 c61 c62 c63 c64 c65 c66 c67 c68 c69 c70 c71 c72 c73 c74 c75 c76 c77 c78 c79 c80 c81 c82 c83 c84 c85 c86 c87 c88 c89 c90 c91 c92 c93 c94 c95 c96 c97 c98 c99 c100 c101 x0 y0 f0) ws := by
 have hbg : ¬ b = g := hz.ne_ hg (by decide)
 refine wp_loop_ghost (fun k1 a w => ∃ (y : Int) (x : Nat) (l : List Nat) (f : Nat -> Value), a = FR58 b W L.dxdy L.dir L.ay L.ey yM c1 c3 c4 c5 c6 c43 c44 c45 c46 c47 c48 c49 c50 c51 c52 c53 c54 c55 c56 c57 c58 c59 c60 c61 c62 c63 c64 c65 c66 c67 c68 c69 c70 c71 c72 c73 c74 c75 c76 c77 c78 c79 c80 c81 c82 c83 c84 c85 c86 c87 c88 c89 c90 c91 c92 c93 c94 c95 c96 c97 c98 c99 c100 c101 x y f /\ (yM - y).toNat = k1 /\ -1000000000 <= y /\ L.ok k1 y x /\ l.length = n /\
  fadds (L.adds W k1 y x) l = fadds (L.adds W k y0 x0) l0 /\ FaddsOk (L.adds W k1 y x) l /\ Blk w g 72 (fbufCells l rest) /\ Blk w b 87 zc /\ Kept (· = g) ws w) k ⟨y0, x0, l0, f0, rfl, hk, hy0, hok, hl, rfl, hadds, hg, hz, Kept.refl _ _⟩ ?_
 rintro k1 a w ⟨y, x, l, f, rfl, hk1, hy, hok1, hl1, hrun, hadd, hb1, hz2, hkept⟩
 unfold FR58
 by_cases hlt : y < yM
 ·obtain ⟨k', rfl⟩ : ∃ k', k1 = k' + 1 := ⟨k1 - 1, by omega⟩
  obtain ⟨o1, o2, o3, o5, o9⟩ := hok1
  have c1' := hz2.cell 0
  rw [hz1] at c1'
  rw [GL.adds] at hrun hadd
  by_cases hneg : y < 0
  ·rw [if_pos hneg, List.nil_append] at hrun hadd
   refine frow_neg _ _ b W L.dxdy L.dir L.ay L.ey x y yM w c1 c3 c4 c5 c6 (f 14) (f 15) (f 16) (f 17) (f 18) (f 19) (f 20) (f 21) (f 22) (f 23) (f 24) (f 25) (f 26) (f 27) (f 28) (f 29) (f 30) (f 31) (f 32) (f 33) (f 34) (f 35) (f 36) (f 37) (f 38) (f 39) (f 40) (f 41) (f 42) c43 c44 c45 c46 c47 c48 c49 c50 c51 c52 c53 c54 c55 c56 c57 c58 c59 c60 c61 c62 c63 c64 c65 c66 c67 c68 c69 c70 c71 c72 c73 c74 c75 c76 c77 c78 c79 c80 c81 c82 c83 c84 c85 c86 c87 c88 c89 c90 c91 c92 c93 c94 c95 c96 c97 c98 c99 c100 c101 (f 102) (f 103) (f 104) (f 105) (f 106) (f 107) (f 108) (f 109) (f 110) (f 111) (f 112) (f 113) (f 114) (f 115) (f 116) (f 117) (f 118) (f 119) (f 120) (f 121) (f 122) (f 123) (f 124) (f 125) (f 126) (f 127) (f 128) (f 129) (f 130) (f 131) (f 132) (f 133) (f 134) (f 135) (f 136) (f 137) (f 138) (f 139) (f 140) (f 141) (f 142) (f 143) (f 144) (f 145) (f 146) (f 147) (f 148) (f 149) (f 150) (f 151) (f 152) (f 153) (f 154) (f 155) (f 156) (f 157) (f 158) (f 159) (f 160) (f 161) (f 162) (f 163) (f 164) (f 165) (f 166) (f 167) (f 168) (f 169) (f 170) (f 171) (f 172) (f 173) (f 174) (f 175) (f 176) (f 177) (f 178) (f 179) (f 180) (f 181) (f 182) (f 183) (f 184) (f 185) (f 186) (f 187) (f 188) (f 189) (f 190) (f 191) (f 192) (f 193) (f 194) (f 195) (f 196) (f 197) (f 198) (f 199) (f 200) (f 201) (f 202) (f 203) (f 204) (f 205) (f 206) (f 207) (f 208) (f 209) (f 210) (f 211) (f 212) (f 213) (f 214) (f 215) (f 216) (f 217) (f 218) (f 219) (f 220) (f 221) (f 222) (f 223) (f 224) (f 225) (f 226) (f 227) (f 228) (f 229) (f 230) (f 231) (f 232) (f 233) (f 234) (f 235) (f 236) (f 237) (f 238) (f 239) (f 240) (f 241) (f 242) (f 243) (f 244) (f 245) (f 246) (f 247) (f 248) (f 249) (f 250) (f 251) (f 252) (f 253) (f 254) (f 255) (f 256) (f 257) (f 258) (f 259) (f 260) (f 261) (f 262) (f 263) (f 264) (f 265) (f 266) (f 267) (f 268) (f 269) (f 270) (f 271) (f 272) (f 273) (f 274) (f 275) (f 276) (f 277) (f 278) (f 279) (f 280) (f 281) (f 282) (f 283) (f 284) (f 285) (f 286) (f 287) (f 288) (f 289) (f 290) (f 291) (f 292) (f 293) (f 294) (f 295) (f 296) (f 297) (f 298) (f 299) (f 300) (f 301) (f 302) (f 303) (f 304) (f 305) (f 306) (f 307) (f 308) (f 309) (f 310) (f 311) (f 312) (f 313) (f 314) (f 315) (f 316) (f 317) (f 318) (f 319) (f 320) (f 321) (f 322) (f 323) (f 324) (f 325) (f 326) (f 327) (f 328) (f 329) (f 330) (f 331) (f 332) (f 333) (f 334) (f 335) (f 336) (f 337) (f 338) (f 339) (f 340) (f 341) (f 342) (f 343) (f 344) (f 345) (f 346) (f 347) (f 348) (f 349) (f 350) (f 351) (f 352) (f 353) (f 354) (f 355) (f 356) (f 357) (f 358) (f 359) (f 360) (f 361) (f 362) (f 363) hlt hy hneg (L.dy y) (L.nx y x) rfl o1 o2 o3 rfl ?_
   rintro a' w' ⟨f', rfl⟩ rfl
   exact ⟨k', by omega, y + 1, L.nx y x, l, f', rfl, by omega, by omega, o9, hl1, hrun, hadd, hb1, hz2, hkept⟩
  ·rw [if_neg hneg] at hrun hadd
   obtain ⟨Y, rfl⟩ : ∃ Y : Nat, y = (Y : Int) := ⟨y.toNat, by omega⟩
   obtain ⟨o4, p1, p2, b1, b1', b2, b2', pN, pT, pM⟩ := o5 (by omega)
   have hYH : Y + 1 <= H := by omega
   have hYW : Y * W + W <= n := by
    have := Nat.mul_le_mul_left W hYH
    rw [hn, Nat.mul_add, Nat.mul_one, Nat.mul_comm] at this
    exact this
   have hm1 : (Y : Int) * W + W <= n := by exact_mod_cast hYW
   have hm0 : 0 <= (Y : Int) * W := by have : (0 : Int) <= ((Y * W : Nat) : Int) := by omega
                                       simpa using this
   rw [Int.toNat_natCast, fadds_append] at hrun
   rw [Int.toNat_natCast, FaddsOk_append] at hadd
   obtain ⟨hadd1, hadd2⟩ := hadd
   have hK : ∀ a' w', (∃ f : Nat -> Value, a' = FR58 b W L.dxdy L.dir L.ay L.ey yM c1 c3 c4 c5 c6 c43 c44 c45 c46 c47 c48 c49 c50 c51 c52 c53 c54 c55 c56 c57 c58 c59 c60 c61 c62 c63 c64 c65 c66 c67 c68 c69 c70 c71 c72 c73 c74 c75 c76 c77 c78 c79 c80 c81 c82 c83 c84 c85 c86 c87 c88 c89 c90 c91 c92 c93 c94 c95 c96 c97 c98 c99 c100 c101 (L.nx Y x) (Y + 1) f) -> Blk w' g 72 (fbufCells (fadds (frow W (Y * W) x (L.nx Y x) (fop .mul (L.dy Y) L.dir)) l) rest) -> Kept (· = g) w w' ->
     ∃ n', n' < k' + 1 /\ ∃ (y : Int) (x : Nat) (l : List Nat) (f : Nat -> Value), a' = FR58 b W L.dxdy L.dir L.ay L.ey yM c1 c3 c4 c5 c6 c43 c44 c45 c46 c47 c48 c49 c50 c51 c52 c53 c54 c55 c56 c57 c58 c59 c60 c61 c62 c63 c64 c65 c66 c67 c68 c69 c70 c71 c72 c73 c74 c75 c76 c77 c78 c79 c80 c81 c82 c83 c84 c85 c86 c87 c88 c89 c90 c91 c92 c93 c94 c95 c96 c97 c98 c99 c100 c101 x y f /\ (yM - y).toNat = n' /\ -1000000000 <= y /\ L.ok n' y x /\ l.length = n /\
      fadds (L.adds W n' y x) l = fadds (L.adds W k y0 x0) l0 /\ FaddsOk (L.adds W n' y x) l /\ Blk w' g 72 (fbufCells l rest) /\ Blk w' b 87 zc /\ Kept (· = g) ws w' := by
    rintro a' w' ⟨f', rfl⟩ hb' hk'
    exact ⟨k', by omega, Y + 1, L.nx Y x, _, f', rfl, by omega, by omega, o9, by rw [length_fadds]; exact hl1, hrun, hadd2, hb', hk'.blk hz2 hbg, hkept.trans hk'⟩
   unfold FR58 at hK
   unfold frow at hK hadd1
   by_cases hnar : fce (fhi x (L.nx Y x)) <= ffl (flo x (L.nx Y x)) + 1
   ·rw [if_pos hnar] at hK hadd1
    obtain ⟨r0, r1, r2, r3, r4⟩ := pN hnar
    exact frow_narrow _ _ b g n Y W L.dxdy L.dir L.ay L.ey x yM w c1 c3 c4 c5 c6 (f 14) (f 15) (f 16) (f 17) (f 18) (f 19) (f 20) (f 21) (f 22) (f 23) (f 24) (f 25) (f 26) (f 27) (f 28) (f 29) (f 30) (f 31) (f 32) (f 33) (f 34) (f 35) (f 36) (f 37) (f 38) (f 39) (f 40) (f 41) (f 42) c43 c44 c45 c46 c47 c48 c49 c50 c51 c52 c53 c54 c55 c56 c57 c58 c59 c60 c61 c62 c63 c64 c65 c66 c67 c68 c69 c70 c71 c72 c73 c74 c75 c76 c77 c78 c79 c80 c81 c82 c83 c84 c85 c86 c87 c88 c89 c90 c91 c92 c93 c94 c95 c96 c97 c98 c99 c100 c101 (f 102) (f 103) (f 104) (f 105) (f 106) (f 107) (f 108) (f 109) (f 110) (f 111) (f 112) (f 113) (f 114) (f 115) (f 116) (f 117) (f 118) (f 119) (f 120) (f 121) (f 122) (f 123) (f 124) (f 125) (f 126) (f 127) (f 128) (f 129) (f 130) (f 131) (f 132) (f 133) (f 134) (f 135) (f 136) (f 137) (f 138) (f 139) (f 140) (f 141) (f 142) (f 143) (f 144) (f 145) (f 146) (f 147) (f 148) (f 149) (f 150) (f 151) (f 152) (f 153) (f 154) (f 155) (f 156) (f 157) (f 158) (f 159) (f 160) (f 161) (f 162) (f 163) (f 164) (f 165) (f 166) (f 167) (f 168) (f 169) (f 170) (f 171) (f 172) (f 173) (f 174) (f 175) (f 176) (f 177) (f 178) (f 179) (f 180) (f 181) (f 182) (f 183) (f 184) (f 185) (f 186) (f 187) (f 188) (f 189) (f 190) (f 191) (f 192) (f 193) (f 194) (f 195) (f 196) (f 197) (f 198) (f 199) (f 200) (f 201) (f 202) (f 203) (f 204) (f 205) (f 206) (f 207) (f 208) (f 209) (f 210) (f 211) (f 212) (f 213) (f 214) (f 215) (f 216) (f 217) (f 218) (f 219) (f 220) (f 221) (f 222) (f 223) (f 224) (f 225) (f 226) (f 227) (f 228) (f 229) (f 230) (f 231) (f 232) (f 233) (f 234) (f 235) (f 236) (f 237) (f 238) (f 239) (f 240) (f 241) (f 242) (f 243) (f 244) (f 245) (f 246) (f 247) (f 248) (f 249) (f 250) (f 251) (f 252) (f 253) (f 254) (f 255) (f 256) (f 257) (f 258) (f 259) (f 260) (f 261) (f 262) (f 263) (f 264) (f 265) (f 266) (f 267) (f 268) (f 269) (f 270) (f 271) (f 272) (f 273) (f 274) (f 275) (f 276) (f 277) (f 278) (f 279) (f 280) (f 281) (f 282) (f 283) (f 284) (f 285) (f 286) (f 287) (f 288) (f 289) (f 290) (f 291) (f 292) (f 293) (f 294) (f 295) (f 296) (f 297) (f 298) (f 299) (f 300) (f 301) (f 302) (f 303) (f 304) (f 305) (f 306) (f 307) (f 308) (f 309) (f 310) (f 311) (f 312) (f 313) (f 314) (f 315) (f 316) (f 317) (f 318) (f 319) (f 320) (f 321) (f 322) (f 323) (f 324) (f 325) (f 326) (f 327) (f 328) (f 329) (f 330) (f 331) (f 332) (f 333) (f 334) (f 335) (f 336) (f 337) (f 338) (f 339) (f 340) (f 341) (f 342) (f 343) (f 344) (f 345) (f 346) (f 347) (f 348) (f 349) (f 350) (f 351) (f 352) (f 353) (f 354) (f 355) (f 356) (f 357) (f 358) (f 359) (f 360) (f 361) (f 362) (f 363) l rest hl1 c1' hlt hb1 (by omega) hW (L.dy Y) (L.nx Y x) (fop .mul (L.dy Y) L.dir) rfl o1 o2 o3 o4 rfl rfl hm0 hm1 hn1 hcap hW1 (flo x (L.nx Y x)) (fhi x (L.nx Y x)) rfl rfl p1 p2 b1 b1' b2 b2' hnar r0 r1 r2 r3 r4 hadd1 hK
   ·rw [if_neg hnar] at hK hadd1
    by_cases htwo : fce (fhi x (L.nx Y x)) <= ffl (flo x (L.nx Y x)) + 2
    ·rw [if_pos htwo] at hK hadd1
     obtain ⟨r0, r1, r2, r3, r4, r5, r6, r7, r8, r9, r10, r11, r12, r13, r14, r15⟩ := pT (by omega)
     exact frow_two _ _ b g n Y W L.dxdy L.dir L.ay L.ey x yM w c1 c3 c4 c5 c6 (f 14) (f 15) (f 16) (f 17) (f 18) (f 19) (f 20) (f 21) (f 22) (f 23) (f 24) (f 25) (f 26) (f 27) (f 28) (f 29) (f 30) (f 31) (f 32) (f 33) (f 34) (f 35) (f 36) (f 37) (f 38) (f 39) (f 40) (f 41) (f 42) c43 c44 c45 c46 c47 c48 c49 c50 c51 c52 c53 c54 c55 c56 c57 c58 c59 c60 c61 c62 c63 c64 c65 c66 c67 c68 c69 c70 c71 c72 c73 c74 c75 c76 c77 c78 c79 c80 c81 c82 c83 c84 c85 c86 c87 c88 c89 c90 c91 c92 c93 c94 c95 c96 c97 c98 c99 c100 c101 (f 102) (f 103) (f 104) (f 105) (f 106) (f 107) (f 108) (f 109) (f 110) (f 111) (f 112) (f 113) (f 114) (f 115) (f 116) (f 117) (f 118) (f 119) (f 120) (f 121) (f 122) (f 123) (f 124) (f 125) (f 126) (f 127) (f 128) (f 129) (f 130) (f 131) (f 132) (f 133) (f 134) (f 135) (f 136) (f 137) (f 138) (f 139) (f 140) (f 141) (f 142) (f 143) (f 144) (f 145) (f 146) (f 147) (f 148) (f 149) (f 150) (f 151) (f 152) (f 153) (f 154) (f 155) (f 156) (f 157) (f 158) (f 159) (f 160) (f 161) (f 162) (f 163) (f 164) (f 165) (f 166) (f 167) (f 168) (f 169) (f 170) (f 171) (f 172) (f 173) (f 174) (f 175) (f 176) (f 177) (f 178) (f 179) (f 180) (f 181) (f 182) (f 183) (f 184) (f 185) (f 186) (f 187) (f 188) (f 189) (f 190) (f 191) (f 192) (f 193) (f 194) (f 195) (f 196) (f 197) (f 198) (f 199) (f 200) (f 201) (f 202) (f 203) (f 204) (f 205) (f 206) (f 207) (f 208) (f 209) (f 210) (f 211) (f 212) (f 213) (f 214) (f 215) (f 216) (f 217) (f 218) (f 219) (f 220) (f 221) (f 222) (f 223) (f 224) (f 225) (f 226) (f 227) (f 228) (f 229) (f 230) (f 231) (f 232) (f 233) (f 234) (f 235) (f 236) (f 237) (f 238) (f 239) (f 240) (f 241) (f 242) (f 243) (f 244) (f 245) (f 246) (f 247) (f 248) (f 249) (f 250) (f 251) (f 252) (f 253) (f 254) (f 255) (f 256) (f 257) (f 258) (f 259) (f 260) (f 261) (f 262) (f 263) (f 264) (f 265) (f 266) (f 267) (f 268) (f 269) (f 270) (f 271) (f 272) (f 273) (f 274) (f 275) (f 276) (f 277) (f 278) (f 279) (f 280) (f 281) (f 282) (f 283) (f 284) (f 285) (f 286) (f 287) (f 288) (f 289) (f 290) (f 291) (f 292) (f 293) (f 294) (f 295) (f 296) (f 297) (f 298) (f 299) (f 300) (f 301) (f 302) (f 303) (f 304) (f 305) (f 306) (f 307) (f 308) (f 309) (f 310) (f 311) (f 312) (f 313) (f 314) (f 315) (f 316) (f 317) (f 318) (f 319) (f 320) (f 321) (f 322) (f 323) (f 324) (f 325) (f 326) (f 327) (f 328) (f 329) (f 330) (f 331) (f 332) (f 333) (f 334) (f 335) (f 336) (f 337) (f 338) (f 339) (f 340) (f 341) (f 342) (f 343) (f 344) (f 345) (f 346) (f 347) (f 348) (f 349) (f 350) (f 351) (f 352) (f 353) (f 354) (f 355) (f 356) (f 357) (f 358) (f 359) (f 360) (f 361) (f 362) (f 363) l rest hl1 c1' hlt hb1 (by omega) hW (L.dy Y) (L.nx Y x) (fop .mul (L.dy Y) L.dir) rfl o1 o2 o3 o4 rfl rfl hm0 hm1 hn1 hcap hW1 (flo x (L.nx Y x)) (fhi x (L.nx Y x)) rfl rfl p1 p2 b1 b1' b2 b2' htwo (by omega) r0 r1 r2 r3 r4 r5 r6 r7 r8 r9 r10 r11 r12 r13 r14 r15 hadd1 hK
    ·rw [if_neg htwo] at hK hadd1
     obtain ⟨r0, r1, r2, r3, r4, r5, r6, r7, r8, r9, r10, r11, r12, r13, r14, r15, r16, r17, r18, r19, r20, r21, r22⟩ := pM (by omega)
     exact frow_many _ _ b g n Y W L.dxdy L.dir L.ay L.ey x yM w c1 c3 c4 c5 c6 (f 14) (f 15) (f 16) (f 17) (f 18) (f 19) (f 20) (f 21) (f 22) (f 23) (f 24) (f 25) (f 26) (f 27) (f 28) (f 29) (f 30) (f 31) (f 32) (f 33) (f 34) (f 35) (f 36) (f 37) (f 38) (f 39) (f 40) (f 41) (f 42) c43 c44 c45 c46 c47 c48 c49 c50 c51 c52 c53 c54 c55 c56 c57 c58 c59 c60 c61 c62 c63 c64 c65 c66 c67 c68 c69 c70 c71 c72 c73 c74 c75 c76 c77 c78 c79 c80 c81 c82 c83 c84 c85 c86 c87 c88 c89 c90 c91 c92 c93 c94 c95 c96 c97 c98 c99 c100 c101 (f 102) (f 103) (f 104) (f 105) (f 106) (f 107) (f 108) (f 109) (f 110) (f 111) (f 112) (f 113) (f 114) (f 115) (f 116) (f 117) (f 118) (f 119) (f 120) (f 121) (f 122) (f 123) (f 124) (f 125) (f 126) (f 127) (f 128) (f 129) (f 130) (f 131) (f 132) (f 133) (f 134) (f 135) (f 136) (f 137) (f 138) (f 139) (f 140) (f 141) (f 142) (f 143) (f 144) (f 145) (f 146) (f 147) (f 148) (f 149) (f 150) (f 151) (f 152) (f 153) (f 154) (f 155) (f 156) (f 157) (f 158) (f 159) (f 160) (f 161) (f 162) (f 163) (f 164) (f 165) (f 166) (f 167) (f 168) (f 169) (f 170) (f 171) (f 172) (f 173) (f 174) (f 175) (f 176) (f 177) (f 178) (f 179) (f 180) (f 181) (f 182) (f 183) (f 184) (f 185) (f 186) (f 187) (f 188) (f 189) (f 190) (f 191) (f 192) (f 193) (f 194) (f 195) (f 196) (f 197) (f 198) (f 199) (f 200) (f 201) (f 202) (f 203) (f 204) (f 205) (f 206) (f 207) (f 208) (f 209) (f 210) (f 211) (f 212) (f 213) (f 214) (f 215) (f 216) (f 217) (f 218) (f 219) (f 220) (f 221) (f 222) (f 223) (f 224) (f 225) (f 226) (f 227) (f 228) (f 229) (f 230) (f 231) (f 232) (f 233) (f 234) (f 235) (f 236) (f 237) (f 238) (f 239) (f 240) (f 241) (f 242) (f 243) (f 244) (f 245) (f 246) (f 247) (f 248) (f 249) (f 250) (f 251) (f 252) (f 253) (f 254) (f 255) (f 256) (f 257) (f 258) (f 259) (f 260) (f 261) (f 262) (f 263) (f 264) (f 265) (f 266) (f 267) (f 268) (f 269) (f 270) (f 271) (f 272) (f 273) (f 274) (f 275) (f 276) (f 277) (f 278) (f 279) (f 280) (f 281) (f 282) (f 283) (f 284) (f 285) (f 286) (f 287) (f 288) (f 289) (f 290) (f 291) (f 292) (f 293) (f 294) (f 295) (f 296) (f 297) (f 298) (f 299) (f 300) (f 301) (f 302) (f 303) (f 304) (f 305) (f 306) (f 307) (f 308) (f 309) (f 310) (f 311) (f 312) (f 313) (f 314) (f 315) (f 316) (f 317) (f 318) (f 319) (f 320) (f 321) (f 322) (f 323) (f 324) (f 325) (f 326) (f 327) (f 328) (f 329) (f 330) (f 331) (f 332) (f 333) (f 334) (f 335) (f 336) (f 337) (f 338) (f 339) (f 340) (f 341) (f 342) (f 343) (f 344) (f 345) (f 346) (f 347) (f 348) (f 349) (f 350) (f 351) (f 352) (f 353) (f 354) (f 355) (f 356) (f 357) (f 358) (f 359) (f 360) (f 361) (f 362) (f 363) l rest hl1 c1' hlt hb1 (by omega) hW (L.dy Y) (L.nx Y x) (fop .mul (L.dy Y) L.dir) rfl o1 o2 o3 o4 rfl rfl hm0 hm1 hn1 hcap hW1 (flo x (L.nx Y x)) (fhi x (L.nx Y x)) rfl rfl p1 p2 b1 b1' b2 b2' _ (by omega) (by omega) r0 r1 r2 r3 r4 r5 r6 r7 r8 r9 r10 r11 r12 r13 r14 r15 r16 r17 r18 r19 r20 r21 r22 hadd1 hK
 ·obtain rfl : k1 = 0 := by omega
  refine frow_end _ _ b W L.dxdy L.dir L.ay L.ey x y yM w c1 c3 c4 c5 c6 (f 14) (f 15) (f 16) (f 17) (f 18) (f 19) (f 20) (f 21) (f 22) (f 23) (f 24) (f 25) (f 26) (f 27) (f 28) (f 29) (f 30) (f 31) (f 32) (f 33) (f 34) (f 35) (f 36) (f 37) (f 38) (f 39) (f 40) (f 41) (f 42) c43 c44 c45 c46 c47 c48 c49 c50 c51 c52 c53 c54 c55 c56 c57 c58 c59 c60 c61 c62 c63 c64 c65 c66 c67 c68 c69 c70 c71 c72 c73 c74 c75 c76 c77 c78 c79 c80 c81 c82 c83 c84 c85 c86 c87 c88 c89 c90 c91 c92 c93 c94 c95 c96 c97 c98 c99 c100 c101 (f 102) (f 103) (f 104) (f 105) (f 106) (f 107) (f 108) (f 109) (f 110) (f 111) (f 112) (f 113) (f 114) (f 115) (f 116) (f 117) (f 118) (f 119) (f 120) (f 121) (f 122) (f 123) (f 124) (f 125) (f 126) (f 127) (f 128) (f 129) (f 130) (f 131) (f 132) (f 133) (f 134) (f 135) (f 136) (f 137) (f 138) (f 139) (f 140) (f 141) (f 142) (f 143) (f 144) (f 145) (f 146) (f 147) (f 148) (f 149) (f 150) (f 151) (f 152) (f 153) (f 154) (f 155) (f 156) (f 157) (f 158) (f 159) (f 160) (f 161) (f 162) (f 163) (f 164) (f 165) (f 166) (f 167) (f 168) (f 169) (f 170) (f 171) (f 172) (f 173) (f 174) (f 175) (f 176) (f 177) (f 178) (f 179) (f 180) (f 181) (f 182) (f 183) (f 184) (f 185) (f 186) (f 187) (f 188) (f 189) (f 190) (f 191) (f 192) (f 193) (f 194) (f 195) (f 196) (f 197) (f 198) (f 199) (f 200) (f 201) (f 202) (f 203) (f 204) (f 205) (f 206) (f 207) (f 208) (f 209) (f 210) (f 211) (f 212) (f 213) (f 214) (f 215) (f 216) (f 217) (f 218) (f 219) (f 220) (f 221) (f 222) (f 223) (f 224) (f 225) (f 226) (f 227) (f 228) (f 229) (f 230) (f 231) (f 232) (f 233) (f 234) (f 235) (f 236) (f 237) (f 238) (f 239) (f 240) (f 241) (f 242) (f 243) (f 244) (f 245) (f 246) (f 247) (f 248) (f 249) (f 250) (f 251) (f 252) (f 253) (f 254) (f 255) (f 256) (f 257) (f 258) (f 259) (f 260) (f 261) (f 262) (f 263) (f 264) (f 265) (f 266) (f 267) (f 268) (f 269) (f 270) (f 271) (f 272) (f 273) (f 274) (f 275) (f 276) (f 277) (f 278) (f 279) (f 280) (f 281) (f 282) (f 283) (f 284) (f 285) (f 286) (f 287) (f 288) (f 289) (f 290) (f 291) (f 292) (f 293) (f 294) (f 295) (f 296) (f 297) (f 298) (f 299) (f 300) (f 301) (f 302) (f 303) (f 304) (f 305) (f 306) (f 307) (f 308) (f 309) (f 310) (f 311) (f 312) (f 313) (f 314) (f 315) (f 316) (f 317) (f 318) (f 319) (f 320) (f 321) (f 322) (f 323) (f 324) (f 325) (f 326) (f 327) (f 328) (f 329) (f 330) (f 331) (f 332) (f 333) (f 334) (f 335) (f 336) (f 337) (f 338) (f 339) (f 340) (f 341) (f 342) (f 343) (f 344) (f 345) (f 346) (f 347) (f 348) (f 349) (f 350) (f 351) (f 352) (f 353) (f 354) (f 355) (f 356) (f 357) (f 358) (f 359) (f 360) (f 361) (f 362) (f 363) (by omega) ?_
  rintro a' w' hd rfl
  refine hexit a' w hd ?_ hkept
  rw [<- hrun]
  exact hb1
theorem rz_pen {w : World} {b : Nat} {f u : Value} {fl : Bool} {W H : Int} {fx fy px py : Nat} (qx qy : Nat) (h : Blk w b 87 (rz f u fl W H fx fy px py)) :
  Blk ((w.setCell ⟨b, 7, none⟩ (.float .f32 qx)).setCell ⟨b, 8, none⟩ (.float .f32 qy)) b 87 (rz f u fl W H fx fy qx qy) := by
 have := (h.set_ 7 (.float .f32 qx)).set_ 8 (.float .f32 qy)
 simpa [rz] using this
theorem fle_false {a b : Nat} (h : fle a b = false) : (FloatKind.f32.format.order a b == some Ordering.lt) = false /\ (FloatKind.f32.format.order a b == some Ordering.eq) = false := by
 unfold fle at h
 simpa using h
theorem fle_true {a b : Nat} (h : fle a b = true) : (FloatKind.f32.format.order a b == some Ordering.lt || FloatKind.f32.format.order a b == some Ordering.eq) = true := h
def gll (s : Bool) (ax ay bx qy : Nat) : GL := ⟨ay, qy, if s then 3212836864 else 1065353216, fop .quo (fop .sub bx ax) (fop .sub qy ay)⟩
def flEnd (qy : Nat) (H : Int) : Int := if H < fce qy then H else fce qy
theorem flEnd_over {qy : Nat} {H : Int} (h : H < fce qy) : flEnd qy H = H := if_pos h
theorem flEnd_in {qy : Nat} {H : Int} (h : ¬ H < fce qy) : flEnd qy H = fce qy := if_neg h
theorem flEnd_le (qy : Nat) (H : Int) : flEnd qy H <= H := by unfold flEnd; split <;> omega
def floUp (s : Bool) (W : Nat) (H : Int) (ax ay bx qy : Nat) : List (Nat × Nat) :=
 if fle (fop .sub qy ay) 897988541 = true then []
 else (gll s ax ay bx qy).adds W (flEnd qy H - ffl ay).toNat (ffl ay) ax
def FloUpOk (s : Bool) (H : Int) (ax ay bx qy : Nat) : Prop :=
 Fok .sub qy ay /\ (fle (fop .sub qy ay) 897988541 = false ->
  Fok .sub bx ax /\ Fok .quo (fop .sub bx ax) (fop .sub qy ay) /\ FlOk ay /\ CeOk qy /\ -1000000000 <= ffl ay /\
  (gll s ax ay bx qy).ok (flEnd qy H - ffl ay).toNat (ffl ay) ax)
set_option maxHeartbeats 2000000 in
set_option maxRecDepth 100000 in
theorem floating_down (b g n W H : Nat) (uv : Value) (fx fy px py qx qy : Nat) (l : List Nat) (rest : List Value) (w : World)
  (hs : (FloatKind.f32.format.order py qy == some Ordering.gt) = true)
  (hb : Blk w b 87 (rz (.slice (some ⟨g, 0, none⟩) n (n + rest.length)) uv true W H fx fy px py)) (hg : Blk w g 72 (fbufCells l rest)) (hl : l.length = n)
  (hW : W <= 2000) (hW1 : 1 <= W) (hH : H <= 2000) (hn : W * H = n) (hn1 : n <= 100000) (hcap : n + rest.length <= 100000)
  (hok : FloUpOk true H qx qy px py) (hadds : FaddsOk (floUp true W H qx qy px py) l) :
  Calls Try.prog 58 #[.pointer (some ⟨b, 0, none⟩), .float .f32 qx, .float .f32 qy] w fun e w' => e = .returned (.tuple #[]) /\
   Blk w' b 87 (rz (.slice (some ⟨g, 0, none⟩) n (n + rest.length)) uv true W H fx fy qx qy) /\ Blk w' g 72 (fbufCells (fadds (floUp true W H qx qy px py) l) rest) /\ Kept (fun k => k = b ∨ k = g) w w' := by
 by_cases hfl : fle (fop .sub py qy) 897988541 = true
 ·have hfl' := fle_true hfl
  obtain ⟨q1, _⟩ := hok
  have HFL := hid hfl
  clear hfl
  obtain ⟨c0, c1, c2, c3, c4, c5, c6, c7, c8, c9⟩ := rz_cells hb
  have f7 := hb.frozen 7
  have f8 := hb.frozen 8
  have HB := hid hb
  have HG := hid hg
  have HL := hid hl
  have HN := hid hn
  have HA := hid hadds
  clear c0 c1 c2 c5 c6 c9 hb hg hl hn hadds
  go_enter Try.func58, Try.ntmps58
  go_wp2_with fail
  go_region
  go_wp2_with fail
  have hup : floUp true W H qx qy px py = [] := by unfold floUp; rw [if_pos HFL.out]
  refine bodyPost_ret (results_none rfl _ _ _) rfl ⟨rfl, (rz_pen qx qy HB.out).drew, ?_, ?_⟩
  ·have hgb := HB.out.ne_ HG.out (by decide)
   rw [hup]
   exact (((HG.out.far (p := ⟨b, 7, none⟩) hgb.symm _).far (p := ⟨b, 8, none⟩) hgb.symm _).drew)
  ·exact (((Kept.refl (fun k => k = b ∨ k = g) w).set_in (.inl rfl)).set_in (.inl rfl)).drew
 have hfl := Bool.eq_false_iff.2 hfl
 by_cases hov : (H : Int) < fce py
 ·obtain ⟨q1, hok⟩ := hok
  obtain ⟨q2, q3, q4, q5, r1, hrun⟩ := hok hfl
  obtain ⟨hf1, hf2⟩ := fle_false hfl
  have HR := hid hrun
  have HF := hid hfl
  have HOV := hid hov
  clear hrun hfl
  obtain ⟨c0, c1, c2, c3, c4, c5, c6, c7, c8, c9⟩ := rz_cells hb
  have f7 := hb.frozen 7
  have f8 := hb.frozen 8
  have HB := hid hb
  have HG := hid hg
  have HL := hid hl
  have HN := hid hn
  have HA := hid hadds
  clear c0 c1 c2 c5 c6 c9 hb hg hl hn hadds
  go_enter Try.func58, Try.ntmps58
  go_wp2_with fail
  go_region
  go_wp2_with (first | (go_at_call 63; refine (ffl_any _ (by assumption) _).mono ?_; rintro e w' ⟨rfl, rfl⟩) | (go_at_call 64; refine (fce_any _ (by assumption) _).mono ?_; rintro e w' ⟨rfl, rfl⟩))
  have HE := flEnd_over (qy := py) (H := (H : Int)) (by have := HOV.out; omega)
  have hle := flEnd_le py (H : Int)
  rw [HE] at hle
  have hgb := HB.out.ne_ HG.out (by decide)
  have hz := (rz_pen qx qy HB.out).drew
  have hg2 := (((HG.out.far (p := ⟨b, 7, none⟩) hgb.symm (.float .f32 qx)).far (p := ⟨b, 8, none⟩) hgb.symm (.float .f32 qy)).drew)
  have hup : floUp true W H qx qy px py = (gll true qx qy px py).adds W (flEnd py H - ffl qy).toNat (ffl qy) qx := by
   unfold floUp; rw [if_neg (by rw [HF.out]; decide)]
  have hadds := HA.out
  rw [hup] at hadds
  refine loop58 _ (gll true qx qy px py) b g n W H ↑H _ _ _ _ _ _ _ _ _ _ _ _ _ _ _ _ _ _ _ _ _ _ _ _ _ _ _ _ _ _ _ _ _ _ _ _ _ _ _ _ _ _ _ _ _ _ _ _ _ _ _ _ _ _ _ _ _ _ _ _ _ _ _ _ (fun _ => undef) _ rest _ (flEnd py H - ffl qy).toNat qx (ffl qy) l
   hW hW1 hH HN.out hn1 hcap hle (by rw [HE]) r1 HR.out HL.out hadds hz rfl hg2 ?_
  intro a' w' hd hb' hk'
  simp only [Exit.inBlock, ↓reduceIte]
  go_big_unhide
  refine bodyPost_end (results_none rfl _ _ _) hd ⟨rfl, hk'.blk hz hgb, ?_, ?_⟩
  ·rw [hup]
   exact hb'
  ·exact ((((Kept.refl (fun k => k = b ∨ k = g) w).set_in (.inl rfl)).set_in (.inl rfl)).drew).trans (hk'.mono fun _ _ h => .inr h)
 ·obtain ⟨q1, hok⟩ := hok
  obtain ⟨q2, q3, q4, q5, r1, hrun⟩ := hok hfl
  obtain ⟨hf1, hf2⟩ := fle_false hfl
  have HR := hid hrun
  have HF := hid hfl
  have HOV := hid hov
  clear hrun hfl
  obtain ⟨c0, c1, c2, c3, c4, c5, c6, c7, c8, c9⟩ := rz_cells hb
  have f7 := hb.frozen 7
  have f8 := hb.frozen 8
  have HB := hid hb
  have HG := hid hg
  have HL := hid hl
  have HN := hid hn
  have HA := hid hadds
  clear c0 c1 c2 c5 c6 c9 hb hg hl hn hadds
  go_enter Try.func58, Try.ntmps58
  go_wp2_with fail
  go_region
  go_wp2_with (first | (go_at_call 63; refine (ffl_any _ (by assumption) _).mono ?_; rintro e w' ⟨rfl, rfl⟩) | (go_at_call 64; refine (fce_any _ (by assumption) _).mono ?_; rintro e w' ⟨rfl, rfl⟩))
  have HE := flEnd_in (qy := py) (H := (H : Int)) (by have := HOV.out; omega)
  have hle := flEnd_le py (H : Int)
  rw [HE] at hle
  have hgb := HB.out.ne_ HG.out (by decide)
  have hz := (rz_pen qx qy HB.out).drew
  have hg2 := (((HG.out.far (p := ⟨b, 7, none⟩) hgb.symm (.float .f32 qx)).far (p := ⟨b, 8, none⟩) hgb.symm (.float .f32 qy)).drew)
  have hup : floUp true W H qx qy px py = (gll true qx qy px py).adds W (flEnd py H - ffl qy).toNat (ffl qy) qx := by
   unfold floUp; rw [if_neg (by rw [HF.out]; decide)]
  have hadds := HA.out
  rw [hup] at hadds
  refine loop58 _ (gll true qx qy px py) b g n W H (fce py) _ _ _ _ _ _ _ _ _ _ _ _ _ _ _ _ _ _ _ _ _ _ _ _ _ _ _ _ _ _ _ _ _ _ _ _ _ _ _ _ _ _ _ _ _ _ _ _ _ _ _ _ _ _ _ _ _ _ _ _ _ _ _ _ (fun _ => undef) _ rest _ (flEnd py H - ffl qy).toNat qx (ffl qy) l
   hW hW1 hH HN.out hn1 hcap hle (by rw [HE]) r1 HR.out HL.out hadds hz rfl hg2 ?_
  intro a' w' hd hb' hk'
  simp only [Exit.inBlock, ↓reduceIte]
  go_big_unhide
  refine bodyPost_end (results_none rfl _ _ _) hd ⟨rfl, hk'.blk hz hgb, ?_, ?_⟩
  ·rw [hup]
   exact hb'
  ·exact ((((Kept.refl (fun k => k = b ∨ k = g) w).set_in (.inl rfl)).set_in (.inl rfl)).drew).trans (hk'.mono fun _ _ h => .inr h)
set_option maxHeartbeats 2000000 in
set_option maxRecDepth 100000 in
theorem floating_up (b g n W H : Nat) (uv : Value) (fx fy px py qx qy : Nat) (l : List Nat) (rest : List Value) (w : World)
  (hs : (FloatKind.f32.format.order py qy == some Ordering.gt) = false)
  (hb : Blk w b 87 (rz (.slice (some ⟨g, 0, none⟩) n (n + rest.length)) uv true W H fx fy px py)) (hg : Blk w g 72 (fbufCells l rest)) (hl : l.length = n)
  (hW : W <= 2000) (hW1 : 1 <= W) (hH : H <= 2000) (hn : W * H = n) (hn1 : n <= 100000) (hcap : n + rest.length <= 100000)
  (hok : FloUpOk false H px py qx qy) (hadds : FaddsOk (floUp false W H px py qx qy) l) :
  Calls Try.prog 58 #[.pointer (some ⟨b, 0, none⟩), .float .f32 qx, .float .f32 qy] w fun e w' => e = .returned (.tuple #[]) /\
   Blk w' b 87 (rz (.slice (some ⟨g, 0, none⟩) n (n + rest.length)) uv true W H fx fy qx qy) /\ Blk w' g 72 (fbufCells (fadds (floUp false W H px py qx qy) l) rest) /\ Kept (fun k => k = b ∨ k = g) w w' := by
 by_cases hfl : fle (fop .sub qy py) 897988541 = true
 ·have hfl' := fle_true hfl
  obtain ⟨q1, _⟩ := hok
  have HFL := hid hfl
  clear hfl
  obtain ⟨c0, c1, c2, c3, c4, c5, c6, c7, c8, c9⟩ := rz_cells hb
  have f7 := hb.frozen 7
  have f8 := hb.frozen 8
  have HB := hid hb
  have HG := hid hg
  have HL := hid hl
  have HN := hid hn
  have HA := hid hadds
  clear c0 c1 c2 c5 c6 c9 hb hg hl hn hadds
  go_enter Try.func58, Try.ntmps58
  go_wp2_with fail
  go_region
  go_wp2_with fail
  have hup : floUp false W H px py qx qy = [] := by unfold floUp; rw [if_pos HFL.out]
  refine bodyPost_ret (results_none rfl _ _ _) rfl ⟨rfl, (rz_pen qx qy HB.out).drew, ?_, ?_⟩
  ·have hgb := HB.out.ne_ HG.out (by decide)
   rw [hup]
   exact (((HG.out.far (p := ⟨b, 7, none⟩) hgb.symm _).far (p := ⟨b, 8, none⟩) hgb.symm _).drew)
  ·exact (((Kept.refl (fun k => k = b ∨ k = g) w).set_in (.inl rfl)).set_in (.inl rfl)).drew
 have hfl := Bool.eq_false_iff.2 hfl
 by_cases hov : (H : Int) < fce qy
 ·obtain ⟨q1, hok⟩ := hok
  obtain ⟨q2, q3, q4, q5, r1, hrun⟩ := hok hfl
  obtain ⟨hf1, hf2⟩ := fle_false hfl
  have HR := hid hrun
  have HF := hid hfl
  have HOV := hid hov
  clear hrun hfl
  obtain ⟨c0, c1, c2, c3, c4, c5, c6, c7, c8, c9⟩ := rz_cells hb
  have f7 := hb.frozen 7
  have f8 := hb.frozen 8
  have HB := hid hb
  have HG := hid hg
  have HL := hid hl
  have HN := hid hn
  have HA := hid hadds
  clear c0 c1 c2 c5 c6 c9 hb hg hl hn hadds
  go_enter Try.func58, Try.ntmps58
  go_wp2_with fail
  go_region
  go_wp2_with (first | (go_at_call 63; refine (ffl_any _ (by assumption) _).mono ?_; rintro e w' ⟨rfl, rfl⟩) | (go_at_call 64; refine (fce_any _ (by assumption) _).mono ?_; rintro e w' ⟨rfl, rfl⟩))
  have HE := flEnd_over (qy := qy) (H := (H : Int)) (by have := HOV.out; omega)
  have hle := flEnd_le qy (H : Int)
  rw [HE] at hle
  have hgb := HB.out.ne_ HG.out (by decide)
  have hz := (rz_pen qx qy HB.out).drew
  have hg2 := (((HG.out.far (p := ⟨b, 7, none⟩) hgb.symm (.float .f32 qx)).far (p := ⟨b, 8, none⟩) hgb.symm (.float .f32 qy)).drew)
  have hup : floUp false W H px py qx qy = (gll false px py qx qy).adds W (flEnd qy H - ffl py).toNat (ffl py) px := by
   unfold floUp; rw [if_neg (by rw [HF.out]; decide)]
  have hadds := HA.out
  rw [hup] at hadds
  refine loop58 _ (gll false px py qx qy) b g n W H ↑H _ _ _ _ _ _ _ _ _ _ _ _ _ _ _ _ _ _ _ _ _ _ _ _ _ _ _ _ _ _ _ _ _ _ _ _ _ _ _ _ _ _ _ _ _ _ _ _ _ _ _ _ _ _ _ _ _ _ _ _ _ _ _ _ (fun _ => undef) _ rest _ (flEnd qy H - ffl py).toNat px (ffl py) l
   hW hW1 hH HN.out hn1 hcap hle (by rw [HE]) r1 HR.out HL.out hadds hz rfl hg2 ?_
  intro a' w' hd hb' hk'
  simp only [Exit.inBlock, ↓reduceIte]
  go_big_unhide
  refine bodyPost_end (results_none rfl _ _ _) hd ⟨rfl, hk'.blk hz hgb, ?_, ?_⟩
  ·rw [hup]
   exact hb'
  ·exact ((((Kept.refl (fun k => k = b ∨ k = g) w).set_in (.inl rfl)).set_in (.inl rfl)).drew).trans (hk'.mono fun _ _ h => .inr h)
 ·obtain ⟨q1, hok⟩ := hok
  obtain ⟨q2, q3, q4, q5, r1, hrun⟩ := hok hfl
  obtain ⟨hf1, hf2⟩ := fle_false hfl
  have HR := hid hrun
  have HF := hid hfl
  have HOV := hid hov
  clear hrun hfl
  obtain ⟨c0, c1, c2, c3, c4, c5, c6, c7, c8, c9⟩ := rz_cells hb
  have f7 := hb.frozen 7
  have f8 := hb.frozen 8
  have HB := hid hb
  have HG := hid hg
  have HL := hid hl
  have HN := hid hn
  have HA := hid hadds
  clear c0 c1 c2 c5 c6 c9 hb hg hl hn hadds
  go_enter Try.func58, Try.ntmps58
  go_wp2_with fail
  go_region
  go_wp2_with (first | (go_at_call 63; refine (ffl_any _ (by assumption) _).mono ?_; rintro e w' ⟨rfl, rfl⟩) | (go_at_call 64; refine (fce_any _ (by assumption) _).mono ?_; rintro e w' ⟨rfl, rfl⟩))
  have HE := flEnd_in (qy := qy) (H := (H : Int)) (by have := HOV.out; omega)
  have hle := flEnd_le qy (H : Int)
  rw [HE] at hle
  have hgb := HB.out.ne_ HG.out (by decide)
  have hz := (rz_pen qx qy HB.out).drew
  have hg2 := (((HG.out.far (p := ⟨b, 7, none⟩) hgb.symm (.float .f32 qx)).far (p := ⟨b, 8, none⟩) hgb.symm (.float .f32 qy)).drew)
  have hup : floUp false W H px py qx qy = (gll false px py qx qy).adds W (flEnd qy H - ffl py).toNat (ffl py) px := by
   unfold floUp; rw [if_neg (by rw [HF.out]; decide)]
  have hadds := HA.out
  rw [hup] at hadds
  refine loop58 _ (gll false px py qx qy) b g n W H (fce qy) _ _ _ _ _ _ _ _ _ _ _ _ _ _ _ _ _ _ _ _ _ _ _ _ _ _ _ _ _ _ _ _ _ _ _ _ _ _ _ _ _ _ _ _ _ _ _ _ _ _ _ _ _ _ _ _ _ _ _ _ _ _ _ _ (fun _ => undef) _ rest _ (flEnd qy H - ffl py).toNat px (ffl py) l
   hW hW1 hH HN.out hn1 hcap hle (by rw [HE]) r1 HR.out HL.out hadds hz rfl hg2 ?_
  intro a' w' hd hb' hk'
  simp only [Exit.inBlock, ↓reduceIte]
  go_big_unhide
  refine bodyPost_end (results_none rfl _ _ _) hd ⟨rfl, hk'.blk hz hgb, ?_, ?_⟩
  ·rw [hup]
   exact hb'
  ·exact ((((Kept.refl (fun k => k = b ∨ k = g) w).set_in (.inl rfl)).set_in (.inl rfl)).drew).trans (hk'.mono fun _ _ h => .inr h)
def floLine (W : Nat) (H : Int) (px py qx qy : Nat) : List (Nat × Nat) :=
 if fgt py qy = true then floUp true W H qx qy px py else floUp false W H px py qx qy
def FloOk (H : Int) (px py qx qy : Nat) : Prop := if fgt py qy = true then FloUpOk true H qx qy px py else FloUpOk false H px py qx qy
theorem floating_any (b g n W H : Nat) (uv : Value) (fx fy px py qx qy : Nat) (l : List Nat) (rest : List Value) (w : World)
  (hb : Blk w b 87 (rz (.slice (some ⟨g, 0, none⟩) n (n + rest.length)) uv true W H fx fy px py)) (hg : Blk w g 72 (fbufCells l rest)) (hl : l.length = n)
  (hW : W <= 2000) (hW1 : 1 <= W) (hH : H <= 2000) (hn : W * H = n) (hn1 : n <= 100000) (hcap : n + rest.length <= 100000)
  (hok : FloOk H px py qx qy) (hadds : FaddsOk (floLine W H px py qx qy) l) :
  Calls Try.prog 58 #[.pointer (some ⟨b, 0, none⟩), .float .f32 qx, .float .f32 qy] w fun e w' => e = .returned (.tuple #[]) /\
   Blk w' b 87 (rz (.slice (some ⟨g, 0, none⟩) n (n + rest.length)) uv true W H fx fy qx qy) /\ Blk w' g 72 (fbufCells (fadds (floLine W H px py qx qy) l) rest) /\ Kept (fun k => k = b ∨ k = g) w w' := by
 unfold floLine at hadds ⊢
 unfold FloOk at hok
 by_cases h : fgt py qy = true
 ·rw [if_pos h] at hok hadds ⊢
  exact floating_down b g n W H uv fx fy px py qx qy l rest w h hb hg hl hW hW1 hH hn hn1 hcap hok hadds
 ·rw [if_neg h] at hok hadds ⊢
  exact floating_up b g n W H uv fx fy px py qx qy l rest w (Bool.eq_false_iff.2 h) hb hg hl hW hW1 hH hn hn1 hcap hok hadds
theorem Kept.of_drew {S : Nat -> Prop} {w w' : World} (h : Kept S w.drew w') : Kept S w w' := ⟨h.os, h.tape, h.output, h.size, h.block⟩
inductive Buf where
 | fix (l : List Int)
 | flo (l : List Nat)
def Buf.len : Buf -> Nat
 | .fix l => l.length
 | .flo l => l.length
def Buf.mode : Buf -> Bool
 | .fix _ => false
 | .flo _ => true
def Ras (w : World) (b g W H : Nat) (o : Value) (rest : List Value) (fx fy px py : Nat) : Buf -> Prop
 | .fix l => Blk w b 87 (rz o (.slice (some ⟨g, 0, none⟩) (W * H) (W * H + rest.length)) false W H fx fy px py) /\ Blk w g 100 (bufCells l rest) /\ l.length = W * H
 | .flo l => Blk w b 87 (rz (.slice (some ⟨g, 0, none⟩) (W * H) (W * H + rest.length)) o true W H fx fy px py) /\ Blk w g 72 (fbufCells l rest) /\ l.length = W * H
structure Dims (W H : Nat) (rest : List Value) : Prop where
 w1 : 1 <= W
 w2 : W <= 2000
 h1 : 1 <= H
 h2 : H <= 2000
 n : W * H <= 100000
 c : W * H + rest.length <= 100000
abbrev KS (b g : Nat) : Nat -> Prop := fun k => k = b ∨ k = g
section
variable {w w' : World} {b g W H : Nat} {o : Value} {rest : List Value} {fx fy px py : Nat} {B : Buf}
theorem Ras.cells (h : Ras w b g W H o rest fx fy px py B) : ∃ f u, Blk w b 87 (rz f u B.mode W H fx fy px py) := by
 cases B with
 | fix l => exact ⟨_, _, h.1⟩
 | flo l => exact ⟨_, _, h.1⟩
theorem Ras.same (h : Ras w b g W H o rest fx fy px py B) (hs : Same w w') : Ras w' b g W H o rest fx fy px py B := by
 cases B with
 | fix l => exact ⟨hs.blk h.1 id, hs.blk h.2.1 id, h.2.2⟩
 | flo l => exact ⟨hs.blk h.1 id, hs.blk h.2.1 id, h.2.2⟩
theorem Ras.drew (h : Ras w b g W H o rest fx fy px py B) : Ras w.drew b g W H o rest fx fy px py B := by
 cases B with
 | fix l => exact h
 | flo l => exact h
theorem Ras.len (h : Ras w b g W H o rest fx fy px py B) : B.len = W * H := by
 cases B with
 | fix l => exact h.2.2
 | flo l => exact h.2.2
theorem Ras.lt (h : Ras w b g W H o rest fx fy px py B) : b < w.heap.size /\ g < w.heap.size := by
 cases B with
 | fix l => exact ⟨h.1.lt, h.2.1.lt⟩
 | flo l => exact ⟨h.1.lt, h.2.1.lt⟩
theorem Ras.ne (h : Ras w b g W H o rest fx fy px py B) : b ≠ g := by
 cases B with
 | fix l => exact h.1.ne_ h.2.1 (by decide)
 | flo l => exact h.1.ne_ h.2.1 (by decide)
theorem Ras.moved (h : Ras w b g W H o rest fx fy px py B) {ax ay : Nat} :
  Ras ((((w.setCell ⟨b, 5, none⟩ (.float .f32 ax)).setCell ⟨b, 6, none⟩ (.float .f32 ay)).setCell ⟨b, 7, none⟩ (.float .f32 ax)).setCell ⟨b, 8, none⟩ (.float .f32 ay)) b g W H o rest ax ay ax ay B := by
 have hne := h.ne
 cases B with
 | fix l =>
  refine ⟨?_, (((h.2.1.far (p := ⟨b, 5, none⟩) hne.symm _).far (p := ⟨b, 6, none⟩) hne.symm _).far (p := ⟨b, 7, none⟩) hne.symm _).far (p := ⟨b, 8, none⟩) hne.symm _, h.2.2⟩
  have := (((h.1.set_ 5 (.float .f32 ax)).set_ 6 (.float .f32 ay)).set_ 7 (.float .f32 ax)).set_ 8 (.float .f32 ay)
  simpa [rz] using this
 | flo l =>
  refine ⟨?_, (((h.2.1.far (p := ⟨b, 5, none⟩) hne.symm _).far (p := ⟨b, 6, none⟩) hne.symm _).far (p := ⟨b, 7, none⟩) hne.symm _).far (p := ⟨b, 8, none⟩) hne.symm _, h.2.2⟩
  have := (((h.1.set_ 5 (.float .f32 ax)).set_ 6 (.float .f32 ay)).set_ 7 (.float .f32 ax)).set_ 8 (.float .f32 ay)
  simpa [rz] using this
end
def lineB (W : Nat) (H : Int) (px py qx qy : Nat) : Buf -> Buf
 | .fix l => .fix l
 | .flo l => .flo (fadds (floLine W H px py qx qy) l)
def LineOk (W : Nat) (H : Int) (px py qx qy : Nat) : Buf -> Prop
 | .fix _ => False
 | .flo l => FloOk H px py qx qy /\ FaddsOk (floLine W H px py qx qy) l
theorem len_lineB (W : Nat) (H : Int) (px py qx qy : Nat) (B : Buf) : (lineB W H px py qx qy B).len = B.len := by
 cases B with
 | fix l => rfl
 | flo l => exact length_fadds _ _
theorem line_any (b g W H : Nat) (o : Value) (rest : List Value) (fx fy px py qx qy : Nat) (B : Buf) (w : World) (hd : Dims W H rest)
  (h : Ras w b g W H o rest fx fy px py B) (hok : LineOk W H px py qx qy B) :
  Calls Try.prog 50 #[.pointer (some ⟨b, 0, none⟩), .float .f32 qx, .float .f32 qy] w fun e w' => e = .returned (.tuple #[]) /\
   Ras w' b g W H o rest fx fy qx qy (lineB W H px py qx qy B) /\ Kept (KS b g) w w' := by
 cases B with
 | fix l => exact hok.elim
 | flo l =>
  obtain ⟨h1, h2, h3⟩ := h
  have c2 := (rz_cells h1).2.2.1
  have h1 := hid h1
  have h2 := hid h2
  have h3 := hid h3
  have hok := hid hok
  go_enter Try.func50, Try.ntmps50
  go_wp2_with fail
  refine (floating_any b g (W * H) W H o fx fy px py qx qy l rest w h1.out h2.out h3.out hd.w2 hd.w1 hd.h2 rfl hd.n hd.c hok.out.1 hok.out.2).mono ?_
  rintro e w' ⟨rfl, r1, r2, r3⟩
  go_wp2
  go_end0
  exact ⟨rfl, ⟨r1, r2, by rw [length_fadds]; exact h3.out⟩, r3⟩
theorem move_any (b g W H : Nat) (o : Value) (rest : List Value) (fx fy px py ax ay : Nat) (B : Buf) (w : World)
  (h : Ras w b g W H o rest fx fy px py B) :
  Calls Try.prog 48 #[.pointer (some ⟨b, 0, none⟩), .float .f32 ax, .float .f32 ay] w fun e w' => e = .returned (.tuple #[]) /\
   Ras w' b g W H o rest ax ay ax ay B /\ Kept (KS b g) w w' := by
 obtain ⟨f, u, hb⟩ := h.cells
 obtain ⟨c0, c1, c2, c3, c4, c5, c6, c7, c8, c9⟩ := rz_cells hb
 have f5 := hb.frozen 5
 have f6 := hb.frozen 6
 have f7 := hb.frozen 7
 have f8 := hb.frozen 8
 have HR := hid h
 clear h hb c0 c1 c2 c3 c4 c9
 go_enter Try.func48, Try.ntmps48
 go_wp2
 go_end0
 refine ⟨rfl, HR.out.moved, ?_⟩
 iterate 4 (refine Kept.set_in ?_ (.inl rfl))
 exact Kept.refl _ _
set_option maxRecDepth 100000 in
theorem close_any (b g W H : Nat) (o : Value) (rest : List Value) (fx fy px py : Nat) (B : Buf) (w : World) (hd : Dims W H rest)
  (h : Ras w b g W H o rest fx fy px py B) (hok : LineOk W H px py fx fy B) :
  Calls Try.prog 53 #[.pointer (some ⟨b, 0, none⟩)] w fun e w' => e = .returned (.tuple #[]) /\
   Ras w' b g W H o rest fx fy fx fy (lineB W H px py fx fy B) /\ Kept (KS b g) w w' := by
 obtain ⟨f, u, hb⟩ := h.cells
 obtain ⟨c0, c1, c2, c3, c4, c5, c6, c7, c8, c9⟩ := rz_cells hb
 have HR := hid h
 have HOK := hid hok
 clear h hb c0 c1 c2 c3 c4 c7 c8 c9 hok
 go_enter Try.func53, Try.ntmps53
 go_wp2
 go_region_with (go_at_call 50; refine (line_any b g W H o rest fx fy px py fx fy B _ hd HR.out.drew HOK.out).mono ?_; rintro e w' ⟨rfl, r1, r2⟩)
 all_goals (go_end0; exact ⟨rfl, r1, r2.of_drew⟩)
end Go.Proofs.Ytmgcbodlolnheaa
