/-
  The tail of a block: sixteen words are put out.
-/
import Derived.Test.YtlafnkcmdnfcpaaAddXor
import Derived.Test.YtlafnkcmdnfcpaaChaSmall
import Derived.Test.YtlafnkcmdnfcpaaOrd
import Derived.BigQuiet
namespace Go.Proofs.Ytlafnkcmdnfcpaa
open Go Go.RowKit
attribute [local irreducible] Cha.iter Cha.rounds Cha.dbl Cha.qr
def lft : Code → Code
  | .seq a _ => a
  | .block _ c => c
  | .loop c => c
  | c => c
def rgt : Code → Code
  | .seq _ b => b
  | c => c
noncomputable def blkBody : Code := Try.f71.body.getD .skip
/-- the body of the loop over blocks; what is done for a block; what follows the rounds; the loop of the rounds -/
noncomputable def blkLoop : Code := lft (lft (rgt (rgt (rgt (rgt (rgt (rgt blkBody)))))))
noncomputable def blkM : Code := lft (rgt blkLoop)
noncomputable def blkT : Code := rgt (rgt (rgt (rgt (rgt (rgt blkM)))))
noncomputable def blkR : Code := rgt (lft (rgt (rgt (rgt (rgt (rgt blkM))))))
/-- what the loop over blocks needs of the memory: k words of this block are done; the words of the key stream are z; ct is the counter -/
structure Words (I : Nat → World → Prop) (b bd od bs os : Nat) (z : Nat → UInt32) (ct : UInt32) : Prop where
  drewN : ∀ k w n, I k w → I k (w.drewN n)
  counter : ∀ k w, I k w → w.cell? ⟨b, 8, none⟩ = some (.int .u32 (u32 ct))
  free : ∀ k w, I k w → w.frozen? ⟨b, 8, none⟩ = false
  word : ∀ k w, I k w → k < 16 → ∃ (x0 x1 x2 x3 : UInt8) (v0 v1 v2 v3 : Value),
    (w.cell? ⟨bd, od + 4 * k, none⟩ = some v0 ∧ w.cell? ⟨bd, od + 4 * k + 1, none⟩ = some v1 ∧ w.cell? ⟨bd, od + 4 * k + 2, none⟩ = some v2 ∧ w.cell? ⟨bd, od + 4 * k + 3, none⟩ = some v3) ∧ (∀ i, w.frozen? ⟨bd, i, none⟩ = false) ∧
    (w.cell? ⟨bs, os + 4 * k, none⟩ = some (.int .u8 (u8 x0)) ∧ w.cell? ⟨bs, os + 4 * k + 1, none⟩ = some (.int .u8 (u8 x1)) ∧ w.cell? ⟨bs, os + 4 * k + 2, none⟩ = some (.int .u8 (u8 x2)) ∧ w.cell? ⟨bs, os + 4 * k + 3, none⟩ = some (.int .u8 (u8 x3))) ∧
    I (k + 1) (W4 w bd (od + 4 * k) (x0 ^^^ Byt.by0 (z k)) (x1 ^^^ Byt.by1 (z k)) (x2 ^^^ Byt.by2 (z k)) (x3 ^^^ Byt.by3 (z k)))
/-- a slice of 64 bytes more: what lies behind them -/
def Sl64 (b o n c : Nat) (V : Value) : Prop := (c ≠ 64 ∧ V = .slice (some ⟨b, o + 64, none⟩) (n - 64) (c - 64)) ∨ (c = 64 ∧ V = .slice (some ⟨b, o, none⟩) (n - 64) 0)
theorem wrap_inc32 (x : UInt32) : IntKind.u32.wrap (u32 x + 1) = u32 (x + 1) := by
  rw [IntKind.wrap_u32]; unfold u32; rw [UInt32.toNat_add]; simp
/-- one word -/
theorem Words.call {I : Nat → World → Prop} {b bd od bs os : Nat} {z : Nat → UInt32} {ct : UInt32} (H : Words I b bd od bs os z ct) (k : Nat) (hk : k < 16) (D S : Nat) (hD : od + 4 * k = D) (hS : os + 4 * k = S) (cd cs : Nat) (a c : UInt32) (hz : a + c = z k) (w : World) (h : I k w) :
    Calls Try.prog 83 #[.slice (some ⟨bd, D, none⟩) 4 cd, .slice (some ⟨bs, S, none⟩) 4 cs, .int .u32 (u32 a), .int .u32 (u32 c)] w fun e w' => e = .returned (.tuple #[]) ∧ I (k + 1) w' := by
  subst hD hS
  obtain ⟨x0, x1, x2, x3, v0, v1, v2, v3, ⟨d0, d1, d2, d3⟩, hf, ⟨s0, s1, s2, s3⟩, hI⟩ := H.word k w h hk
  refine (addXor_c bd (od + 4 * k) 4 cd bs (os + 4 * k) 4 cs x0 x1 x2 x3 v0 v1 v2 v3 a c w (by decide) (by decide) d0 d1 d2 d3 hf s0 s1 s2 s3).mono ?_
  rintro e w' ⟨rfl, n, rfl⟩
  rw [hz]
  exact ⟨rfl, H.drewN _ _ n hI⟩
set_option maxRecDepth 1000000 in
set_option maxHeartbeats 40000000 in
theorem blkT_c (Q : Exit → Act → World → Prop) (I : Nat → World → Prop) (b bd od nd cd bs os ns cs : Nat) (z : Nat → UInt32) (x0 x1 x2 x3 x4 x5 x6 x7 x8 x9 x10 x11 x12 x13 x14 x15 c0 c1 c2 c3 c4 c5 c6 c7 c8 c9 c10 c11 c12 c13 c14 c15 : UInt32) (u3 u4 u5 u18 u22 u23 u24 u25 u42 u43 u44 u45 u46 u47 u48 u49 u50 u51 u52 u53 u54 u55 u56 u57 u58 u59 u60 u61 u62 u63 u64 u65 u66 u67 u68 u69 u70 u71 u72 u73 u74 u75 u76 u77 u78 u79 u80 u81 u82 u83 u84 u85 u86 u87 u88 u89 u90 u91 u92 u93 u94 u95 u96 u97 u98 u99 u100 u101 u102 u103 u104 u105 u106 u107 u108 u109 u110 u111 u112 u113 u114 u115 u116 u117 u118 u119 u120 u121 u122 u123 u124 u125 u126 u127 u128 u129 u130 u131 u132 u133 u134 u135 u136 u137 u138 u139 u140 u141 u142 u143 u144 u145 u146 u147 u148 u149 u150 u151 u152 u153 u154 u155 u156 u157 u158 u159 u160 u161 u162 u163 u164 u165 u166 u167 u168 u169 u170 u171 u172 u173 u174 u175 u176 u177 u178 u179 u180 u181 u182 u183 u184 u185 u186 u187 u188 u189 u190 u191 u192 u193 u194 u195 u196 u197 u198 u199 u200 u201 u202 u203 u204 u205 u206 u207 u208 u209 u210 u211 u212 u213 u214 u215 u216 u217 u218 u219 u220 u221 u222 u223 u224 u225 u226 u227 u228 u229 u230 u231 u232 u233 u234 u235 u236 u237 u238 u239 u240 u241 u242 u243 u244 u245 u246 u247 u248 u249 u250 u251 u252 u253 u254 u255 u256 u257 u258 u259 u260 u261 u262 u263 u264 u265 u266 u267 u268 u269 u270 u271 u272 u273 u274 u275 u276 u277 u278 u279 u280 u281 u282 u283 u284 u285 u286 u287 u288 u289 u290 u291 u292 u293 u294 u295 u296 u297 u298 u299 u300 u301 u302 u303 u304 u305 u306 u307 u308 u309 u310 u311 u312 u313 u314 u315 u316 u317 u318 u319 u320 u321 u322 u323 u324 u325 u326 u327 u328 u329 u330 u331 u332 u333 u334 u335 u336 u337 u338 u339 u340 u341 u342 u343 u344 u345 u346 u347 u348 u349 u350 u351 u352 u353 u354 u355 u356 u357 u358 u359 u360 u361 u362 u363 u364 u365 u366 u367 u368 u369 u370 u371 u372 u373 u374 u375 u376 u377 u378 u379 u380 u381 u382 u383 u384 u385 u386 u387 u388 u389 u390 u391 u392 u393 u394 u395 u396 u397 u398 u399 u400 u401 u402 u403 u404 u405 u406 u407 u408 u409 u410 u411 u412 u413 u414 u415 u416 u417 u418 u419 u420 u421 u422 u423 u424 u425 u426 u427 u428 u429 u430 u431 u432 u433 u434 u435 u436 u437 u438 u439 u440 u441 u442 u443 u444 u445 u446 u447 u448 u449 u450 u451 u452 u453 u454 u455 u456 u457 u458 u459 u460 u461 u462 u463 u464 u465 u466 u467 u468 u469 u470 u471 u472 u473 u474 u475 u476 u477 u478 u479 u480 u481 u482 u483 u484 u485 u486 u487 u488 u489 u490 u491 u492 u493 u494 : Value) (w : World) (H : Words I b bd od bs os z c12) (hI : I 0 w)
    (hnd : (64 : Int) ≤ nd) (hcd : (64 : Int) ≤ cd) (hns : (64 : Int) ≤ ns) (hcs : (64 : Int) ≤ cs)
    (z0 : x0 + c0 = z 0) (z1 : x1 + c1 = z 1) (z2 : x2 + c2 = z 2) (z3 : x3 + c3 = z 3) (z4 : x4 + c4 = z 4) (z5 : x5 + c5 = z 5) (z6 : x6 + c6 = z 6) (z7 : x7 + c7 = z 7) (z8 : x8 + c8 = z 8) (z9 : x9 + c9 = z 9) (z10 : x10 + c10 = z 10) (z11 : x11 + c11 = z 11) (z12 : x12 + c12 = z 12) (z13 : x13 + c13 = z 13) (z14 : x14 + c14 = z 14) (z15 : x15 + c15 = z 15)
    (h : ∀ (V1 V2 v369 v370 v371 v372 v373 v374 v375 v376 v377 v378 v379 v380 v381 v382 v383 v384 v385 v386 v387 v388 v389 v390 v391 v392 v393 v394 v395 v396 v397 v398 v399 v400 v401 v402 v403 v404 v405 v406 v407 v408 v409 v410 v411 v412 v413 v414 v415 v416 v417 v418 v419 v420 v421 v422 v423 v424 v425 v426 v427 v428 v429 v430 v431 v432 v433 v434 v435 v436 v437 v438 v439 v440 v441 v442 v443 v444 v445 v446 v447 v448 v449 v450 v451 v452 v453 v454 v455 v456 v457 v458 v459 v460 v461 v462 v463 v464 v465 v466 v467 v468 v469 v470 v471 v472 v473 v474 v475 v476 v477 v478 v479 v480 v481 v482 v483 v484 v485 v486 v487 v488 v489 v490 v491 v492 v493 v494 : Value) (w' : World), Sl64 bd od nd cd V1 → Sl64 bs os ns cs V2 → (∃ w16 n, I 16 w16 ∧ w' = (w16.setCell ⟨b, 8, none⟩ (.int .u32 (u32 (c12 + 1)))).drewN n) → Q .normal ⟨#[.pointer (some ⟨b, 0, none⟩), V1, V2, u3, u4, u5, .int .u32 (u32 c0), .int .u32 (u32 c1), .int .u32 (u32 c2), .int .u32 (u32 c3), .int .u32 (u32 c4), .int .u32 (u32 c5), .int .u32 (u32 c6), .int .u32 (u32 c7), .int .u32 (u32 c8), .int .u32 (u32 c9), .int .u32 (u32 c10), .int .u32 (u32 c11), u18, .int .u32 (u32 c13), .int .u32 (u32 c14), .int .u32 (u32 c15), u22, u23, u24, u25, .int .u32 (u32 x0), .int .u32 (u32 x5), .int .u32 (u32 x10), .int .u32 (u32 x15), .int .u32 (u32 x1), .int .u32 (u32 x6), .int .u32 (u32 x11), .int .u32 (u32 x12), .int .u32 (u32 x2), .int .u32 (u32 x7), .int .u32 (u32 x8), .int .u32 (u32 x13), .int .u32 (u32 x3), .int .u32 (u32 x4), .int .u32 (u32 x9), .int .u32 (u32 x14), u42, u43, u44, u45, u46, u47, u48, u49, u50, u51, u52, u53, u54, u55, u56, u57, u58, u59, u60, u61, u62, u63, u64, u65, u66, u67, u68, u69, u70, u71, u72, u73, u74, u75, u76, u77, u78, u79, u80, u81, u82, u83, u84, u85, u86, u87, u88, u89, u90, u91, u92, u93, u94, u95, u96, u97, u98, u99, u100, u101, u102, u103, u104, u105, u106, u107, u108, u109, u110, u111, u112, u113, u114, u115, u116, u117, u118, u119, u120, u121, u122, u123, u124, u125, u126, u127, u128, u129, u130, u131, u132, u133, u134, u135, u136, u137, u138, u139, u140, u141, u142, u143, u144, u145, u146, u147, u148, u149, u150, u151, u152, u153, u154, u155, u156, u157, u158, u159, u160, u161, u162, u163, u164, u165, u166, u167, u168, u169, u170, u171, u172, u173, u174, u175, u176, u177, u178, u179, u180, u181, u182, u183, u184, u185, u186, u187, u188, u189, u190, u191, u192, u193, u194, u195, u196, u197, u198, u199, u200, u201, u202, u203, u204, u205, u206, u207, u208, u209, u210, u211, u212, u213, u214, u215, u216, u217, u218, u219, u220, u221, u222, u223, u224, u225, u226, u227, u228, u229, u230, u231, u232, u233, u234, u235, u236, u237, u238, u239, u240, u241, u242, u243, u244, u245, u246, u247, u248, u249, u250, u251, u252, u253, u254, u255, u256, u257, u258, u259, u260, u261, u262, u263, u264, u265, u266, u267, u268, u269, u270, u271, u272, u273, u274, u275, u276, u277, u278, u279, u280, u281, u282, u283, u284, u285, u286, u287, u288, u289, u290, u291, u292, u293, u294, u295, u296, u297, u298, u299, u300, u301, u302, u303, u304, u305, u306, u307, u308, u309, u310, u311, u312, u313, u314, u315, u316, u317, u318, u319, u320, u321, u322, u323, u324, u325, u326, u327, u328, u329, u330, u331, u332, u333, u334, u335, u336, u337, u338, u339, u340, u341, u342, u343, u344, u345, u346, u347, u348, u349, u350, u351, u352, u353, u354, u355, u356, u357, u358, u359, u360, u361, u362, u363, u364, u365, u366, u367, u368, v369, v370, v371, v372, v373, v374, v375, v376, v377, v378, v379, v380, v381, v382, v383, v384, v385, v386, v387, v388, v389, v390, v391, v392, v393, v394, v395, v396, v397, v398, v399, v400, v401, v402, v403, v404, v405, v406, v407, v408, v409, v410, v411, v412, v413, v414, v415, v416, v417, v418, v419, v420, v421, v422, v423, v424, v425, v426, v427, v428, v429, v430, v431, v432, v433, v434, v435, v436, v437, v438, v439, v440, v441, v442, v443, v444, v445, v446, v447, v448, v449, v450, v451, v452, v453, v454, v455, v456, v457, v458, v459, v460, v461, v462, v463, v464, v465, v466, v467, v468, v469, v470, v471, v472, v473, v474, v475, v476, v477, v478, v479, v480, v481, v482, v483, v484, v485, v486, v487, v488, v489, v490, v491, v492, v493, v494], []⟩ w') :
    Code.wp Try.prog blkT Q ⟨#[.pointer (some ⟨b, 0, none⟩), .slice (some ⟨bd, od, none⟩) nd cd, .slice (some ⟨bs, os, none⟩) ns cs, u3, u4, u5, .int .u32 (u32 c0), .int .u32 (u32 c1), .int .u32 (u32 c2), .int .u32 (u32 c3), .int .u32 (u32 c4), .int .u32 (u32 c5), .int .u32 (u32 c6), .int .u32 (u32 c7), .int .u32 (u32 c8), .int .u32 (u32 c9), .int .u32 (u32 c10), .int .u32 (u32 c11), u18, .int .u32 (u32 c13), .int .u32 (u32 c14), .int .u32 (u32 c15), u22, u23, u24, u25, .int .u32 (u32 x0), .int .u32 (u32 x5), .int .u32 (u32 x10), .int .u32 (u32 x15), .int .u32 (u32 x1), .int .u32 (u32 x6), .int .u32 (u32 x11), .int .u32 (u32 x12), .int .u32 (u32 x2), .int .u32 (u32 x7), .int .u32 (u32 x8), .int .u32 (u32 x13), .int .u32 (u32 x3), .int .u32 (u32 x4), .int .u32 (u32 x9), .int .u32 (u32 x14), u42, u43, u44, u45, u46, u47, u48, u49, u50, u51, u52, u53, u54, u55, u56, u57, u58, u59, u60, u61, u62, u63, u64, u65, u66, u67, u68, u69, u70, u71, u72, u73, u74, u75, u76, u77, u78, u79, u80, u81, u82, u83, u84, u85, u86, u87, u88, u89, u90, u91, u92, u93, u94, u95, u96, u97, u98, u99, u100, u101, u102, u103, u104, u105, u106, u107, u108, u109, u110, u111, u112, u113, u114, u115, u116, u117, u118, u119, u120, u121, u122, u123, u124, u125, u126, u127, u128, u129, u130, u131, u132, u133, u134, u135, u136, u137, u138, u139, u140, u141, u142, u143, u144, u145, u146, u147, u148, u149, u150, u151, u152, u153, u154, u155, u156, u157, u158, u159, u160, u161, u162, u163, u164, u165, u166, u167, u168, u169, u170, u171, u172, u173, u174, u175, u176, u177, u178, u179, u180, u181, u182, u183, u184, u185, u186, u187, u188, u189, u190, u191, u192, u193, u194, u195, u196, u197, u198, u199, u200, u201, u202, u203, u204, u205, u206, u207, u208, u209, u210, u211, u212, u213, u214, u215, u216, u217, u218, u219, u220, u221, u222, u223, u224, u225, u226, u227, u228, u229, u230, u231, u232, u233, u234, u235, u236, u237, u238, u239, u240, u241, u242, u243, u244, u245, u246, u247, u248, u249, u250, u251, u252, u253, u254, u255, u256, u257, u258, u259, u260, u261, u262, u263, u264, u265, u266, u267, u268, u269, u270, u271, u272, u273, u274, u275, u276, u277, u278, u279, u280, u281, u282, u283, u284, u285, u286, u287, u288, u289, u290, u291, u292, u293, u294, u295, u296, u297, u298, u299, u300, u301, u302, u303, u304, u305, u306, u307, u308, u309, u310, u311, u312, u313, u314, u315, u316, u317, u318, u319, u320, u321, u322, u323, u324, u325, u326, u327, u328, u329, u330, u331, u332, u333, u334, u335, u336, u337, u338, u339, u340, u341, u342, u343, u344, u345, u346, u347, u348, u349, u350, u351, u352, u353, u354, u355, u356, u357, u358, u359, u360, u361, u362, u363, u364, u365, u366, u367, u368, u369, u370, u371, u372, u373, u374, u375, u376, u377, u378, u379, u380, u381, u382, u383, u384, u385, u386, u387, u388, u389, u390, u391, u392, u393, u394, u395, u396, u397, u398, u399, u400, u401, u402, u403, u404, u405, u406, u407, u408, u409, u410, u411, u412, u413, u414, u415, u416, u417, u418, u419, u420, u421, u422, u423, u424, u425, u426, u427, u428, u429, u430, u431, u432, u433, u434, u435, u436, u437, u438, u439, u440, u441, u442, u443, u444, u445, u446, u447, u448, u449, u450, u451, u452, u453, u454, u455, u456, u457, u458, u459, u460, u461, u462, u463, u464, u465, u466, u467, u468, u469, u470, u471, u472, u473, u474, u475, u476, u477, u478, u479, u480, u481, u482, u483, u484, u485, u486, u487, u488, u489, u490, u491, u492, u493, u494], []⟩ w := by
  conv => arg 2; whnf
  have HW := Lib.hid H
  have HI0 := Lib.hid hI
  clear H hI
  apply wp_seq
  refine wp_region_tailD 6 (by kernel_rfl) (by kernel_rfl) ?_
  simp only [List.take_succ_cons, List.take_zero, List.drop_succ_cons, List.drop_zero]
  repeat (go_big_quiet_step (fail))
  refine wpQuiet_nil ?_
  rintro _ ⟨m0, rfl⟩
  go_wp2_with (go_at_call 83; refine (HW.out.call 0 (by decide) _ _ (by omega) (by omega) _ _ _ _ z0 _ (HW.out.drewN _ _ m0 HI0.out)).mono ?_; rintro e w1 ⟨rfl, hi⟩)
  have HI1 := Lib.hid hi
  clear hi
  refine wp_region_tailD 6 (by kernel_rfl) (by kernel_rfl) ?_
  simp only [List.take_succ_cons, List.take_zero, List.drop_succ_cons, List.drop_zero]
  repeat (go_big_quiet_step (fail))
  refine wpQuiet_nil ?_
  rintro _ ⟨m1, rfl⟩
  go_wp2_with (go_at_call 83; refine (HW.out.call 1 (by decide) _ _ (by omega) (by omega) _ _ _ _ z1 _ (HW.out.drewN _ _ m1 HI1.out)).mono ?_; rintro e w2 ⟨rfl, hi⟩)
  have HI2 := Lib.hid hi
  clear hi
  refine wp_region_tailD 6 (by kernel_rfl) (by kernel_rfl) ?_
  simp only [List.take_succ_cons, List.take_zero, List.drop_succ_cons, List.drop_zero]
  repeat (go_big_quiet_step (fail))
  refine wpQuiet_nil ?_
  rintro _ ⟨m2, rfl⟩
  go_wp2_with (go_at_call 83; refine (HW.out.call 2 (by decide) _ _ (by omega) (by omega) _ _ _ _ z2 _ (HW.out.drewN _ _ m2 HI2.out)).mono ?_; rintro e w3 ⟨rfl, hi⟩)
  have HI3 := Lib.hid hi
  clear hi
  refine wp_region_tailD 6 (by kernel_rfl) (by kernel_rfl) ?_
  simp only [List.take_succ_cons, List.take_zero, List.drop_succ_cons, List.drop_zero]
  repeat (go_big_quiet_step (fail))
  refine wpQuiet_nil ?_
  rintro _ ⟨m3, rfl⟩
  go_wp2_with (go_at_call 83; refine (HW.out.call 3 (by decide) _ _ (by omega) (by omega) _ _ _ _ z3 _ (HW.out.drewN _ _ m3 HI3.out)).mono ?_; rintro e w4 ⟨rfl, hi⟩)
  have HI4 := Lib.hid hi
  clear hi
  refine wp_region_tailD 6 (by kernel_rfl) (by kernel_rfl) ?_
  simp only [List.take_succ_cons, List.take_zero, List.drop_succ_cons, List.drop_zero]
  repeat (go_big_quiet_step (fail))
  refine wpQuiet_nil ?_
  rintro _ ⟨m4, rfl⟩
  go_wp2_with (go_at_call 83; refine (HW.out.call 4 (by decide) _ _ (by omega) (by omega) _ _ _ _ z4 _ (HW.out.drewN _ _ m4 HI4.out)).mono ?_; rintro e w5 ⟨rfl, hi⟩)
  have HI5 := Lib.hid hi
  clear hi
  refine wp_region_tailD 6 (by kernel_rfl) (by kernel_rfl) ?_
  simp only [List.take_succ_cons, List.take_zero, List.drop_succ_cons, List.drop_zero]
  repeat (go_big_quiet_step (fail))
  refine wpQuiet_nil ?_
  rintro _ ⟨m5, rfl⟩
  go_wp2_with (go_at_call 83; refine (HW.out.call 5 (by decide) _ _ (by omega) (by omega) _ _ _ _ z5 _ (HW.out.drewN _ _ m5 HI5.out)).mono ?_; rintro e w6 ⟨rfl, hi⟩)
  have HI6 := Lib.hid hi
  clear hi
  refine wp_region_tailD 6 (by kernel_rfl) (by kernel_rfl) ?_
  simp only [List.take_succ_cons, List.take_zero, List.drop_succ_cons, List.drop_zero]
  repeat (go_big_quiet_step (fail))
  refine wpQuiet_nil ?_
  rintro _ ⟨m6, rfl⟩
  go_wp2_with (go_at_call 83; refine (HW.out.call 6 (by decide) _ _ (by omega) (by omega) _ _ _ _ z6 _ (HW.out.drewN _ _ m6 HI6.out)).mono ?_; rintro e w7 ⟨rfl, hi⟩)
  have HI7 := Lib.hid hi
  clear hi
  refine wp_region_tailD 6 (by kernel_rfl) (by kernel_rfl) ?_
  simp only [List.take_succ_cons, List.take_zero, List.drop_succ_cons, List.drop_zero]
  repeat (go_big_quiet_step (fail))
  refine wpQuiet_nil ?_
  rintro _ ⟨m7, rfl⟩
  go_wp2_with (go_at_call 83; refine (HW.out.call 7 (by decide) _ _ (by omega) (by omega) _ _ _ _ z7 _ (HW.out.drewN _ _ m7 HI7.out)).mono ?_; rintro e w8 ⟨rfl, hi⟩)
  have HI8 := Lib.hid hi
  clear hi
  refine wp_region_tailD 6 (by kernel_rfl) (by kernel_rfl) ?_
  simp only [List.take_succ_cons, List.take_zero, List.drop_succ_cons, List.drop_zero]
  repeat (go_big_quiet_step (fail))
  refine wpQuiet_nil ?_
  rintro _ ⟨m8, rfl⟩
  go_wp2_with (go_at_call 83; refine (HW.out.call 8 (by decide) _ _ (by omega) (by omega) _ _ _ _ z8 _ (HW.out.drewN _ _ m8 HI8.out)).mono ?_; rintro e w9 ⟨rfl, hi⟩)
  have HI9 := Lib.hid hi
  clear hi
  refine wp_region_tailD 6 (by kernel_rfl) (by kernel_rfl) ?_
  simp only [List.take_succ_cons, List.take_zero, List.drop_succ_cons, List.drop_zero]
  repeat (go_big_quiet_step (fail))
  refine wpQuiet_nil ?_
  rintro _ ⟨m9, rfl⟩
  go_wp2_with (go_at_call 83; refine (HW.out.call 9 (by decide) _ _ (by omega) (by omega) _ _ _ _ z9 _ (HW.out.drewN _ _ m9 HI9.out)).mono ?_; rintro e w10 ⟨rfl, hi⟩)
  have HI10 := Lib.hid hi
  clear hi
  refine wp_region_tailD 6 (by kernel_rfl) (by kernel_rfl) ?_
  simp only [List.take_succ_cons, List.take_zero, List.drop_succ_cons, List.drop_zero]
  repeat (go_big_quiet_step (fail))
  refine wpQuiet_nil ?_
  rintro _ ⟨m10, rfl⟩
  go_wp2_with (go_at_call 83; refine (HW.out.call 10 (by decide) _ _ (by omega) (by omega) _ _ _ _ z10 _ (HW.out.drewN _ _ m10 HI10.out)).mono ?_; rintro e w11 ⟨rfl, hi⟩)
  have HI11 := Lib.hid hi
  clear hi
  refine wp_region_tailD 6 (by kernel_rfl) (by kernel_rfl) ?_
  simp only [List.take_succ_cons, List.take_zero, List.drop_succ_cons, List.drop_zero]
  repeat (go_big_quiet_step (fail))
  refine wpQuiet_nil ?_
  rintro _ ⟨m11, rfl⟩
  go_wp2_with (go_at_call 83; refine (HW.out.call 11 (by decide) _ _ (by omega) (by omega) _ _ _ _ z11 _ (HW.out.drewN _ _ m11 HI11.out)).mono ?_; rintro e w12 ⟨rfl, hi⟩)
  have HI12 := Lib.hid hi
  clear hi
  refine wp_region_tailD 9 (by kernel_rfl) (by kernel_rfl) ?_
  simp only [List.take_succ_cons, List.take_zero, List.drop_succ_cons, List.drop_zero]
  have hct := HW.out.counter 12 _ HI12.out
  repeat (go_big_quiet_step (fail))
  refine wpQuiet_nil ?_
  rintro _ ⟨m12, rfl⟩
  go_wp2_with (go_at_call 83; refine (HW.out.call 12 (by decide) _ _ (by omega) (by omega) _ _ _ _ z12 _ (HW.out.drewN _ _ m12 HI12.out)).mono ?_; rintro e w13 ⟨rfl, hi⟩)
  have HI13 := Lib.hid hi
  clear hi
  refine wp_region_tailD 6 (by kernel_rfl) (by kernel_rfl) ?_
  simp only [List.take_succ_cons, List.take_zero, List.drop_succ_cons, List.drop_zero]
  repeat (go_big_quiet_step (fail))
  refine wpQuiet_nil ?_
  rintro _ ⟨m13, rfl⟩
  go_wp2_with (go_at_call 83; refine (HW.out.call 13 (by decide) _ _ (by omega) (by omega) _ _ _ _ z13 _ (HW.out.drewN _ _ m13 HI13.out)).mono ?_; rintro e w14 ⟨rfl, hi⟩)
  have HI14 := Lib.hid hi
  clear hi
  refine wp_region_tailD 6 (by kernel_rfl) (by kernel_rfl) ?_
  simp only [List.take_succ_cons, List.take_zero, List.drop_succ_cons, List.drop_zero]
  repeat (go_big_quiet_step (fail))
  refine wpQuiet_nil ?_
  rintro _ ⟨m14, rfl⟩
  go_wp2_with (go_at_call 83; refine (HW.out.call 14 (by decide) _ _ (by omega) (by omega) _ _ _ _ z14 _ (HW.out.drewN _ _ m14 HI14.out)).mono ?_; rintro e w15 ⟨rfl, hi⟩)
  have HI15 := Lib.hid hi
  clear hi
  refine wp_region_tailD 6 (by kernel_rfl) (by kernel_rfl) ?_
  simp only [List.take_succ_cons, List.take_zero, List.drop_succ_cons, List.drop_zero]
  repeat (go_big_quiet_step (fail))
  refine wpQuiet_nil ?_
  rintro _ ⟨m15, rfl⟩
  go_wp2_with (go_at_call 83; refine (HW.out.call 15 (by decide) _ _ (by omega) (by omega) _ _ _ _ z15 _ (HW.out.drewN _ _ m15 HI15.out)).mono ?_; rintro e w16 ⟨rfl, hi⟩; have hct := HW.out.counter 16 _ hi; have hfz := HW.out.free 16 _ hi; have hinc := wrap_inc32 c12)
  have HI16 := Lib.hid hi
  clear hi
  by_cases hc1 : cd = 64
  · by_cases hc2 : cs = 64
    · have HV1 : Hid (Sl64 bd od nd cd (.slice (some ⟨bd, od, none⟩) (nd - 64) 0)) := Lib.hid (Or.inr ⟨hc1, rfl⟩)
      have HV2 : Hid (Sl64 bs os ns cs (.slice (some ⟨bs, os, none⟩) (ns - 64) 0)) := Lib.hid (Or.inr ⟨hc2, rfl⟩)
      go_quiet (fail)
      exact h _ _ _ _ _ _ _ _ _ _ _ _ _ _ _ _ _ _ _ _ _ _ _ _ _ _ _ _ _ _ _ _ _ _ _ _ _ _ _ _ _ _ _ _ _ _ _ _ _ _ _ _ _ _ _ _ _ _ _ _ _ _ _ _ _ _ _ _ _ _ _ _ _ _ _ _ _ _ _ _ _ _ _ _ _ _ _ _ _ _ _ _ _ _ _ _ _ _ _ _ _ _ _ _ _ _ _ _ _ _ _ _ _ _ _ _ _ _ _ _ _ _ _ _ _ _ _ _ _ HV1.out HV2.out ⟨w16, _, HI16.out, rfl⟩
    · have HV1 : Hid (Sl64 bd od nd cd (.slice (some ⟨bd, od, none⟩) (nd - 64) 0)) := Lib.hid (Or.inr ⟨hc1, rfl⟩)
      have HV2 : Hid (Sl64 bs os ns cs (.slice (some ⟨bs, os + 64, none⟩) (ns - 64) (cs - 64))) := Lib.hid (Or.inl ⟨hc2, rfl⟩)
      go_quiet (fail)
      exact h _ _ _ _ _ _ _ _ _ _ _ _ _ _ _ _ _ _ _ _ _ _ _ _ _ _ _ _ _ _ _ _ _ _ _ _ _ _ _ _ _ _ _ _ _ _ _ _ _ _ _ _ _ _ _ _ _ _ _ _ _ _ _ _ _ _ _ _ _ _ _ _ _ _ _ _ _ _ _ _ _ _ _ _ _ _ _ _ _ _ _ _ _ _ _ _ _ _ _ _ _ _ _ _ _ _ _ _ _ _ _ _ _ _ _ _ _ _ _ _ _ _ _ _ _ _ _ _ _ HV1.out HV2.out ⟨w16, _, HI16.out, rfl⟩
  · by_cases hc2 : cs = 64
    · have HV1 : Hid (Sl64 bd od nd cd (.slice (some ⟨bd, od + 64, none⟩) (nd - 64) (cd - 64))) := Lib.hid (Or.inl ⟨hc1, rfl⟩)
      have HV2 : Hid (Sl64 bs os ns cs (.slice (some ⟨bs, os, none⟩) (ns - 64) 0)) := Lib.hid (Or.inr ⟨hc2, rfl⟩)
      go_quiet (fail)
      exact h _ _ _ _ _ _ _ _ _ _ _ _ _ _ _ _ _ _ _ _ _ _ _ _ _ _ _ _ _ _ _ _ _ _ _ _ _ _ _ _ _ _ _ _ _ _ _ _ _ _ _ _ _ _ _ _ _ _ _ _ _ _ _ _ _ _ _ _ _ _ _ _ _ _ _ _ _ _ _ _ _ _ _ _ _ _ _ _ _ _ _ _ _ _ _ _ _ _ _ _ _ _ _ _ _ _ _ _ _ _ _ _ _ _ _ _ _ _ _ _ _ _ _ _ _ _ _ _ _ HV1.out HV2.out ⟨w16, _, HI16.out, rfl⟩
    · have HV1 : Hid (Sl64 bd od nd cd (.slice (some ⟨bd, od + 64, none⟩) (nd - 64) (cd - 64))) := Lib.hid (Or.inl ⟨hc1, rfl⟩)
      have HV2 : Hid (Sl64 bs os ns cs (.slice (some ⟨bs, os + 64, none⟩) (ns - 64) (cs - 64))) := Lib.hid (Or.inl ⟨hc2, rfl⟩)
      go_quiet (fail)
      exact h _ _ _ _ _ _ _ _ _ _ _ _ _ _ _ _ _ _ _ _ _ _ _ _ _ _ _ _ _ _ _ _ _ _ _ _ _ _ _ _ _ _ _ _ _ _ _ _ _ _ _ _ _ _ _ _ _ _ _ _ _ _ _ _ _ _ _ _ _ _ _ _ _ _ _ _ _ _ _ _ _ _ _ _ _ _ _ _ _ _ _ _ _ _ _ _ _ _ _ _ _ _ _ _ _ _ _ _ _ _ _ _ _ _ _ _ _ _ _ _ _ _ _ _ _ _ _ _ _ HV1.out HV2.out ⟨w16, _, HI16.out, rfl⟩
end Go.Proofs.Ytlafnkcmdnfcpaa
