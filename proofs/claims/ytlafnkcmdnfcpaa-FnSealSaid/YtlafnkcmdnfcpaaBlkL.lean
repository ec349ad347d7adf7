/-
  The loop over blocks.
-/
import Derived.Test.YtlafnkcmdnfcpaaBlkM
import Derived.Test.YtlafnkcmdnfcpaaChaSmall
import Derived.Test.YtlafnkcmdnfcpaaOrd
import Derived.BigQuiet
namespace Go.Proofs.Ytlafnkcmdnfcpaa
open Go Go.RowKit
set_option linter.unusedVariables false
attribute [local irreducible] Cha.iter Cha.rounds Cha.dbl Cha.qr
/-- the slice behind j blocks of n bytes -/
def SlAt (b o n c j : Nat) (V : Value) : Prop := (64 * j < n ∧ V = .slice (some ⟨b, o + 64 * j, none⟩) (n - 64 * j) (c - 64 * j)) ∨ (64 * j = n ∧ ∃ p c', V = .slice p 0 c')
theorem SlAt.next {b o n c j : Nat} {V : Value} (h : Sl64 b (o + 64 * j) (n - 64 * j) (c - 64 * j) V) (hj : 64 * j + 64 ≤ n) (hc : n ≤ c) : SlAt b o n c (j + 1) V := by
  rcases h with ⟨h1, rfl⟩ | ⟨h1, rfl⟩
  · by_cases h2 : 64 * (j + 1) < n
    · refine Or.inl ⟨h2, ?_⟩
      rw [show o + 64 * j + 64 = o + 64 * (j + 1) by omega, show n - 64 * j - 64 = n - 64 * (j + 1) by omega, show c - 64 * j - 64 = c - 64 * (j + 1) by omega]
    · exact Or.inr ⟨by omega, _, _, by rw [show n - 64 * j - 64 = 0 by omega]⟩
  · exact Or.inr ⟨by omega, _, _, by rw [show n - 64 * j - 64 = 0 by omega]⟩
/-- what the loop over blocks keeps of the memory -/
structure Blocks (J : Nat → World → Prop) (N b bd od bs os : Nat) (c0 c1 c2 c3 c4 c5 c6 c7 c8 c9 c10 c11 c13 c14 c15 : UInt32) (c : UInt32) : Prop where
  drewN : ∀ j w n, J j w → J j (w.drewN n)
  pcells : ∀ j w, J j w → PCells w b c0 c1 c2 c3 c4 c5 c6 c7 c8 c9 c10 c11 c c13 c14 c15
  step : ∀ j w, J j w → j < N → ∃ I : Nat → World → Prop, Words I b bd (od + 64 * j) bs (os + 64 * j) (zw [c0, c1, c2, c3, c4, c5, c6, c7, c8, c9, c10, c11, (c + UInt32.ofNat j), c13, c14, c15]) (c + UInt32.ofNat j) ∧ I 0 w ∧ ∀ w16 n, I 16 w16 → J (j + 1) ((w16.setCell ⟨b, 8, none⟩ (.int .u32 (u32 (c + UInt32.ofNat j + 1)))).drewN n)
def BlkRel (J : Nat → World → Prop) (N bd od cd bs os cs : Nat) (V1 V2 : Value) (wr : World) : Prop :=
  ∃ j, j ≤ N ∧ SlAt bd od (64 * N) cd j V1 ∧ SlAt bs os (64 * N) cs j V2 ∧ J j wr
def lenV : Value → Nat
  | .slice _ n _ => n
  | _ => 0
theorem wp_seq_hold {P : Program} {x y : Code} {Q : Exit → Act → World → Prop} {a : Act} {w : World} (h : ∀ K : Act → World → Prop, Hid (∀ a w, Code.wp P y Q a w → K a w) → Code.wp P x (Exit.then K Q) a w) : Code.wp P (x.seq y) Q a w :=
  wp_seq (h _ (Lib.hid (fun _ _ h => h)))
set_option maxRecDepth 1000000 in
set_option maxHeartbeats 40000000 in
theorem blkL_c (Q : Exit → Act → World → Prop) (J : Nat → World → Prop) (N b bd od cd bs os cs : Nat) (c0 c1 c2 c3 c4 c5 c6 c7 c8 c9 c10 c11 c13 c14 c15 c : UInt32) (n : Nat) (hn : n = 64 * N) (r3 r4 r5 r18 r22 r23 r24 r25 r26 r27 r28 r29 r30 r31 r32 r33 r34 r35 r36 r37 r38 r39 r40 r41 r42 r43 r44 r45 r46 r47 r48 r49 r50 r51 r52 r53 r54 r55 r56 r57 r58 r59 r60 r61 r62 r63 r64 r65 r66 r67 r68 r69 r70 r71 r72 r73 r74 r75 r76 r77 r78 r79 r80 r81 r82 r83 r84 r85 r86 r87 r88 r89 r90 r91 r92 r93 r94 r95 r96 r97 r98 r99 r100 r101 r102 r103 r104 r105 r106 r107 r108 r109 r110 r111 r112 r113 r114 r115 r116 r117 r118 r119 r120 r121 r122 r123 r124 r125 r126 r127 r128 r129 r130 r131 r132 r133 r134 r135 r136 r137 r138 r139 r140 r141 r142 r143 r144 r145 r146 r147 r148 r149 r150 r151 r152 r153 r154 r155 r156 r157 r158 r159 r160 r161 r162 r163 r164 r165 r166 r167 r168 r169 r170 r171 r172 r173 r174 r175 r176 r177 r178 r179 r180 r181 r182 r183 r184 r185 r186 r187 r188 r189 r190 r191 r192 r193 r194 r195 r196 r197 r198 r199 r200 r201 r202 r203 r204 r205 r206 r207 r208 r209 r210 r211 r212 r213 r214 r215 r216 r217 r218 r219 r220 r221 r222 r223 r224 r225 r226 r227 r228 r229 r230 r231 r232 r233 r234 r235 r236 r237 r238 r239 r240 r241 r242 r243 r244 r245 r246 r247 r248 r249 r250 r251 r252 r253 r254 r255 r256 r257 r258 r259 r260 r261 r262 r263 r264 r265 r266 r267 r268 r269 r270 r271 r272 r273 r274 r275 r276 r277 r278 r279 r280 r281 r282 r283 r284 r285 r286 r287 r288 r289 r290 r291 r292 r293 r294 r295 r296 r297 r298 r299 r300 r301 r302 r303 r304 r305 r306 r307 r308 r309 r310 r311 r312 r313 r314 r315 r316 r317 r318 r319 r320 r321 r322 r323 r324 r325 r326 r327 r328 r329 r330 r331 r332 r333 r334 r335 r336 r337 r338 r339 r340 r341 r342 r343 r344 r345 r346 r347 r348 r349 r350 r351 r352 r353 r354 r355 r356 r357 r358 r359 r360 r361 r362 r363 r364 r365 r366 r367 r368 r369 r370 r371 r372 r373 r374 r375 r376 r377 r378 r379 r380 r381 r382 r383 r384 r385 r386 r387 r388 r389 r390 r391 r392 r393 r394 r395 r396 r397 r398 r399 r400 r401 r402 r403 r404 r405 r406 r407 r408 r409 r410 r411 r412 r413 r414 r415 r416 r417 r418 r419 r420 r421 r422 r423 r424 r425 r426 r427 r428 r429 r430 r431 r432 r433 r434 r435 r436 r437 r438 r439 r440 r441 r442 r443 r444 r445 r446 r447 r448 r449 r450 r451 r452 r453 r454 r455 r456 r457 r458 r459 r460 r461 r462 r463 r464 r465 r466 r467 r468 r469 r470 r471 r472 r473 r474 r475 r476 r477 r478 r479 r480 r481 r482 r483 r484 r485 r486 r487 r488 r489 r490 r491 r492 r493 r494 : Value) (w : World) (H : Blocks J N b bd od bs os c0 c1 c2 c3 c4 c5 c6 c7 c8 c9 c10 c11 c13 c14 c15 c) (hJ : J 0 w)
    (hcd : 64 * N ≤ cd) (hcs : 64 * N ≤ cs) (hmx : 64 * N ≤ 140737488355328)
    (h : ∀ (V1 V2 v22 v23 v24 v25 v26 v27 v28 v29 v30 v31 v32 v33 v34 v35 v36 v37 v38 v39 v40 v41 v42 v188 v189 v190 v191 v192 v193 v194 v195 v196 v197 v198 v199 v200 v201 v202 v203 v204 v205 v206 v207 v208 v209 v210 v211 v212 v213 v214 v215 v216 v217 v218 v219 v220 v221 v222 v223 v224 v225 v226 v227 v228 v229 v230 v231 v232 v233 v234 v235 v236 v237 v238 v239 v240 v241 v242 v243 v244 v245 v246 v247 v248 v249 v250 v251 v252 v253 v254 v255 v256 v257 v258 v259 v260 v261 v262 v263 v264 v265 v266 v267 v268 v269 v270 v271 v272 v273 v274 v275 v276 v277 v278 v279 v280 v281 v282 v283 v284 v285 v286 v287 v288 v289 v290 v291 v292 v293 v294 v295 v296 v297 v298 v299 v300 v301 v302 v303 v304 v305 v306 v307 v308 v309 v310 v311 v312 v313 v314 v315 v316 v317 v318 v319 v320 v321 v322 v323 v324 v325 v326 v327 v328 v329 v330 v331 v332 v333 v334 v335 v336 v337 v338 v339 v340 v341 v342 v343 v344 v345 v346 v347 v348 v349 v350 v351 v352 v353 v354 v355 v356 v357 v358 v359 v360 v361 v362 v363 v364 v365 v366 v367 v368 v369 v370 v371 v372 v373 v374 v375 v376 v377 v378 v379 v380 v381 v382 v383 v384 v385 v386 v387 v388 v389 v390 v391 v392 v393 v394 v395 v396 v397 v398 v399 v400 v401 v402 v403 v404 v405 v406 v407 v408 v409 v410 v411 v412 v413 v414 v415 v416 v417 v418 v419 v420 v421 v422 v423 v424 v425 v426 v427 v428 v429 v430 v431 v432 v433 v434 v435 v436 v437 v438 v439 v440 v441 v442 v443 v444 v445 v446 v447 v448 v449 v450 v451 v452 v453 v454 v455 v456 v457 v458 v459 v460 v461 v462 v463 v464 v465 v466 v467 v468 v469 v470 v471 v472 v473 v474 v475 v476 v477 v478 v479 v480 v481 v482 v483 v484 v485 v486 v487 v488 v489 v490 v491 v492 v493 v494 : Value) (w' : World), J N w' → Q (.exit 0) ⟨#[.pointer (some ⟨b, 0, none⟩), V1, V2, r3, r4, r5, .int .u32 (u32 c0), .int .u32 (u32 c1), .int .u32 (u32 c2), .int .u32 (u32 c3), .int .u32 (u32 c4), .int .u32 (u32 c5), .int .u32 (u32 c6), .int .u32 (u32 c7), .int .u32 (u32 c8), .int .u32 (u32 c9), .int .u32 (u32 c10), .int .u32 (u32 c11), r18, .int .u32 (u32 c13), .int .u32 (u32 c14), .int .u32 (u32 c15), v22, v23, v24, v25, v26, v27, v28, v29, v30, v31, v32, v33, v34, v35, v36, v37, v38, v39, v40, v41, v42, r43, r44, r45, r46, r47, r48, r49, r50, r51, r52, r53, r54, r55, r56, r57, r58, r59, r60, r61, r62, r63, r64, r65, r66, r67, r68, r69, r70, r71, r72, r73, r74, r75, r76, r77, r78, r79, r80, r81, r82, r83, r84, r85, r86, r87, r88, r89, r90, r91, r92, r93, r94, r95, r96, r97, r98, r99, r100, r101, r102, r103, r104, r105, r106, r107, r108, r109, r110, r111, r112, r113, r114, r115, r116, r117, r118, r119, r120, r121, r122, r123, r124, r125, r126, r127, r128, r129, r130, r131, r132, r133, r134, r135, r136, r137, r138, r139, r140, r141, r142, r143, r144, r145, r146, r147, r148, r149, r150, r151, r152, r153, r154, r155, r156, r157, r158, r159, r160, r161, r162, r163, r164, r165, r166, r167, r168, r169, r170, r171, r172, r173, r174, r175, r176, r177, r178, r179, r180, r181, r182, r183, r184, r185, r186, r187, v188, v189, v190, v191, v192, v193, v194, v195, v196, v197, v198, v199, v200, v201, v202, v203, v204, v205, v206, v207, v208, v209, v210, v211, v212, v213, v214, v215, v216, v217, v218, v219, v220, v221, v222, v223, v224, v225, v226, v227, v228, v229, v230, v231, v232, v233, v234, v235, v236, v237, v238, v239, v240, v241, v242, v243, v244, v245, v246, v247, v248, v249, v250, v251, v252, v253, v254, v255, v256, v257, v258, v259, v260, v261, v262, v263, v264, v265, v266, v267, v268, v269, v270, v271, v272, v273, v274, v275, v276, v277, v278, v279, v280, v281, v282, v283, v284, v285, v286, v287, v288, v289, v290, v291, v292, v293, v294, v295, v296, v297, v298, v299, v300, v301, v302, v303, v304, v305, v306, v307, v308, v309, v310, v311, v312, v313, v314, v315, v316, v317, v318, v319, v320, v321, v322, v323, v324, v325, v326, v327, v328, v329, v330, v331, v332, v333, v334, v335, v336, v337, v338, v339, v340, v341, v342, v343, v344, v345, v346, v347, v348, v349, v350, v351, v352, v353, v354, v355, v356, v357, v358, v359, v360, v361, v362, v363, v364, v365, v366, v367, v368, v369, v370, v371, v372, v373, v374, v375, v376, v377, v378, v379, v380, v381, v382, v383, v384, v385, v386, v387, v388, v389, v390, v391, v392, v393, v394, v395, v396, v397, v398, v399, v400, v401, v402, v403, v404, v405, v406, v407, v408, v409, v410, v411, v412, v413, v414, v415, v416, v417, v418, v419, v420, v421, v422, v423, v424, v425, v426, v427, v428, v429, v430, v431, v432, v433, v434, v435, v436, v437, v438, v439, v440, v441, v442, v443, v444, v445, v446, v447, v448, v449, v450, v451, v452, v453, v454, v455, v456, v457, v458, v459, v460, v461, v462, v463, v464, v465, v466, v467, v468, v469, v470, v471, v472, v473, v474, v475, v476, v477, v478, v479, v480, v481, v482, v483, v484, v485, v486, v487, v488, v489, v490, v491, v492, v493, v494], []⟩ w') :
    Code.wp Try.prog (Code.loop blkLoop) Q ⟨#[.pointer (some ⟨b, 0, none⟩), .slice (some ⟨bd, od, none⟩) n cd, .slice (some ⟨bs, os, none⟩) n cs, r3, r4, r5, .int .u32 (u32 c0), .int .u32 (u32 c1), .int .u32 (u32 c2), .int .u32 (u32 c3), .int .u32 (u32 c4), .int .u32 (u32 c5), .int .u32 (u32 c6), .int .u32 (u32 c7), .int .u32 (u32 c8), .int .u32 (u32 c9), .int .u32 (u32 c10), .int .u32 (u32 c11), r18, .int .u32 (u32 c13), .int .u32 (u32 c14), .int .u32 (u32 c15), r22, r23, r24, r25, r26, r27, r28, r29, r30, r31, r32, r33, r34, r35, r36, r37, r38, r39, r40, r41, r42, r43, r44, r45, r46, r47, r48, r49, r50, r51, r52, r53, r54, r55, r56, r57, r58, r59, r60, r61, r62, r63, r64, r65, r66, r67, r68, r69, r70, r71, r72, r73, r74, r75, r76, r77, r78, r79, r80, r81, r82, r83, r84, r85, r86, r87, r88, r89, r90, r91, r92, r93, r94, r95, r96, r97, r98, r99, r100, r101, r102, r103, r104, r105, r106, r107, r108, r109, r110, r111, r112, r113, r114, r115, r116, r117, r118, r119, r120, r121, r122, r123, r124, r125, r126, r127, r128, r129, r130, r131, r132, r133, r134, r135, r136, r137, r138, r139, r140, r141, r142, r143, r144, r145, r146, r147, r148, r149, r150, r151, r152, r153, r154, r155, r156, r157, r158, r159, r160, r161, r162, r163, r164, r165, r166, r167, r168, r169, r170, r171, r172, r173, r174, r175, r176, r177, r178, r179, r180, r181, r182, r183, r184, r185, r186, r187, r188, r189, r190, r191, r192, r193, r194, r195, r196, r197, r198, r199, r200, r201, r202, r203, r204, r205, r206, r207, r208, r209, r210, r211, r212, r213, r214, r215, r216, r217, r218, r219, r220, r221, r222, r223, r224, r225, r226, r227, r228, r229, r230, r231, r232, r233, r234, r235, r236, r237, r238, r239, r240, r241, r242, r243, r244, r245, r246, r247, r248, r249, r250, r251, r252, r253, r254, r255, r256, r257, r258, r259, r260, r261, r262, r263, r264, r265, r266, r267, r268, r269, r270, r271, r272, r273, r274, r275, r276, r277, r278, r279, r280, r281, r282, r283, r284, r285, r286, r287, r288, r289, r290, r291, r292, r293, r294, r295, r296, r297, r298, r299, r300, r301, r302, r303, r304, r305, r306, r307, r308, r309, r310, r311, r312, r313, r314, r315, r316, r317, r318, r319, r320, r321, r322, r323, r324, r325, r326, r327, r328, r329, r330, r331, r332, r333, r334, r335, r336, r337, r338, r339, r340, r341, r342, r343, r344, r345, r346, r347, r348, r349, r350, r351, r352, r353, r354, r355, r356, r357, r358, r359, r360, r361, r362, r363, r364, r365, r366, r367, r368, r369, r370, r371, r372, r373, r374, r375, r376, r377, r378, r379, r380, r381, r382, r383, r384, r385, r386, r387, r388, r389, r390, r391, r392, r393, r394, r395, r396, r397, r398, r399, r400, r401, r402, r403, r404, r405, r406, r407, r408, r409, r410, r411, r412, r413, r414, r415, r416, r417, r418, r419, r420, r421, r422, r423, r424, r425, r426, r427, r428, r429, r430, r431, r432, r433, r434, r435, r436, r437, r438, r439, r440, r441, r442, r443, r444, r445, r446, r447, r448, r449, r450, r451, r452, r453, r454, r455, r456, r457, r458, r459, r460, r461, r462, r463, r464, r465, r466, r467, r468, r469, r470, r471, r472, r473, r474, r475, r476, r477, r478, r479, r480, r481, r482, r483, r484, r485, r486, r487, r488, r489, r490, r491, r492, r493, r494], []⟩ w := by
  conv => arg 2; arg 1; whnf
  dsimp only
  have HH := Lib.hid h
  have HB := Lib.hid H
  have HJ0 := Lib.hid hJ
  have HN := Lib.hid hn
  clear h H hJ hn
  go_loopw [1, 2] (fun V1 V2 wr => BlkRel J N bd od cd bs os cs V1 V2 wr) (fun _ V2 _ => lenV V2)
  case atStart =>
    by_cases h0 : 0 < 64 * N
    · refine ⟨0, Nat.zero_le _, Or.inl ⟨by omega, by simp [HN.out]⟩, Or.inl ⟨by omega, by simp [HN.out]⟩, HJ0.out⟩
    · refine ⟨0, Nat.zero_le _, Or.inr ⟨by omega, some ⟨bd, od, none⟩, cd, ?_⟩, Or.inr ⟨by omega, some ⟨bs, os, none⟩, cs, ?_⟩, HJ0.out⟩
      · rw [HN.out, show 64 * N = 0 by omega]
      · rw [HN.out, show 64 * N = 0 by omega]
  case round =>
    obtain ⟨j, hj, h1, h2, hJ⟩ := hrel
    have HJ := Lib.hid hJ
    clear hJ HJ0
    by_cases hlt : j < N
    · rcases h1 with ⟨-, rfl⟩ | ⟨h1, -⟩
      case inr => omega
      rcases h2 with ⟨-, rfl⟩ | ⟨h2, -⟩
      case inr => omega
      obtain ⟨nr, hnr⟩ : ∃ m, m = 64 * N - 64 * j := ⟨_, rfl⟩
      obtain ⟨cdr, hcdr⟩ : ∃ m, m = cd - 64 * j := ⟨_, rfl⟩
      obtain ⟨csr, hcsr⟩ : ∃ m, m = cs - 64 * j := ⟨_, rfl⟩
      rw [← hnr, ← hcdr, ← hcsr]
      have g1 : (64 : Int) ≤ nr := by omega
      have g2 : (64 : Int) ≤ cdr := by omega
      have g3 : (64 : Int) ≤ csr := by omega
      have HNR := Lib.hid hnr
      have HCD := Lib.hid hcdr
      have HCS := Lib.hid hcsr
      clear hnr hcdr hcsr
      refine wp_seq_hold (fun K HK => ?_)
      go_wp2_with fail
      refine HK.out _ _ ?_
      clear HK K
      refine wp_block ?_
      obtain ⟨I, hW, hI0, hnext⟩ := HB.out.step j _ HJ.out hlt
      have HNX := Lib.hid hnext
      clear hnext
      refine blkM_c _ I b bd (od + 64 * j) nr cdr bs (os + 64 * j) nr csr c0 c1 c2 c3 c4 c5 c6 c7 c8 c9 c10 c11 (c + UInt32.ofNat j) c13 c14 c15 _ _ _ _ _ _ _ _ _ _ _ _ _ _ _ _ _ _ _ _ _ _ _ _ _ _ _ _ _ _ _ _ _ _ _ _ _ _ _ _ _ _ _ _ _ _ _ _ _ _ _ _ _ _ _ _ _ _ _ _ _ _ _ _ _ _ _ _ _ _ _ _ _ _ _ _ _ _ _ _ _ _ _ _ _ _ _ _ _ _ _ _ _ _ _ _ _ _ _ _ _ _ _ _ _ _ _ _ _ _ _ _ _ _ _ _ _ _ _ _ _ _ _ _ _ _ _ _ _ _ _ _ _ _ _ _ _ _ _ _ _ _ _ _ _ _ _ _ _ _ _ _ _ _ _ _ _ _ _ _ _ _ _ _ _ _ _ _ _ _ _ _ _ _ _ _ _ _ _ _ _ _ _ _ _ _ _ _ _ _ _ _ _ _ _ _ _ _ _ _ _ _ _ _ _ _ _ _ _ _ _ _ _ _ _ _ _ _ _ _ _ _ _ _ _ _ _ _ _ _ _ _ _ _ _ _ _ _ _ _ _ _ _ _ _ _ _ _ _ _ _ _ _ _ _ _ _ _ _ _ _ _ _ _ _ _ _ _ _ _ _ _ _ _ _ _ _ _ _ _ _ _ _ _ _ _ _ _ _ _ _ _ _ _ _ _ _ _ _ _ _ _ _ _ _ _ _ _ _ _ _ _ _ _ _ _ _ _ _ _ _ _ _ _ _ _ _ _ _ _ _ _ _ _ _ _ _ _ _ _ _ _ _ _ _ _ _ _ _ _ _ _ _ _ _ _ _ _ _ _ _ _ _ _ _ _ _ _ _ _ _ _ _ _ _ _ _ _ _ _ _ _ _ _ _ _ _ _ _ _ _ _ _ _ _ _ _ _ _ _ _ _ _ _ _ _ _ _ _ _ _ _ _ _ _ _ _ _ _ _ _ _ _ _ _ _ _ _ _ _ _ _ _ _ _ _ _ _ _ _ _ _ _ _ _ _ _ _ _ _ _ _ _ _ _ _ _ _ _ _ _ _ _ _ _ _ _ _ _ _ _ _ _ _ _ _ _ _ hW hI0 (by have hp := HB.out.pcells j _ HJ.out; unfold PCells at hp ⊢; exact hp) g1 g2 g1 g3 ?_
      intro V1 V2 q22 q23 q24 q25 q26 q27 q28 q29 q30 q31 q32 q33 q34 q35 q36 q37 q38 q39 q40 q41 q42 q196 q197 q198 q199 q200 q201 q202 q203 q204 q205 q206 q207 q208 q209 q210 q211 q212 q213 q214 q215 q216 q217 q218 q219 q220 q221 q222 q223 q224 q225 q226 q227 q228 q229 q230 q231 q232 q233 q234 q235 q236 q237 q238 q239 q240 q241 q242 q243 q244 q245 q246 q247 q248 q249 q250 q251 q252 q253 q254 q255 q256 q257 q258 q259 q260 q261 q262 q263 q264 q265 q266 q267 q268 q269 q270 q271 q272 q273 q274 q275 q276 q277 q278 q279 q280 q281 q282 q283 q284 q285 q286 q287 q288 q289 q290 q291 q292 q293 q294 q295 q296 q297 q298 q299 q300 q301 q302 q303 q304 q305 q306 q307 q308 q309 q310 q311 q312 q313 q314 q315 q316 q317 q318 q319 q320 q321 q322 q323 q324 q325 q326 q327 q328 q329 q330 q331 q332 q333 q334 q335 q336 q337 q338 q339 q340 q341 q342 q343 q344 q345 q346 q347 q348 q349 q350 q351 q352 q353 q354 q355 q356 q357 q358 q359 q360 q361 q362 q363 q364 q365 q366 q367 q368 q369 q370 q371 q372 q373 q374 q375 q376 q377 q378 q379 q380 q381 q382 q383 q384 q385 q386 q387 q388 q389 q390 q391 q392 q393 q394 q395 q396 q397 q398 q399 q400 q401 q402 q403 q404 q405 q406 q407 q408 q409 q410 q411 q412 q413 q414 q415 q416 q417 q418 q419 q420 q421 q422 q423 q424 q425 q426 q427 q428 q429 q430 q431 q432 q433 q434 q435 q436 q437 q438 q439 q440 q441 q442 q443 q444 q445 q446 q447 q448 q449 q450 q451 q452 q453 q454 q455 q456 q457 q458 q459 q460 q461 q462 q463 q464 q465 q466 q467 q468 q469 q470 q471 q472 q473 q474 q475 q476 q477 q478 q479 q480 q481 q482 q483 q484 q485 q486 q487 q488 q489 q490 q491 q492 q493 q494 wz h1 h2 h3
      obtain ⟨w16, m, hi, rfl⟩ := h3
      have hJ2 := HNX.out w16 m hi
      have s1 := SlAt.next (b := bd) (o := od) (n := 64 * N) (c := cd) (j := j) (V := V1) (by rw [← HNR.out, ← HCD.out]; exact h1) (by omega) hcd
      have s2 := SlAt.next (b := bs) (o := os) (n := 64 * N) (c := cs) (j := j) (V := V2) (by rw [← HNR.out, ← HCS.out]; exact h2) (by omega) hcs
      have hlen : lenV V2 < nr := by
        rcases h2 with ⟨-, rfl⟩ | ⟨-, rfl⟩
        · show nr - 64 < nr; omega
        · show nr - 64 < nr; omega
      dsimp only [Exit.inBlock, Exit.then]
      refine ⟨?_, ?_⟩
      · exact ⟨V1, V2, _, _, _, _, _, _, _, _, _, _, _, _, _, _, _, _, _, _, _, _, _, _, _, _, _, _, _, _, _, _, _, _, _, _, _, _, _, _, _, _, _, _, _, _, _, _, _, _, _, _, _, _, _, _, _, _, _, _, _, _, _, _, _, _, _, _, _, _, _, _, _, _, _, _, _, _, _, _, _, _, _, _, _, _, _, _, _, _, _, _, _, _, _, _, _, _, _, _, _, _, _, _, _, _, _, _, _, _, _, _, _, _, _, _, _, _, _, _, _, _, _, _, _, _, _, _, _, _, _, _, _, _, _, _, _, _, _, _, _, _, _, _, _, _, _, _, _, _, _, _, _, _, _, _, _, _, _, _, _, _, _, _, _, _, _, _, _, _, _, _, _, _, _, _, _, _, _, _, _, _, _, _, _, _, _, _, _, _, _, _, _, _, _, _, _, _, _, _, _, _, _, _, _, _, _, _, _, _, _, _, _, _, _, _, _, _, _, _, _, _, _, _, _, _, _, _, _, _, _, _, _, _, _, _, _, _, _, _, _, _, _, _, _, _, _, _, _, _, _, _, _, _, _, _, _, _, _, _, _, _, _, _, _, _, _, _, _, _, _, _, _, _, _, _, _, _, _, _, _, _, _, _, _, _, _, _, _, _, _, _, _, _, _, _, _, _, _, _, _, _, _, _, _, _, _, _, _, _, _, _, _, _, _, _, _, _, _, _, _, _, _, _, _, _, _, _, _, _, ⟨j + 1, by omega, s1, s2, hJ2⟩, rfl⟩
      · exact hlen
    · rcases h1 with ⟨h1, -⟩ | ⟨h1, p1, q1, rfl⟩
      case inl => omega
      rcases h2 with ⟨h2, -⟩ | ⟨h2, p2, q2, rfl⟩
      case inl => omega
      have hjn : j = N := by omega
      subst hjn
      go_wp2_with fail
      exact HH.out _ _ _ _ _ _ _ _ _ _ _ _ _ _ _ _ _ _ _ _ _ _ _ _ _ _ _ _ _ _ _ _ _ _ _ _ _ _ _ _ _ _ _ _ _ _ _ _ _ _ _ _ _ _ _ _ _ _ _ _ _ _ _ _ _ _ _ _ _ _ _ _ _ _ _ _ _ _ _ _ _ _ _ _ _ _ _ _ _ _ _ _ _ _ _ _ _ _ _ _ _ _ _ _ _ _ _ _ _ _ _ _ _ _ _ _ _ _ _ _ _ _ _ _ _ _ _ _ _ _ _ _ _ _ _ _ _ _ _ _ _ _ _ _ _ _ _ _ _ _ _ _ _ _ _ _ _ _ _ _ _ _ _ _ _ _ _ _ _ _ _ _ _ _ _ _ _ _ _ _ _ _ _ _ _ _ _ _ _ _ _ _ _ _ _ _ _ _ _ _ _ _ _ _ _ _ _ _ _ _ _ _ _ _ _ _ _ _ _ _ _ _ _ _ _ _ _ _ _ _ _ _ _ _ _ _ _ _ _ _ _ _ _ _ _ _ _ _ _ _ _ _ _ _ _ _ _ _ _ _ _ _ _ _ _ _ _ _ _ _ _ _ _ _ _ _ _ _ _ _ _ _ _ _ _ _ _ _ _ _ _ _ _ _ _ _ _ _ _ _ _ _ _ _ _ _ _ _ _ _ _ _ _ _ _ _ _ _ _ _ _ _ _ _ _ _ _ _ _ _ _ HJ.out
end Go.Proofs.Ytlafnkcmdnfcpaa
