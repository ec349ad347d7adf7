/-
  Contract: xorKeyStreamBlocksGeneric.
-/
import Derived.Test.YtlafnkcmdnfcpaaBlkL
import Derived.Test.YtlafnkcmdnfcpaaChaSmall
import Derived.Test.YtlafnkcmdnfcpaaOrd
import Derived.BigQuiet
namespace Go.Proofs.Ytlafnkcmdnfcpaa
open Go Go.RowKit
set_option linter.unusedVariables false
attribute [local irreducible] Cha.iter Cha.rounds Cha.dbl Cha.qr
/-- the words of the key, the counter and the nonce -/
def HCells (w : World) (b : Nat) (c4 c5 c6 c7 c8 c9 c10 c11 c13 c14 c15 c : UInt32) : Prop :=
  (w.cell? ⟨b, 0, none⟩ = some (.int .u32 (u32 c4)) ∧ w.cell? ⟨b, 1, none⟩ = some (.int .u32 (u32 c5)) ∧ w.cell? ⟨b, 2, none⟩ = some (.int .u32 (u32 c6)) ∧ w.cell? ⟨b, 3, none⟩ = some (.int .u32 (u32 c7)) ∧ w.cell? ⟨b, 4, none⟩ = some (.int .u32 (u32 c8)) ∧ w.cell? ⟨b, 5, none⟩ = some (.int .u32 (u32 c9)) ∧ w.cell? ⟨b, 6, none⟩ = some (.int .u32 (u32 c10)) ∧ w.cell? ⟨b, 7, none⟩ = some (.int .u32 (u32 c11))) ∧ w.cell? ⟨b, 8, none⟩ = some (.int .u32 (u32 c)) ∧ w.cell? ⟨b, 9, none⟩ = some (.int .u32 (u32 c13)) ∧ w.cell? ⟨b, 10, none⟩ = some (.int .u32 (u32 c14)) ∧ w.cell? ⟨b, 11, none⟩ = some (.int .u32 (u32 c15))
set_option maxRecDepth 1000000 in
set_option maxHeartbeats 40000000 in
theorem blocks_done (J : Nat → World → Prop) (N b bd od cd bs os cs : Nat) (c4 c5 c6 c7 c8 c9 c10 c11 c13 c14 c15 c : UInt32) (w : World) (hh : HCells w b c4 c5 c6 c7 c8 c9 c10 c11 c13 c14 c15 c) (hpre : w.cell? ⟨b, 78, none⟩ = some (.bool true)) (H : Blocks J N b bd od bs os 0x61707865 0x3320646e 0x79622d32 0x6b206574 c4 c5 c6 c7 c8 c9 c10 c11 c13 c14 c15 c) (hJ : J 0 w)
    (hcd : 64 * N ≤ cd) (hcs : 64 * N ≤ cs) (hmx : 64 * N ≤ 140737488355328) :
    Calls Try.prog 71 #[.pointer (some ⟨b, 0, none⟩), .slice (some ⟨bd, od, none⟩) (64 * N) cd, .slice (some ⟨bs, os, none⟩) (64 * N) cs] w fun e w' => e = .returned (.tuple #[]) ∧ J N w' := by
  obtain ⟨⟨k0, k1, k2, k3, k4, k5, k6, k7⟩, k8, n0, n1, n2⟩ := hh
  have HB := Lib.hid H
  have HJ := Lib.hid hJ
  obtain ⟨n, hn⟩ : ∃ n, n = 64 * N := ⟨_, rfl⟩
  rw [← hn]
  have hrem : (n : Int).tmod 64 = 0 := by rw [Int.tmod_eq_emod_of_nonneg (by omega)]; omega
  have HN := Lib.hid hn
  clear H hJ hn
  go_enter Try.func71, Try.ntmps71
  go_wp2_with fail
  go_quiet (fail)
  go_wp2_with fail
  go_quiet (fail)
  go_wp2_with fail
  go_quiet (fail)
  go_wp2_with fail
  refine blkL_c _ J N b bd od cd bs os cs 0x61707865 0x3320646e 0x79622d32 0x6b206574 c4 c5 c6 c7 c8 c9 c10 c11 c13 c14 c15 c n HN.out _ _ _ _ _ _ _ _ _ _ _ _ _ _ _ _ _ _ _ _ _ _ _ _ _ _ _ _ _ _ _ _ _ _ _ _ _ _ _ _ _ _ _ _ _ _ _ _ _ _ _ _ _ _ _ _ _ _ _ _ _ _ _ _ _ _ _ _ _ _ _ _ _ _ _ _ _ _ _ _ _ _ _ _ _ _ _ _ _ _ _ _ _ _ _ _ _ _ _ _ _ _ _ _ _ _ _ _ _ _ _ _ _ _ _ _ _ _ _ _ _ _ _ _ _ _ _ _ _ _ _ _ _ _ _ _ _ _ _ _ _ _ _ _ _ _ _ _ _ _ _ _ _ _ _ _ _ _ _ _ _ _ _ _ _ _ _ _ _ _ _ _ _ _ _ _ _ _ _ _ _ _ _ _ _ _ _ _ _ _ _ _ _ _ _ _ _ _ _ _ _ _ _ _ _ _ _ _ _ _ _ _ _ _ _ _ _ _ _ _ _ _ _ _ _ _ _ _ _ _ _ _ _ _ _ _ _ _ _ _ _ _ _ _ _ _ _ _ _ _ _ _ _ _ _ _ _ _ _ _ _ _ _ _ _ _ _ _ _ _ _ _ _ _ _ _ _ _ _ _ _ _ _ _ _ _ _ _ _ _ _ _ _ _ _ _ _ _ _ _ _ _ _ _ _ _ _ _ _ _ _ _ _ _ _ _ _ _ _ _ _ _ _ _ _ _ _ _ _ _ _ _ _ _ _ _ _ _ _ _ _ _ _ _ _ _ _ _ _ _ _ _ _ _ _ _ _ _ _ _ _ _ _ _ _ _ _ _ _ _ _ _ _ _ _ _ _ _ _ _ _ _ _ _ _ _ _ _ _ _ _ _ _ _ _ _ _ _ _ _ _ _ _ _ _ _ _ _ _ _ _ _ _ _ _ _ _ _ _ _ _ _ _ _ _ _ _ _ _ _ _ _ _ _ _ _ _ _ _ _ _ _ _ _ _ _ _ _ _ _ _ _ _ _ _ _ _ _ _ _ _ _ _ _ _ _ _ _ _ _ _ _ _ _ _ _ _ _ HB.out (by repeat (first | exact HJ.out | refine HB.out.drewN _ _ _ ?_)) hcd hcs hmx ?_
  intro V1 V2 q22 q23 q24 q25 q26 q27 q28 q29 q30 q31 q32 q33 q34 q35 q36 q37 q38 q39 q40 q41 q42 q188 q189 q190 q191 q192 q193 q194 q195 q196 q197 q198 q199 q200 q201 q202 q203 q204 q205 q206 q207 q208 q209 q210 q211 q212 q213 q214 q215 q216 q217 q218 q219 q220 q221 q222 q223 q224 q225 q226 q227 q228 q229 q230 q231 q232 q233 q234 q235 q236 q237 q238 q239 q240 q241 q242 q243 q244 q245 q246 q247 q248 q249 q250 q251 q252 q253 q254 q255 q256 q257 q258 q259 q260 q261 q262 q263 q264 q265 q266 q267 q268 q269 q270 q271 q272 q273 q274 q275 q276 q277 q278 q279 q280 q281 q282 q283 q284 q285 q286 q287 q288 q289 q290 q291 q292 q293 q294 q295 q296 q297 q298 q299 q300 q301 q302 q303 q304 q305 q306 q307 q308 q309 q310 q311 q312 q313 q314 q315 q316 q317 q318 q319 q320 q321 q322 q323 q324 q325 q326 q327 q328 q329 q330 q331 q332 q333 q334 q335 q336 q337 q338 q339 q340 q341 q342 q343 q344 q345 q346 q347 q348 q349 q350 q351 q352 q353 q354 q355 q356 q357 q358 q359 q360 q361 q362 q363 q364 q365 q366 q367 q368 q369 q370 q371 q372 q373 q374 q375 q376 q377 q378 q379 q380 q381 q382 q383 q384 q385 q386 q387 q388 q389 q390 q391 q392 q393 q394 q395 q396 q397 q398 q399 q400 q401 q402 q403 q404 q405 q406 q407 q408 q409 q410 q411 q412 q413 q414 q415 q416 q417 q418 q419 q420 q421 q422 q423 q424 q425 q426 q427 q428 q429 q430 q431 q432 q433 q434 q435 q436 q437 q438 q439 q440 q441 q442 q443 q444 q445 q446 q447 q448 q449 q450 q451 q452 q453 q454 q455 q456 q457 q458 q459 q460 q461 q462 q463 q464 q465 q466 q467 q468 q469 q470 q471 q472 q473 q474 q475 q476 q477 q478 q479 q480 q481 q482 q483 q484 q485 q486 q487 q488 q489 q490 q491 q492 q493 q494 wz hz
  dsimp only [Exit.inBlock]
  go_wp2_with fail
  go_end0
  exact ⟨rfl, hz⟩
end Go.Proofs.Ytlafnkcmdnfcpaa
