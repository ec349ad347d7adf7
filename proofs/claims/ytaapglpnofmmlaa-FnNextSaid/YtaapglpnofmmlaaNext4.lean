/-
  The walk of laws.FnNext, behind its first script.
-/
import Derived.Test.YtaapglpnofmmlaaMakeN
import Derived.Test.YtaapglpnofmmlaaCutV
import Derived.Deep.QuietTactic
namespace Go.Proofs.Ytaapglpnofmmlaa
open Go Go.RowKit
set_option linter.unusedVariables false
attribute [local irreducible] Cha.iter Cha.rounds Cha.dbl Cha.qr ckOf run doA doN CK.ks withinB xs
noncomputable def nxBody : Code := Try.f11.body.getD .skip
noncomputable def nx4 : Code := rgt (rgt (rgt nxBody))
set_option maxRecDepth 100000 in
set_option maxHeartbeats 4000000 in
theorem nx4_c (R : Ending → World → Prop) (bk gA oA cA m n ca : Nat) (pa : Option Addr) (key nonce s0 : List UInt8) (long : Bool) (c d : UInt32) (r0 r1 r7 r8 r9 r10 r13 r14 r15 r16 r17 r18 r19 r20 r21 r22 r23 r24 r25 r26 r27 r28 r29 r30 r31 r32 r33 r34 r35 r36 r37 r38 r39 r40 r41 r42 r43 r44 r45 r46 r47 r48 r49 r50 r51 r52 r53 r54 r55 r56 r57 r58 r59 r60 r61 r62 r63 r64 r65 r66 r67 r68 r69 r70 r71 r72 r73 r74 : Value) (w : World) (hk : key.length = 32) (hnl : nonce.length = 24)
    (hbk : w.heap[bk]? = some (.cells (cells8 key) 27 (0, 0))) (hbn : w.heap[bk + 1]? = some (.cells (cells8 nonce) 28 (0, 0)))
    (hs : SlB w (.slice pa n ca) s0) (he : n = s0.length) (hm : m = 64 + n) (hd : d = c + 1) (hcd : c.toNat + 1 = d.toNat) (hin : n ≤ 1048576 ∧ 64 * d.toNat + n ≤ endK)
    (hA : SlB w (.slice (some ⟨gA, oA, none⟩) m cA) (xs (fun i => (ckOf key (nonL nonce long)).ks (64 * c.toNat + i)) (zerosN 64 ++ s0)))
    (h : ∀ w', Fresh w w' → R (.returned (.bool true)) w') : Code.wp Try.prog nx4 (bodyPost Try.prog Try.f11 R) ⟨#[r0, r1, .bool long, .int .u32 (u32 c), .slice pa n ca, .pointer (some ⟨bk, 0, none⟩), .pointer (some ⟨bk + 1, 0, none⟩), r7, r8, r9, r10, .slice (some ⟨gA, oA, none⟩) m cA, .bool true, r13, r14, r15, r16, r17, r18, r19, r20, r21, r22, r23, r24, r25, r26, r27, r28, r29, r30, r31, r32, r33, r34, r35, r36, r37, r38, r39, r40, r41, r42, r43, r44, r45, r46, r47, r48, r49, r50, r51, r52, r53, r54, r55, r56, r57, r58, r59, r60, r61, r62, r63, r64, r65, r66, r67, r68, r69, r70, r71, r72, r73, r74], []⟩ w := by
  conv => arg 2; whnf
  dsimp only
  have HKL := Lib.hid hk
  have HNL := Lib.hid hnl
  have h1 := cells8_one key
  have h2 := cells8_one nonce
  have HBK := Lib.hid hbk
  have HBN := Lib.hid hbn
  have HS := Lib.hid hs
  have HE := Lib.hid he
  have HCD := Lib.hid hcd
  have HWI := Lib.hid hin
  have HA0 := Lib.hid hA
  have HH := Lib.hid h
  have hd1 : IntKind.u32.wrap (u32 c + 1) = u32 d := by rw [hd]; exact wrap_inc32 c
  have hmi : (64 : Int) + (n : Int) = (m : Int) := by omega
  have hm64 : (64 : Int) ≤ m := by omega
  have hmw : IntKind.i64.wrap (m : Int) = (m : Int) := by have := hin.1; rw [IntKind.wrap_i64]; omega
  have HM := Lib.hid hm
  clear hk hnl hbk hbn hs he hcd hin hA h hd hm
  have HXL : Hid (∀ z, (xs z s0).length = n) := Lib.hid (fun z => by rw [xs_len]; exact HE.out.symm)
  have HB0 : Hid (∀ z : Nat → UInt8, (xs (fun i => z (64 * c.toNat + i)) (zerosN 64 ++ s0)).drop 64 = xs (fun i => z (64 * d.toNat + i)) s0) := Lib.hid (fun z => by
    rw [xs_drop _ _ _ (by rw [List.length_append, zerosN_len]; omega), List.drop_left' (zerosN_len 64)]
    apply xs_congr
    intro i _
    rw [show 64 * c.toNat + (64 + i) = 64 * d.toNat + i by have := HCD.out; omega])
  have HF0 : Hid (Fresh w w) := Lib.hid (Keeps.refl _ w)
  apply wp_seq
  refine wp_region_ord (fun w' => Fresh w w') [(0, true), (1, true), (2, true), (4, true), (5, true), (7, true), (3, false), (6, false), (8, false), (9, false), (10, false), (11, true), (12, true), (14, true), (13, true), (15, true)] (by kernel_rfl) (by kernel_rfl) ((Keeps.refl _ w).drew) ?_
  have HA1_ : Hid (Fresh w w) := Lib.hid (Keeps.refl _ _)
  have HA2_ : Hid (Fresh w w.drew) := Lib.hid (HF0.out.drew)
  have HA3_ : Hid (Fresh w w.drew) := Lib.hid (HF0.out.drew)
  have HA4_ : Hid (Fresh w w.drew) := Lib.hid (HA1_.out.drew)
  refine ord_load (.agg (cells8 key)) rfl (by rfl) (fun w' hw' => load32 _ rfl rfl HKL.out HBK.out (HF0.out.trans hw')) ?_
  refine ord_load (.agg (cells8 nonce)) rfl (by rfl) (fun w' hw' => load24 _ rfl rfl HNL.out HBN.out (HF0.out.trans hw')) ?_
  iterate 4 (refine ord_quiet rfl (fun K hK => ?_); go_simp; refine hK _ ?_; clear hK K)
  refine ord_loud rfl (fun K hK => ?_)
  go_wp2_with fail
  refine (nonceOf_c nonce long _ HNL.out).mono ?_
  rintro e w5_ ⟨vN, rfl, hs, hf⟩
  obtain ⟨p6_, c7_, rfl⟩ := hs.slice
  have HN8_ := Lib.hid hs
  have HA9_ : Hid (Fresh w w5_) := Lib.hid (HA2_.out.trans hf)
  have HA10_ : Hid (Fresh w w5_) := Lib.hid (HA3_.out.trans hf)
  have HA11_ : Hid (Fresh w w5_) := Lib.hid (HA4_.out.trans hf)
  clear hs hf
  have HA12_ : Hid (Fresh w5_ w5_) := Lib.hid (Keeps.refl _ _)
  go_wp2_with fail
  refine hK _ _ HA11_.out ?_
  clear hK K
  refine ord_loud rfl (fun K hK => ?_)
  go_wp2_with fail
  refine (at_c (d) _).mono ?_
  rintro e w13_ ⟨rfl, hf⟩
  have HA14_ : Hid (Fresh w w13_) := Lib.hid (HA9_.out.trans hf)
  have HA15_ : Hid (Fresh w w13_) := Lib.hid (HA10_.out.trans hf)
  have HA16_ : Hid (Fresh w w13_) := Lib.hid (HA11_.out.trans hf)
  have HA17_ : Hid (Fresh w5_ w13_) := Lib.hid (HA12_.out.trans hf)
  clear hf
  try simp only [stV, atS]
  go_wp2_with fail
  refine hK _ _ HA16_.out ?_
  clear hK K
  refine ord_loud rfl (fun K hK => ?_)
  go_wp2_with fail
  refine (into_c (.slice pa n ca) (s0) _ (HS.out.fresh HA14_.out)).mono ?_
  rintro e w18_ ⟨rfl, hf⟩
  have HA19_ : Hid (Fresh w w18_) := Lib.hid (HA14_.out.trans hf)
  have HA20_ : Hid (Fresh w w18_) := Lib.hid (HA15_.out.trans hf)
  have HA21_ : Hid (Fresh w w18_) := Lib.hid (HA16_.out.trans hf)
  have HA22_ : Hid (Fresh w5_ w18_) := Lib.hid (HA17_.out.trans hf)
  clear hf
  try simp only [stV, intoS]
  go_wp2_with fail
  refine hK _ _ HA21_.out ?_
  clear hK K
  refine ord_loud rfl (fun K hK => ?_)
  go_wp2_with fail
  generalize hw24_ : w18_.alloc _ = w23_
  have HA26_ : Hid (Fresh w w23_) := Lib.hid ((by rw [← hw24_]; exact HA19_.out.alloc _))
  have HA27_ : Hid (Fresh w w23_) := Lib.hid ((by rw [← hw24_]; exact HA20_.out.alloc _))
  have HA28_ : Hid (Fresh w w23_) := Lib.hid ((by rw [← hw24_]; exact HA21_.out.alloc _))
  have HA29_ : Hid (Fresh w5_ w23_) := Lib.hid ((by rw [← hw24_]; exact HA22_.out.alloc _))
  have HB25_ := Lib.hid hw24_
  clear hw24_
  refine hK _ _ HA28_.out ?_
  clear hK K
  refine ord_loud rfl (fun K hK => ?_)
  go_wp2_with fail
  refine (ran_lit (.slice p6_ (nonL nonce long).length c7_) _ key (nonL nonce long) (xs (fun i => (ckOf key (nonL nonce long)).ks (64 * d.toNat + i)) s0) [(.slice none 0 0, atS (d)), (.slice pa n ca, intoS (s0))] _ HKL.out (HN8_.out.fresh HA29_.out) (nonL_len HNL.out long) (StepsL.lit (b := w18_.heap.size) [(.slice none 0 0, atS (d)), (.slice pa n ca, intoS (s0))] (by rw [← HB25_.out]; exact heap_alloc_new _ _) rfl (Nat.le_of_ble_eq_true rfl) ?_) (Nat.le_of_ble_eq_true rfl) ?_ (Ran.one _ d s0 (by rw [← HE.out]; exact HWI.out.2)) (by rw [HXL.out]; have := HWI.out.1; omega)).mono ?_
  · intro q hq; simp only [List.mem_cons, List.not_mem_nil, or_false] at hq; rcases hq with rfl | rfl
    · exact SlB.nil _
    · exact HS.out.fresh HA26_.out
  · intro q hq; simp only [List.mem_cons, List.not_mem_nil, or_false] at hq; rcases hq with rfl | rfl
    · exact okAt _
    · exact okInto (by rw [← HE.out]; have := HWI.out.1; omega)
  rintro e w30_ ⟨v31_, rfl, ho, hf⟩
  obtain ⟨p32_, c33_, hv⟩ := ho.slice
  rw [HXL.out] at hv
  subst hv
  have HO34_ := Lib.hid ho.sl
  have HA35_ : Hid (Fresh w w30_) := Lib.hid (HA26_.out.trans hf)
  have HA36_ : Hid (Fresh w w30_) := Lib.hid (HA27_.out.trans hf)
  have HA37_ : Hid (Fresh w w30_) := Lib.hid (HA28_.out.trans hf)
  have HA38_ : Hid (Fresh w5_ w30_) := Lib.hid (HA29_.out.trans hf)
  clear ho hf
  have HA39_ : Hid (Fresh w30_ w30_) := Lib.hid (Keeps.refl _ _)
  go_wp2_with fail
  refine hK _ _ HA37_.out ?_
  clear hK K
  iterate 5 (refine ord_quiet rfl (fun K hK => ?_); go_simp; refine hK _ ?_; clear hK K)
  refine ord_last ?_
  go_wp2_with fail
  refine wp_region_ord (fun w' => Fresh w30_ w') [(0, true), (1, true), (2, true), (3, true), (4, true), (5, true), (6, true), (7, true), (8, true), (9, true), (10, true), (11, true), (12, true), (13, true), (14, true), (15, true), (16, true), (17, true), (18, true), (19, true), (20, true)] (by kernel_rfl) (by kernel_rfl) ((Keeps.refl _ w30_).drew) ?_
  have HA40_ : Hid (Fresh w30_ w30_) := Lib.hid (Keeps.refl _ _)
  have HA41_ : Hid (Fresh w w30_.drew) := Lib.hid (HA35_.out.drew)
  have HA42_ : Hid (Fresh w w30_.drew) := Lib.hid (HA36_.out.drew)
  have HA43_ : Hid (Fresh w30_ w30_.drew) := Lib.hid (HA39_.out.drew)
  have HA44_ : Hid (Fresh w30_ w30_.drew) := Lib.hid (HA40_.out.drew)
  iterate 14 (refine ord_quiet rfl (fun K hK => ?_); go_simp; refine hK _ ?_; clear hK K)
  refine ord_load (cutV (some ⟨gA, oA, none⟩) m cA 64) rfl (by rfl) (fun w' hw' => exec_cutV _ _ rfl rfl rfl (by have := HM.out; omega) _) ?_
  refine ord_load (.string (strB ((xs (fun i => (ckOf key (nonL nonce long)).ks (64 * c.toNat + i)) (zerosN 64 ++ s0)).drop 64))) rfl (by rfl) (fun w' hw' => ?_) ?_
  · have hr := run_strB w' _ _ ((show SlB w' (cutV (some ⟨gA, oA, none⟩) m cA 64) ((xs (fun i => (ckOf key (nonL nonce long)).ks (64 * c.toNat + i)) (zerosN 64 ++ s0)).drop 64) from SlB.cutV (HA0.out.fresh (HA35_.out.trans hw')) (by rw [xs_len, List.length_append, zerosN_len, ← HE.out]; exact HM.out) (by have := HM.out; omega)))
    go_simp
  iterate 1 (refine ord_quiet rfl (fun K hK => ?_); go_simp; refine hK _ ?_; clear hK K)
  refine ord_load (.string (strB ((xs (fun i => (ckOf key (nonL nonce long)).ks (64 * c.toNat + i)) (zerosN 64 ++ s0)).drop 64))) rfl (by rfl) (fun w' hw' => ?_) ?_
  · have hr := run_strB w' _ _ ((show SlB w' (.slice p32_ n c33_) ((xs (fun i => (ckOf key (nonL nonce long)).ks (64 * c.toNat + i)) (zerosN 64 ++ s0)).drop 64) from by rw [HB0.out]; exact HO34_.out.fresh (HA39_.out.trans hw')))
    go_simp
  iterate 3 (refine ord_quiet rfl (fun K hK => ?_); go_simp; refine hK _ ?_; clear hK K)
  refine ord_last ?_
  go_wp2_with fail
  exact HH.out _ HA41_.out
end Go.Proofs.Ytaapglpnofmmlaa
