/-
  The walk of laws.FnLast.
-/
import Derived.Test.YtaapglpnofmmlaaStreamC
import Derived.Test.YtaapglpnofmmlaaHeld
import Derived.Deep.QuietTactic
namespace Go.Proofs.Ytaapglpnofmmlaa
open Go Go.RowKit
set_option linter.unusedVariables false
attribute [local irreducible] Cha.iter Cha.rounds Cha.dbl Cha.qr ckOf run doA doN CK.ks withinB xs
noncomputable def ltBody : Code := Try.f9.body.getD .skip
noncomputable def lt3 : Code := rgt (rgt (rgt ltBody))
theorem last64 (K : CK) (k : Nat) : xs (fun i => K.ks (64 * (4294967295 : UInt32).toNat + i)) (zerosN k) = ksL K 274877906880 k := xs_zeros K 274877906880 k
set_option maxRecDepth 100000 in
set_option maxHeartbeats 4000000 in
theorem lt3_c (R : Ending → World → Prop) (bk k ca : Nat) (pa : Option Addr) (key nonce : List UInt8) (long : Bool) (r0 r1 r3 r6 r7 r8 r12 r13 r14 r15 r16 r17 r18 r19 r20 r21 r22 r23 r24 r25 r26 r27 r28 r29 r30 r31 r32 r33 r34 r35 r36 r37 r38 r39 r40 r41 r42 r43 r44 r45 r46 : Value) (w : World) (hk : key.length = 32) (hnl : nonce.length = 24)
    (hbk : w.heap[bk]? = some (.cells (cells8 key) 27 (0, 0))) (hbn : w.heap[bk + 1]? = some (.cells (cells8 nonce) 28 (0, 0)))
    (hin : k ≤ 64) (hA : SlB w (.slice pa k ca) (ksL (ckOf key (nonL nonce long)) 274877906880 k))
    (h : ∀ w', Fresh w w' → R (.returned (.bool true)) w') : Code.wp Try.prog lt3 (bodyPost Try.prog Try.f9 R) ⟨#[r0, r1, .bool long, r3, .pointer (some ⟨bk, 0, none⟩), .pointer (some ⟨bk + 1, 0, none⟩), r6, r7, r8, .int .i64 (k : Int), .slice pa k ca, .bool true, r12, r13, r14, r15, r16, r17, r18, r19, r20, r21, r22, r23, r24, r25, r26, r27, r28, r29, r30, r31, r32, r33, r34, r35, r36, r37, r38, r39, r40, r41, r42, r43, r44, r45, r46], []⟩ w := by
  conv => arg 2; whnf
  dsimp only
  have HKL := Lib.hid hk
  have HNL := Lib.hid hnl
  have h1 := cells8_one key
  have h2 := cells8_one nonce
  have HBK := Lib.hid hbk
  have HBN := Lib.hid hbn
  have HWI := Lib.hid hin
  have HA0 := Lib.hid hA
  have HH := Lib.hid h
  clear hk hnl hbk hbn hin hA h
  have HF0 : Hid (Fresh w w) := Lib.hid (Keeps.refl _ w)
  apply wp_seq
  refine wp_region_ord (fun w' => Fresh w w') [(0, true), (1, true), (2, true), (3, true), (4, true), (5, true), (6, true), (8, true), (7, false), (9, false), (10, false), (11, true), (12, true), (13, true), (14, true), (15, true), (16, true), (17, true), (18, true), (19, true)] (by kernel_rfl) (by kernel_rfl) ((Keeps.refl _ w).drew) ?_
  have HA1_ : Hid (Fresh w w) := Lib.hid (Keeps.refl _ _)
  have HA2_ : Hid (Fresh w w.drew) := Lib.hid (HF0.out.drew)
  have HA3_ : Hid (Fresh w w.drew) := Lib.hid (HF0.out.drew)
  have HA4_ : Hid (Fresh w w.drew) := Lib.hid (HA1_.out.drew)
  iterate 3 (refine ord_quiet rfl (fun K hK => ?_); go_simp; refine hK _ ?_; clear hK K)
  refine ord_load (.string (strB (ksL (ckOf key (nonL nonce long)) 274877906880 k))) rfl (by rfl) (fun w' hw' => ?_) ?_
  · have hr := run_strB w' _ _ (HA0.out.fresh (HF0.out.trans hw'))
    go_simp
  iterate 1 (refine ord_quiet rfl (fun K hK => ?_); go_simp; refine hK _ ?_; clear hK K)
  refine ord_load (.agg (cells8 nonce)) rfl (by rfl) (fun w' hw' => load24 _ rfl rfl HNL.out HBN.out (HF0.out.trans hw')) ?_
  iterate 2 (refine ord_quiet rfl (fun K hK => ?_); go_simp; refine hK _ ?_; clear hK K)
  refine ord_loud rfl (fun K hK => ?_)
  go_wp2_with fail
  refine (nonceOf_c nonce long _ HNL.out).mono ?_
  rintro e w5_ ⟨vN, rfl, hs, hf⟩
  obtain ⟨p6_, c7_, rfl⟩ := hs.slice
  have HN8_ := Lib.hid hs
  have HA9_ : Hid (Fresh w w5_) := Lib.hid (HA2_.out.trans hf)
  have HA10_ : Hid (Fresh w w5_) := Lib.hid (HA3_.out.trans hf)
  have HA11_ : Hid (Fresh w w5_) := Lib.hid (HA4_.out.trans hf)
  clear hs hf
  have HA12_ : Hid (Fresh w5_ w5_) := Lib.hid (Keeps.refl _ _)
  go_wp2_with fail
  refine hK _ _ HA11_.out ?_
  clear hK K
  refine ord_loud rfl (fun K hK => ?_)
  go_wp2_with fail
  refine (stream_c bk 0 32 (.slice p6_ (nonL nonce long).length c7_) 274877906880 k 274877906880 rfl key (nonL nonce long) _ HKL.out (nonL_len HNL.out long) (BytesAt.of_block (HA9_.out.at HBK.out)) (HN8_.out.fresh HA12_.out) (by have := HWI.out; unfold endK; omega)).mono ?_
  rintro e w13_ ⟨vF, rfl, ho, hf⟩
  obtain ⟨pF, cF, rfl⟩ := ho.slice
  have hrF := run_strB _ _ _ ho.sl
  rw [ksL_len] at hrF ⊢
  have HA14_ : Hid (Fresh w w13_) := Lib.hid (HA9_.out.trans hf)
  have HA15_ : Hid (Fresh w w13_) := Lib.hid (HA10_.out.trans hf)
  have HA16_ : Hid (Fresh w w13_) := Lib.hid (HA11_.out.trans hf)
  have HA17_ : Hid (Fresh w5_ w13_) := Lib.hid (HA12_.out.trans hf)
  clear hf ho
  go_wp2_with fail
  refine hK _ _ HA16_.out ?_
  clear hK K
  refine ord_loud rfl (fun K hK => ?_)
  go_wp2_with fail
  refine hK _ _ HA16_.out ?_
  clear hK K
  iterate 9 (refine ord_quiet rfl (fun K hK => ?_); go_simp; refine hK _ ?_; clear hK K)
  refine ord_last ?_
  go_wp2_with fail
  exact HH.out _ HA14_.out
set_option maxRecDepth 100000 in
set_option maxHeartbeats 4000000 in
theorem fnLast_c (key nonce : List UInt8) (long : Bool) (x : UInt8) (w : World) (hk : key.length = 32) (hnl : nonce.length = 24) :
    Calls Try.prog 9 #[.agg (cells8 key), .agg (cells8 nonce), .bool long, .int .u8 (u8 x)] w fun e w' => e = .returned (.bool true) ∧ Fresh w w' := by
  have HKL := Lib.hid hk
  have HNL := Lib.hid hnl
  have h1 := cells8_one key
  have h2 := cells8_one nonce
  clear hk hnl
  obtain ⟨k, hr⟩ : ∃ k : Nat, k = x.toNat % 65 := ⟨_, rfl⟩
  have hr1 : k ≤ 64 := by omega
  have q0 : (u8 x).tmod 65 = (k : Int) := by unfold u8; rw [Int.tmod_eq_emod_of_nonneg (by omega)]; omega
  have q1 : IntKind.i64.wrap (u8 x) = u8 x := by have := x.toNat_lt; unfold u8; rw [IntKind.wrap_i64]; omega
  have q2 : IntKind.i64.wrap (k : Int) = (k : Int) := by rw [IntKind.wrap_i64]; omega
  have hmk := fun W : World => makeN k W (by omega)
  have HR := Lib.hid hr1
  have HXL : Hid (∀ K : CK, (ksL K 274877906880 k).length = k) := Lib.hid (fun K => ksL_len _ _ _)
  clear hr
  go_enter Try.func9, Try.ntmps9
  refine wp_seq_hold (fun K0 HK0 => ?_)
  go_wp2_with fail
  have HBK := Lib.hid (heap_alloc2_old w (.cells (cells8 key) 27) (.cells (cells8 nonce) 28))
  have HBN := Lib.hid (heap_alloc2_new w (.cells (cells8 key) 27) (.cells (cells8 nonce) 28))
  have HF2 : Hid (Fresh w ((w.alloc (.cells (cells8 key) 27)).alloc (.cells (cells8 nonce) 28))) := Lib.hid (((Keeps.refl _ w).alloc _).alloc _)
  generalize ((w.alloc (.cells (cells8 key) 27)).alloc (.cells (cells8 nonce) 28)) = w2 at HBK HBN HF2 ⊢
  refine HK0.out _ _ ?_
  clear HK0
  refine wp_seq_hold (fun K1 HK1 => ?_)
  go_wp2_with fail
  refine HK1.out _ _ ?_
  clear HK1
  refine wp_seq_hold (fun K2 HK2 => ?_)
  go_wp2_with fail
  have HA1_ : Hid (Fresh w2 w2) := Lib.hid (Keeps.refl _ _)
  refine wp_region_wa (fun w' => Fresh w2 w') 15 rfl (by kernel_rfl) ?_
  have HA2_ : Hid (Fresh w2 w2) := Lib.hid (Keeps.refl _ _)
  have HA3_ : Hid (Fresh w w2.drew) := Lib.hid (HF2.out.drew)
  have HA4_ : Hid (Fresh w2 w2.drew) := Lib.hid (HA1_.out.drew)
  have HA5_ : Hid (Fresh w2 w2.drew) := Lib.hid (HA2_.out.drew)
  refine wa_load 0 (.agg (cells8 key)) (by kernel_rfl) rfl HA5_.out (by rfl) (fun w' hw' => load32 _ rfl rfl HKL.out HBK.out (HA1_.out.trans hw')) ?_
  refine wa_load 1 (.agg (cells8 nonce)) (by kernel_rfl) rfl HA5_.out (by rfl) (fun w' hw' => load24 _ rfl rfl HNL.out HBN.out (HA1_.out.trans hw')) ?_
  refine wa_quiet 2 (by kernel_rfl) rfl HA5_.out (fun K hK => ?_); go_simp; refine hK _ ?_; clear hK K
  refine wa_quiet 5 (by kernel_rfl) rfl HA5_.out (fun K hK => ?_); go_simp; refine hK _ ?_; clear hK K
  refine wa_all [3, 6] (by kernel_rfl) (by decide) (fun i hi => ?_)
  simp only [List.mem_cons, List.not_mem_nil, or_false] at hi
  rcases hi with rfl | rfl
  · refine wa_loud rfl (fun K hK => ?_)
    go_wp2_with fail
    refine (nonceOf_c nonce long _ HNL.out).mono ?_
    rintro e w6_ ⟨vN, rfl, hs, hf⟩
    obtain ⟨p7_, c8_, rfl⟩ := hs.slice
    have HN9_ := Lib.hid hs
    have HA10_ : Hid (Fresh w w6_) := Lib.hid (HA3_.out.trans hf)
    have HA11_ : Hid (Fresh w2 w6_) := Lib.hid (HA4_.out.trans hf)
    have HA12_ : Hid (Fresh w2 w6_) := Lib.hid (HA5_.out.trans hf)
    clear hs hf
    have HA13_ : Hid (Fresh w6_ w6_) := Lib.hid (Keeps.refl _ _)
    go_wp2_with fail
    refine hK _ _ HA12_.out ?_
    clear hK K
    refine wa_all [4, 6] (by kernel_rfl) (by decide) (fun i hi => ?_)
    simp only [List.mem_cons, List.not_mem_nil, or_false] at hi
    rcases hi with rfl | rfl
    · refine wa_loud rfl (fun K hK => ?_)
      go_wp2_with fail
      refine (at_lit (4294967295 : UInt32) 4294967295 rfl _).mono ?_
      rintro e w14_ ⟨rfl, hf⟩
      have HA15_ : Hid (Fresh w w14_) := Lib.hid (HA10_.out.trans hf)
      have HA16_ : Hid (Fresh w2 w14_) := Lib.hid (HA11_.out.trans hf)
      have HA17_ : Hid (Fresh w2 w14_) := Lib.hid (HA12_.out.trans hf)
      have HA18_ : Hid (Fresh w6_ w14_) := Lib.hid (HA13_.out.trans hf)
      clear hf
      try simp only [stV, atS]
      go_wp2_with fail
      refine hK _ _ HA17_.out ?_
      clear hK K
      refine wa_all [6] (by kernel_rfl) (by decide) (fun i hi => ?_)
      simp only [List.mem_cons, List.not_mem_nil, or_false] at hi
      subst hi
      refine wa_loud rfl (fun K hK => ?_)
      go_wp2_with fail
      generalize hw20_ : w14_.alloc _ = w19_
      have HM21_ : Hid (SlB w19_ (.slice (some ⟨w14_.heap.size, 0, none⟩) k k) (zerosN k)) := Lib.hid (by rw [← hw20_]; exact makeN_sl k _ (by have := HR.out; omega))
      have HA23_ : Hid (Fresh w w19_) := Lib.hid ((by rw [← hw20_]; exact HA15_.out.alloc _))
      have HA24_ : Hid (Fresh w2 w19_) := Lib.hid ((by rw [← hw20_]; exact HA16_.out.alloc _))
      have HA25_ : Hid (Fresh w2 w19_) := Lib.hid ((by rw [← hw20_]; exact HA17_.out.alloc _))
      have HA26_ : Hid (Fresh w6_ w19_) := Lib.hid ((by rw [← hw20_]; exact HA18_.out.alloc _))
      clear hw20_
      have HA27_ : Hid (Fresh w19_ w19_) := Lib.hid (Keeps.refl _ _)
      refine hK _ _ HA25_.out ?_
      clear hK K
      refine wa_all [7] (by kernel_rfl) (by decide) (fun i hi => ?_)
      simp only [List.mem_cons, List.not_mem_nil, or_false] at hi
      subst hi
      refine wa_loud rfl (fun K hK => ?_)
      go_wp2_with fail
      refine (into_c (.slice (some ⟨w14_.heap.size, 0, none⟩) k k) (zerosN k) _ (HM21_.out.fresh HA27_.out)).mono ?_
      rintro e w28_ ⟨rfl, hf⟩
      have HA29_ : Hid (Fresh w w28_) := Lib.hid (HA23_.out.trans hf)
      have HA30_ : Hid (Fresh w2 w28_) := Lib.hid (HA24_.out.trans hf)
      have HA31_ : Hid (Fresh w2 w28_) := Lib.hid (HA25_.out.trans hf)
      have HA32_ : Hid (Fresh w6_ w28_) := Lib.hid (HA26_.out.trans hf)
      have HA33_ : Hid (Fresh w19_ w28_) := Lib.hid (HA27_.out.trans hf)
      clear hf
      try simp only [stV, intoS]
      go_wp2_with fail
      refine hK _ _ HA31_.out ?_
      clear hK K
      refine wa_all [8] (by kernel_rfl) (by decide) (fun i hi => ?_)
      simp only [List.mem_cons, List.not_mem_nil, or_false] at hi
      subst hi
      refine wa_loud rfl (fun K hK => ?_)
      go_wp2_with fail
      generalize hw35_ : w28_.alloc _ = w34_
      have HA37_ : Hid (Fresh w w34_) := Lib.hid ((by rw [← hw35_]; exact HA29_.out.alloc _))
      have HA38_ : Hid (Fresh w2 w34_) := Lib.hid ((by rw [← hw35_]; exact HA30_.out.alloc _))
      have HA39_ : Hid (Fresh w2 w34_) := Lib.hid ((by rw [← hw35_]; exact HA31_.out.alloc _))
      have HA40_ : Hid (Fresh w6_ w34_) := Lib.hid ((by rw [← hw35_]; exact HA32_.out.alloc _))
      have HA41_ : Hid (Fresh w19_ w34_) := Lib.hid ((by rw [← hw35_]; exact HA33_.out.alloc _))
      have HB36_ := Lib.hid hw35_
      clear hw35_
      refine hK _ _ HA39_.out ?_
      clear hK K
      refine wa_all [9] (by kernel_rfl) (by decide) (fun i hi => ?_)
      simp only [List.mem_cons, List.not_mem_nil, or_false] at hi
      subst hi
      refine wa_loud rfl (fun K hK => ?_)
      go_wp2_with fail
      refine (ran_lit (.slice p7_ (nonL nonce long).length c8_) _ key (nonL nonce long) (ksL (ckOf key (nonL nonce long)) 274877906880 k) [(.slice none 0 0, atS (4294967295)), (.slice (some ⟨w14_.heap.size, 0, none⟩) k k, intoS (zerosN k))] _ HKL.out (HN9_.out.fresh HA40_.out) (nonL_len HNL.out long) (StepsL.lit (b := w28_.heap.size) [(.slice none 0 0, atS (4294967295)), (.slice (some ⟨w14_.heap.size, 0, none⟩) k k, intoS (zerosN k))] (by rw [← HB36_.out]; exact heap_alloc_new _ _) rfl (Nat.le_of_ble_eq_true rfl) ?_) (Nat.le_of_ble_eq_true rfl) ?_ (by rw [← last64]; exact Ran.one _ 4294967295 (zerosN k) (by rw [zerosN_len]; have := HR.out; show 274877906880 + k ≤ 274877906944; omega)) (by rw [HXL.out]; have := HR.out; omega)).mono ?_
      · intro q hq; simp only [List.mem_cons, List.not_mem_nil, or_false] at hq; rcases hq with rfl | rfl
        · exact SlB.nil _
        · exact HM21_.out.fresh HA41_.out
      · intro q hq; simp only [List.mem_cons, List.not_mem_nil, or_false] at hq; rcases hq with rfl | rfl
        · exact okAt _
        · exact okInto (by rw [zerosN_len]; have := HR.out; omega)
      rintro e w42_ ⟨v43_, rfl, ho, hf⟩
      obtain ⟨p44_, c45_, hv⟩ := ho.slice
      rw [HXL.out] at hv
      subst hv
      have HO46_ := Lib.hid ho.sl
      have HA47_ : Hid (Fresh w w42_) := Lib.hid (HA37_.out.trans hf)
      have HA48_ : Hid (Fresh w2 w42_) := Lib.hid (HA38_.out.trans hf)
      have HA49_ : Hid (Fresh w2 w42_) := Lib.hid (HA39_.out.trans hf)
      have HA50_ : Hid (Fresh w6_ w42_) := Lib.hid (HA40_.out.trans hf)
      have HA51_ : Hid (Fresh w19_ w42_) := Lib.hid (HA41_.out.trans hf)
      clear ho hf
      have HA52_ : Hid (Fresh w42_ w42_) := Lib.hid (Keeps.refl _ _)
      go_wp2_with fail
      refine hK _ _ HA49_.out ?_
      clear hK K
      refine wa_quiet 10 (by kernel_rfl) rfl HA49_.out (fun K hK => ?_); go_simp; refine hK _ ?_; clear hK K
      refine wa_quiet 11 (by kernel_rfl) rfl HA49_.out (fun K hK => ?_); go_simp; refine hK _ ?_; clear hK K
      refine wa_quiet 13 (by kernel_rfl) rfl HA49_.out (fun K hK => ?_); go_simp; refine hK _ ?_; clear hK K
      refine wa_quiet 12 (by kernel_rfl) rfl HA49_.out (fun K hK => ?_); go_simp; refine hK _ ?_; clear hK K
      refine wa_quiet 14 (by kernel_rfl) rfl HA49_.out (fun K hK => ?_); go_simp; refine hK _ ?_; clear hK K
      refine wa_done (by kernel_rfl) ?_
      go_wp2_with fail
      refine HK2.out _ _ ?_
      refine lt3_c _ w.heap.size k _ _ key nonce long _ _ _ _ _ _ _ _ _ _ _ _ _ _ _ _ _ _ _ _ _ _ _ _ _ _ _ _ _ _ _ _ _ _ _ _ _ _ _ _ _ _ HKL.out HNL.out (HA48_.out.at HBK.out) (HA48_.out.at HBN.out) HR.out (HO46_.out.fresh HA52_.out) ?_
      intro w' hf
      exact ⟨rfl, HA47_.out.trans hf⟩
    · refine wa_loud rfl (fun K hK => ?_)
      go_wp2_with fail
      generalize hw15_ : w6_.alloc _ = w14_
      have HM16_ : Hid (SlB w14_ (.slice (some ⟨w6_.heap.size, 0, none⟩) k k) (zerosN k)) := Lib.hid (by rw [← hw15_]; exact makeN_sl k _ (by have := HR.out; omega))
      have HA18_ : Hid (Fresh w w14_) := Lib.hid ((by rw [← hw15_]; exact HA10_.out.alloc _))
      have HA19_ : Hid (Fresh w2 w14_) := Lib.hid ((by rw [← hw15_]; exact HA11_.out.alloc _))
      have HA20_ : Hid (Fresh w2 w14_) := Lib.hid ((by rw [← hw15_]; exact HA12_.out.alloc _))
      have HA21_ : Hid (Fresh w6_ w14_) := Lib.hid ((by rw [← hw15_]; exact HA13_.out.alloc _))
      clear hw15_
      have HA22_ : Hid (Fresh w14_ w14_) := Lib.hid (Keeps.refl _ _)
      refine hK _ _ HA20_.out ?_
      clear hK K
      refine wa_all [4] (by kernel_rfl) (by decide) (fun i hi => ?_)
      simp only [List.mem_cons, List.not_mem_nil, or_false] at hi
      subst hi
      refine wa_loud rfl (fun K hK => ?_)
      go_wp2_with fail
      refine (at_lit (4294967295 : UInt32) 4294967295 rfl _).mono ?_
      rintro e w23_ ⟨rfl, hf⟩
      have HA24_ : Hid (Fresh w w23_) := Lib.hid (HA18_.out.trans hf)
      have HA25_ : Hid (Fresh w2 w23_) := Lib.hid (HA19_.out.trans hf)
      have HA26_ : Hid (Fresh w2 w23_) := Lib.hid (HA20_.out.trans hf)
      have HA27_ : Hid (Fresh w6_ w23_) := Lib.hid (HA21_.out.trans hf)
      have HA28_ : Hid (Fresh w14_ w23_) := Lib.hid (HA22_.out.trans hf)
      clear hf
      try simp only [stV, atS]
      go_wp2_with fail
      refine hK _ _ HA26_.out ?_
      clear hK K
      refine wa_all [7] (by kernel_rfl) (by decide) (fun i hi => ?_)
      simp only [List.mem_cons, List.not_mem_nil, or_false] at hi
      subst hi
      refine wa_loud rfl (fun K hK => ?_)
      go_wp2_with fail
      refine (into_c (.slice (some ⟨w6_.heap.size, 0, none⟩) k k) (zerosN k) _ (HM16_.out.fresh HA28_.out)).mono ?_
      rintro e w29_ ⟨rfl, hf⟩
      have HA30_ : Hid (Fresh w w29_) := Lib.hid (HA24_.out.trans hf)
      have HA31_ : Hid (Fresh w2 w29_) := Lib.hid (HA25_.out.trans hf)
      have HA32_ : Hid (Fresh w2 w29_) := Lib.hid (HA26_.out.trans hf)
      have HA33_ : Hid (Fresh w6_ w29_) := Lib.hid (HA27_.out.trans hf)
      have HA34_ : Hid (Fresh w14_ w29_) := Lib.hid (HA28_.out.trans hf)
      clear hf
      try simp only [stV, intoS]
      go_wp2_with fail
      refine hK _ _ HA32_.out ?_
      clear hK K
      refine wa_all [8] (by kernel_rfl) (by decide) (fun i hi => ?_)
      simp only [List.mem_cons, List.not_mem_nil, or_false] at hi
      subst hi
      refine wa_loud rfl (fun K hK => ?_)
      go_wp2_with fail
      generalize hw36_ : w29_.alloc _ = w35_
      have HA38_ : Hid (Fresh w w35_) := Lib.hid ((by rw [← hw36_]; exact HA30_.out.alloc _))
      have HA39_ : Hid (Fresh w2 w35_) := Lib.hid ((by rw [← hw36_]; exact HA31_.out.alloc _))
      have HA40_ : Hid (Fresh w2 w35_) := Lib.hid ((by rw [← hw36_]; exact HA32_.out.alloc _))
      have HA41_ : Hid (Fresh w6_ w35_) := Lib.hid ((by rw [← hw36_]; exact HA33_.out.alloc _))
      have HA42_ : Hid (Fresh w14_ w35_) := Lib.hid ((by rw [← hw36_]; exact HA34_.out.alloc _))
      have HB37_ := Lib.hid hw36_
      clear hw36_
      refine hK _ _ HA40_.out ?_
      clear hK K
      refine wa_all [9] (by kernel_rfl) (by decide) (fun i hi => ?_)
      simp only [List.mem_cons, List.not_mem_nil, or_false] at hi
      subst hi
      refine wa_loud rfl (fun K hK => ?_)
      go_wp2_with fail
      refine (ran_lit (.slice p7_ (nonL nonce long).length c8_) _ key (nonL nonce long) (ksL (ckOf key (nonL nonce long)) 274877906880 k) [(.slice none 0 0, atS (4294967295)), (.slice (some ⟨w6_.heap.size, 0, none⟩) k k, intoS (zerosN k))] _ HKL.out (HN9_.out.fresh HA41_.out) (nonL_len HNL.out long) (StepsL.lit (b := w29_.heap.size) [(.slice none 0 0, atS (4294967295)), (.slice (some ⟨w6_.heap.size, 0, none⟩) k k, intoS (zerosN k))] (by rw [← HB37_.out]; exact heap_alloc_new _ _) rfl (Nat.le_of_ble_eq_true rfl) ?_) (Nat.le_of_ble_eq_true rfl) ?_ (by rw [← last64]; exact Ran.one _ 4294967295 (zerosN k) (by rw [zerosN_len]; have := HR.out; show 274877906880 + k ≤ 274877906944; omega)) (by rw [HXL.out]; have := HR.out; omega)).mono ?_
      · intro q hq; simp only [List.mem_cons, List.not_mem_nil, or_false] at hq; rcases hq with rfl | rfl
        · exact SlB.nil _
        · exact HM16_.out.fresh HA42_.out
      · intro q hq; simp only [List.mem_cons, List.not_mem_nil, or_false] at hq; rcases hq with rfl | rfl
        · exact okAt _
        · exact okInto (by rw [zerosN_len]; have := HR.out; omega)
      rintro e w43_ ⟨v44_, rfl, ho, hf⟩
      obtain ⟨p45_, c46_, hv⟩ := ho.slice
      rw [HXL.out] at hv
      subst hv
      have HO47_ := Lib.hid ho.sl
      have HA48_ : Hid (Fresh w w43_) := Lib.hid (HA38_.out.trans hf)
      have HA49_ : Hid (Fresh w2 w43_) := Lib.hid (HA39_.out.trans hf)
      have HA50_ : Hid (Fresh w2 w43_) := Lib.hid (HA40_.out.trans hf)
      have HA51_ : Hid (Fresh w6_ w43_) := Lib.hid (HA41_.out.trans hf)
      have HA52_ : Hid (Fresh w14_ w43_) := Lib.hid (HA42_.out.trans hf)
      clear ho hf
      have HA53_ : Hid (Fresh w43_ w43_) := Lib.hid (Keeps.refl _ _)
      go_wp2_with fail
      refine hK _ _ HA50_.out ?_
      clear hK K
      refine wa_quiet 10 (by kernel_rfl) rfl HA50_.out (fun K hK => ?_); go_simp; refine hK _ ?_; clear hK K
      refine wa_quiet 11 (by kernel_rfl) rfl HA50_.out (fun K hK => ?_); go_simp; refine hK _ ?_; clear hK K
      refine wa_quiet 13 (by kernel_rfl) rfl HA50_.out (fun K hK => ?_); go_simp; refine hK _ ?_; clear hK K
      refine wa_quiet 12 (by kernel_rfl) rfl HA50_.out (fun K hK => ?_); go_simp; refine hK _ ?_; clear hK K
      refine wa_quiet 14 (by kernel_rfl) rfl HA50_.out (fun K hK => ?_); go_simp; refine hK _ ?_; clear hK K
      refine wa_done (by kernel_rfl) ?_
      go_wp2_with fail
      refine HK2.out _ _ ?_
      refine lt3_c _ w.heap.size k _ _ key nonce long _ _ _ _ _ _ _ _ _ _ _ _ _ _ _ _ _ _ _ _ _ _ _ _ _ _ _ _ _ _ _ _ _ _ _ _ _ _ _ _ _ _ HKL.out HNL.out (HA49_.out.at HBK.out) (HA49_.out.at HBN.out) HR.out (HO47_.out.fresh HA53_.out) ?_
      intro w' hf
      exact ⟨rfl, HA48_.out.trans hf⟩
  · refine wa_loud rfl (fun K hK => ?_)
    go_wp2_with fail
    generalize hw7_ : w2.alloc _ = w6_
    have HM8_ : Hid (SlB w6_.drew (.slice (some ⟨w2.heap.size, 0, none⟩) k k) (zerosN k)) := Lib.hid (by rw [← hw7_]; exact makeN_sl k _ (by have := HR.out; omega))
    have HA10_ : Hid (Fresh w w6_.drew) := Lib.hid ((by rw [← hw7_]; exact HA3_.out.alloc _))
    have HA11_ : Hid (Fresh w2 w6_.drew) := Lib.hid ((by rw [← hw7_]; exact HA4_.out.alloc _))
    have HA12_ : Hid (Fresh w2 w6_.drew) := Lib.hid ((by rw [← hw7_]; exact HA5_.out.alloc _))
    clear hw7_
    have HA13_ : Hid (Fresh w6_.drew w6_.drew) := Lib.hid (Keeps.refl _ _)
    refine hK _ _ HA12_.out ?_
    clear hK K
    refine wa_all [3] (by kernel_rfl) (by decide) (fun i hi => ?_)
    simp only [List.mem_cons, List.not_mem_nil, or_false] at hi
    subst hi
    refine wa_loud rfl (fun K hK => ?_)
    go_wp2_with fail
    refine (nonceOf_c nonce long _ HNL.out).mono ?_
    rintro e w14_ ⟨vN, rfl, hs, hf⟩
    obtain ⟨p15_, c16_, rfl⟩ := hs.slice
    have HN17_ := Lib.hid hs
    have HA18_ : Hid (Fresh w w14_) := Lib.hid (HA10_.out.trans hf)
    have HA19_ : Hid (Fresh w2 w14_) := Lib.hid (HA11_.out.trans hf)
    have HA20_ : Hid (Fresh w2 w14_) := Lib.hid (HA12_.out.trans hf)
    have HA21_ : Hid (Fresh w6_.drew w14_) := Lib.hid (HA13_.out.trans hf)
    clear hs hf
    have HA22_ : Hid (Fresh w14_ w14_) := Lib.hid (Keeps.refl _ _)
    go_wp2_with fail
    refine hK _ _ HA20_.out ?_
    clear hK K
    refine wa_all [4] (by kernel_rfl) (by decide) (fun i hi => ?_)
    simp only [List.mem_cons, List.not_mem_nil, or_false] at hi
    subst hi
    refine wa_loud rfl (fun K hK => ?_)
    go_wp2_with fail
    refine (at_lit (4294967295 : UInt32) 4294967295 rfl _).mono ?_
    rintro e w23_ ⟨rfl, hf⟩
    have HA24_ : Hid (Fresh w w23_) := Lib.hid (HA18_.out.trans hf)
    have HA25_ : Hid (Fresh w2 w23_) := Lib.hid (HA19_.out.trans hf)
    have HA26_ : Hid (Fresh w2 w23_) := Lib.hid (HA20_.out.trans hf)
    have HA27_ : Hid (Fresh w6_.drew w23_) := Lib.hid (HA21_.out.trans hf)
    have HA28_ : Hid (Fresh w14_ w23_) := Lib.hid (HA22_.out.trans hf)
    clear hf
    try simp only [stV, atS]
    go_wp2_with fail
    refine hK _ _ HA26_.out ?_
    clear hK K
    refine wa_all [7] (by kernel_rfl) (by decide) (fun i hi => ?_)
    simp only [List.mem_cons, List.not_mem_nil, or_false] at hi
    subst hi
    refine wa_loud rfl (fun K hK => ?_)
    go_wp2_with fail
    refine (into_c (.slice (some ⟨w2.heap.size, 0, none⟩) k k) (zerosN k) _ (HM8_.out.fresh HA27_.out)).mono ?_
    rintro e w29_ ⟨rfl, hf⟩
    have HA30_ : Hid (Fresh w w29_) := Lib.hid (HA24_.out.trans hf)
    have HA31_ : Hid (Fresh w2 w29_) := Lib.hid (HA25_.out.trans hf)
    have HA32_ : Hid (Fresh w2 w29_) := Lib.hid (HA26_.out.trans hf)
    have HA33_ : Hid (Fresh w6_.drew w29_) := Lib.hid (HA27_.out.trans hf)
    have HA34_ : Hid (Fresh w14_ w29_) := Lib.hid (HA28_.out.trans hf)
    clear hf
    try simp only [stV, intoS]
    go_wp2_with fail
    refine hK _ _ HA32_.out ?_
    clear hK K
    refine wa_all [8] (by kernel_rfl) (by decide) (fun i hi => ?_)
    simp only [List.mem_cons, List.not_mem_nil, or_false] at hi
    subst hi
    refine wa_loud rfl (fun K hK => ?_)
    go_wp2_with fail
    generalize hw36_ : w29_.alloc _ = w35_
    have HA38_ : Hid (Fresh w w35_) := Lib.hid ((by rw [← hw36_]; exact HA30_.out.alloc _))
    have HA39_ : Hid (Fresh w2 w35_) := Lib.hid ((by rw [← hw36_]; exact HA31_.out.alloc _))
    have HA40_ : Hid (Fresh w2 w35_) := Lib.hid ((by rw [← hw36_]; exact HA32_.out.alloc _))
    have HA41_ : Hid (Fresh w6_.drew w35_) := Lib.hid ((by rw [← hw36_]; exact HA33_.out.alloc _))
    have HA42_ : Hid (Fresh w14_ w35_) := Lib.hid ((by rw [← hw36_]; exact HA34_.out.alloc _))
    have HB37_ := Lib.hid hw36_
    clear hw36_
    refine hK _ _ HA40_.out ?_
    clear hK K
    refine wa_all [9] (by kernel_rfl) (by decide) (fun i hi => ?_)
    simp only [List.mem_cons, List.not_mem_nil, or_false] at hi
    subst hi
    refine wa_loud rfl (fun K hK => ?_)
    go_wp2_with fail
    refine (ran_lit (.slice p15_ (nonL nonce long).length c16_) _ key (nonL nonce long) (ksL (ckOf key (nonL nonce long)) 274877906880 k) [(.slice none 0 0, atS (4294967295)), (.slice (some ⟨w2.heap.size, 0, none⟩) k k, intoS (zerosN k))] _ HKL.out (HN17_.out.fresh HA42_.out) (nonL_len HNL.out long) (StepsL.lit (b := w29_.heap.size) [(.slice none 0 0, atS (4294967295)), (.slice (some ⟨w2.heap.size, 0, none⟩) k k, intoS (zerosN k))] (by rw [← HB37_.out]; exact heap_alloc_new _ _) rfl (Nat.le_of_ble_eq_true rfl) ?_) (Nat.le_of_ble_eq_true rfl) ?_ (by rw [← last64]; exact Ran.one _ 4294967295 (zerosN k) (by rw [zerosN_len]; have := HR.out; show 274877906880 + k ≤ 274877906944; omega)) (by rw [HXL.out]; have := HR.out; omega)).mono ?_
    · intro q hq; simp only [List.mem_cons, List.not_mem_nil, or_false] at hq; rcases hq with rfl | rfl
      · exact SlB.nil _
      · exact HM8_.out.fresh HA41_.out
    · intro q hq; simp only [List.mem_cons, List.not_mem_nil, or_false] at hq; rcases hq with rfl | rfl
      · exact okAt _
      · exact okInto (by rw [zerosN_len]; have := HR.out; omega)
    rintro e w43_ ⟨v44_, rfl, ho, hf⟩
    obtain ⟨p45_, c46_, hv⟩ := ho.slice
    rw [HXL.out] at hv
    subst hv
    have HO47_ := Lib.hid ho.sl
    have HA48_ : Hid (Fresh w w43_) := Lib.hid (HA38_.out.trans hf)
    have HA49_ : Hid (Fresh w2 w43_) := Lib.hid (HA39_.out.trans hf)
    have HA50_ : Hid (Fresh w2 w43_) := Lib.hid (HA40_.out.trans hf)
    have HA51_ : Hid (Fresh w6_.drew w43_) := Lib.hid (HA41_.out.trans hf)
    have HA52_ : Hid (Fresh w14_ w43_) := Lib.hid (HA42_.out.trans hf)
    clear ho hf
    have HA53_ : Hid (Fresh w43_ w43_) := Lib.hid (Keeps.refl _ _)
    go_wp2_with fail
    refine hK _ _ HA50_.out ?_
    clear hK K
    refine wa_quiet 10 (by kernel_rfl) rfl HA50_.out (fun K hK => ?_); go_simp; refine hK _ ?_; clear hK K
    refine wa_quiet 11 (by kernel_rfl) rfl HA50_.out (fun K hK => ?_); go_simp; refine hK _ ?_; clear hK K
    refine wa_quiet 13 (by kernel_rfl) rfl HA50_.out (fun K hK => ?_); go_simp; refine hK _ ?_; clear hK K
    refine wa_quiet 12 (by kernel_rfl) rfl HA50_.out (fun K hK => ?_); go_simp; refine hK _ ?_; clear hK K
    refine wa_quiet 14 (by kernel_rfl) rfl HA50_.out (fun K hK => ?_); go_simp; refine hK _ ?_; clear hK K
    refine wa_done (by kernel_rfl) ?_
    go_wp2_with fail
    refine HK2.out _ _ ?_
    refine lt3_c _ w.heap.size k _ _ key nonce long _ _ _ _ _ _ _ _ _ _ _ _ _ _ _ _ _ _ _ _ _ _ _ _ _ _ _ _ _ _ _ _ _ _ _ _ _ _ _ _ _ _ HKL.out HNL.out (HA49_.out.at HBK.out) (HA49_.out.at HBN.out) HR.out (HO47_.out.fresh HA53_.out) ?_
    intro w' hf
    exact ⟨rfl, HA48_.out.trans hf⟩
end Go.Proofs.Ytaapglpnofmmlaa
