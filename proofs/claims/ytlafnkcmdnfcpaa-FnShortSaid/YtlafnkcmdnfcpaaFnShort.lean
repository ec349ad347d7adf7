/-
  The walk of laws.FnShort.
-/
import Derived.Test.YtlafnkcmdnfcpaaMakeN
import Derived.Test.YtlafnkcmdnfcpaaHeld
import Derived.Test.YtlafnkcmdnfcpaaAppF
import Derived.Deep.QuietTactic
namespace Go.Proofs.Ytlafnkcmdnfcpaa
open Go Go.RowKit
set_option linter.unusedVariables false
attribute [local irreducible] Cha.iter Cha.rounds Cha.dbl Cha.qr ckOf run doA doN CK.ks withinB xs
noncomputable def shBody : Code := Try.f9.body.getD .skip
noncomputable def sh2 : Code := rgt (rgt shBody)
theorem wrap_i8_mod (n : Int) (r : Nat) (h : r ≤ 127) (he : n % 256 = r) : IntKind.i8.wrap n = r := by
  have e : (n % (2 ^ IntKind.i8.bits : Int)) = (r : Int) := he
  unfold IntKind.wrap
  simp only [e]
  rw [if_neg]
  intro hc
  have hc := (Bool.and_eq_true _ _ ▸ hc).2
  have h2 : (2 ^ (IntKind.i8.bits - 1) : Int) = 128 := rfl
  have h3 := of_decide_eq_true hc
  omega
theorem wrap_i8_neg (n : Int) (r : Nat) (h : r ≤ 255) (h1 : 128 ≤ r) (he : n % 256 = r) : IntKind.i8.wrap n = (r : Int) - 256 := by
  have e : (n % (2 ^ IntKind.i8.bits : Int)) = (r : Int) := he
  unfold IntKind.wrap
  simp only [e]
  have h2 : (2 ^ (IntKind.i8.bits - 1) : Int) = 128 := rfl
  rw [if_pos]
  · rfl
  · rw [Bool.and_eq_true]
    exact ⟨rfl, decide_eq_true (by omega)⟩
theorem one_own (w : World) (x : UInt8) (base : Nat) (hb : base ≤ w.heap.size) : OwnB 5 (w.alloc (.cells #[.int .u8 (u8 x)] 5)) base (.slice (some ⟨w.heap.size, 0, none⟩) 1 1) [x] :=
  ⟨rfl, Or.inr ⟨w.heap.size, 1, _, rfl, hb, heap_alloc_new w _, Nat.le_refl _, by decide, rfl, rfl⟩⟩
set_option maxRecDepth 100000 in
set_option maxHeartbeats 4000000 in
theorem sh2_c (R : Ending → World → Prop) (g cp : Nat) (r0 r1 r2 r3 r4 r5 r6 r7 r8 r9 r10 r13 r14 r15 r16 r17 r18 r19 r20 r21 r22 r23 r24 r25 r26 r27 r28 r29 r30 r31 r32 r33 r34 r35 r36 r37 r38 r39 r40 r41 : Value) (w : World) (hcp : 1 ≤ cp) (c1 : w.cell? ⟨g, 1, none⟩ = some (.bool true))
    (h : R (.returned (.bool true)) w) : Code.wp Try.prog sh2 (bodyPost Try.prog Try.f9 R) ⟨#[r0, r1, r2, r3, r4, r5, r6, r7, r8, r9, r10, .slice (some ⟨g, 0, none⟩) 1 cp, .bool true, r13, r14, r15, r16, r17, r18, r19, r20, r21, r22, r23, r24, r25, r26, r27, r28, r29, r30, r31, r32, r33, r34, r35, r36, r37, r38, r39, r40, r41], []⟩ w := by
  conv => arg 2; whnf
  dsimp only
  have HH := Lib.hid h
  clear h
  go_wp2_with fail
  exact HH.out
set_option maxRecDepth 100000 in
set_option maxHeartbeats 4000000 in
theorem fnShort_c (key nonce s0 : List UInt8) (long : Bool) (x : UInt8) (vs : Value) (w : World) (hk : key.length = 32) (hnl : nonce.length = 24) (hs : SlB w vs s0) (hl : s0.length ≤ 140737488351232) :
    Calls Try.prog 9 #[.agg (cells8 key), .agg (cells8 nonce), .bool long, vs, .int .u8 (u8 x)] w fun e w' => e = .returned (.bool true) ∧ Fresh w w' := by
  obtain ⟨pa, ca, rfl⟩ := hs.slice
  obtain ⟨n, hn⟩ : ∃ n, n = s0.length := ⟨_, rfl⟩
  rw [← hn] at hs hl ⊢
  have HS := Lib.hid hs
  have HE := Lib.hid hn
  clear hs hn
  have HKL := Lib.hid hk
  have HNL := Lib.hid hnl
  have h1 := cells8_one key
  have h2 := cells8_one nonce
  clear hk hnl
  obtain ⟨r, hr⟩ : ∃ r : Nat, r = x.toNat % 128 := ⟨_, rfl⟩
  have hr1 : r ≤ 127 := by omega
  have q0 : (u8 x).tmod 128 = (r : Int) := by unfold u8; rw [Int.tmod_eq_emod_of_nonneg (by omega)]; omega
  have q1 : IntKind.u8.wrap (r : Int) = (r : Int) := by rw [IntKind.wrap_u8]; omega
  have q2 : IntKind.i8.wrap (r : Int) = (r : Int) := wrap_i8_mod _ r hr1 (by omega)
  obtain ⟨z, hz⟩ : ∃ z : Int, z = -1 - (r : Int) := ⟨_, rfl⟩
  have q4 : (-1 : Int) - (r : Int) = z := hz.symm
  have q5 : IntKind.i8.wrap z = z := by rw [hz, wrap_i8_neg (-1 - (r : Int)) (255 - r) (by omega) (by omega) (by omega)]; omega
  have HZ : Hid (-128 ≤ z ∧ z < 0) := Lib.hid (by omega)
  have HL := Lib.hid hl
  clear hr hz
  go_enter Try.func9, Try.ntmps9
  refine wp_seq_hold (fun K0 HK0 => ?_)
  go_wp2_with fail
  have HBK := Lib.hid (heap_alloc2_old w (.cells (cells8 key) 22) (.cells (cells8 nonce) 39))
  have HBN := Lib.hid (heap_alloc2_new w (.cells (cells8 key) 22) (.cells (cells8 nonce) 39))
  have HF2 : Hid (Fresh w ((w.alloc (.cells (cells8 key) 22)).alloc (.cells (cells8 nonce) 39))) := Lib.hid (((Keeps.refl _ w).alloc _).alloc _)
  generalize ((w.alloc (.cells (cells8 key) 22)).alloc (.cells (cells8 nonce) 39)) = w2 at HBK HBN HF2 ⊢
  refine HK0.out _ _ ?_
  clear HK0
  refine wp_seq_hold (fun K2 HK2 => ?_)
  go_wp2_with fail
  have HA1_ : Hid (Fresh w2 w2) := Lib.hid (Keeps.refl _ _)
  refine wp_region_wa (fun w' => Fresh w2 w') 19 rfl (by kernel_rfl) ?_
  have HA2_ : Hid (Fresh w2 w2) := Lib.hid (Keeps.refl _ _)
  have HA3_ : Hid (Fresh w w2.drew) := Lib.hid (HF2.out.drew)
  have HA4_ : Hid (Fresh w2 w2.drew) := Lib.hid (HA1_.out.drew)
  have HA5_ : Hid (Fresh w2 w2.drew) := Lib.hid (HA2_.out.drew)
  refine wa_quiet 0 (by kernel_rfl) rfl HA5_.out (fun K hK => ?_); go_simp; refine hK _ ?_; clear hK K
  refine wa_load 1 (.agg (cells8 nonce)) (by kernel_rfl) rfl HA5_.out (by rfl) (fun w' hw' => load24 _ rfl rfl HNL.out HBN.out (HA1_.out.trans hw')) ?_
  refine wa_quiet 2 (by kernel_rfl) rfl HA5_.out (fun K hK => ?_); go_simp; refine hK _ ?_; clear hK K
  refine wa_quiet 5 (by kernel_rfl) rfl HA5_.out (fun K hK => ?_); go_simp; refine hK _ ?_; clear hK K
  refine wa_quiet 7 (by kernel_rfl) rfl HA5_.out (fun K hK => ?_); go_simp; refine hK _ ?_; clear hK K
  refine wa_quiet 8 (by kernel_rfl) rfl HA5_.out (fun K hK => ?_); go_simp; refine hK _ ?_; clear hK K
  refine wa_quiet 9 (by kernel_rfl) rfl HA5_.out (fun K hK => ?_); go_simp; refine hK _ ?_; clear hK K
  refine wa_quiet 10 (by kernel_rfl) rfl HA5_.out (fun K hK => ?_); go_simp; refine hK _ ?_; clear hK K
  refine wa_all [3, 4] (by kernel_rfl) (by decide) (fun i hi => ?_)
  simp only [List.mem_cons, List.not_mem_nil, or_false] at hi
  rcases hi with rfl | rfl
  · refine wa_loud rfl (fun K hK => ?_)
    go_wp2_with fail
    refine (nonceOf_c nonce long _ HNL.out).mono ?_
    rintro e w6_ ⟨vN, rfl, hs, hf⟩
    obtain ⟨p7_, c8_, rfl⟩ := hs.slice
    have HN9_ := Lib.hid hs
    have HA10_ : Hid (Fresh w w6_) := Lib.hid (HA3_.out.trans hf)
    have HA11_ : Hid (Fresh w2 w6_) := Lib.hid (HA4_.out.trans hf)
    have HA12_ : Hid (Fresh w2 w6_) := Lib.hid (HA5_.out.trans hf)
    clear hs hf
    have HA13_ : Hid (Fresh w6_ w6_) := Lib.hid (Keeps.refl _ _)
    go_wp2_with fail
    refine hK _ _ HA12_.out ?_
    clear hK K
    refine wa_all [4] (by kernel_rfl) (by decide) (fun i hi => ?_)
    simp only [List.mem_cons, List.not_mem_nil, or_false] at hi
    subst hi
    refine wa_loud rfl (fun K hK => ?_)
    go_wp2_with fail
    generalize hw15_ : w6_.alloc _ = w14_
    have hszm0 : w.heap.size ≤ w6_.heap.size := HA10_.out.size
    have HOM : Hid (OwnB 5 w14_ w.heap.size (.slice (some ⟨w6_.heap.size, 0, none⟩) 1 1) [1]) := Lib.hid (by rw [← hw15_]; exact one_own _ 1 _ hszm0)
    have HA16_ : Hid (Fresh w w14_) := Lib.hid ((by rw [← hw15_]; exact (HA10_.out.alloc _)))
    have HA17_ : Hid (Fresh w2 w14_) := Lib.hid ((by rw [← hw15_]; exact (HA11_.out.alloc _)))
    have HA18_ : Hid (Fresh w2 w14_) := Lib.hid ((by rw [← hw15_]; exact (HA12_.out.alloc _)))
    have HA19_ : Hid (Fresh w6_ w14_) := Lib.hid ((by rw [← hw15_]; exact (HA13_.out.alloc _)))
    have HA20_ : Hid (Fresh w14_ w14_) := Lib.hid (Keeps.refl _ _)
    clear hw15_
    refine hK _ _ HA18_.out ?_
    clear hK K
    refine wa_all [6] (by kernel_rfl) (by decide) (fun i hi => ?_)
    simp only [List.mem_cons, List.not_mem_nil, or_false] at hi
    subst hi
    refine wa_loud rfl (fun K hK => ?_)
    refine wpList_appF rfl (.tmp 18) (.tmp 19) rfl w.heap.size _ _ _ [1] s0 rfl rfl (HOM.out.kept HA20_.out (fun _ _ x => x)) (HS.out.fresh HA16_.out) (by rw [← HE.out, List.length_singleton]; have := HL.out; omega) HA16_.out.size ?_
    intro v9 w21_ HA1 hf
    have HA22_ : Hid (Fresh w w21_) := Lib.hid (HA16_.out.trans hf)
    have HA23_ : Hid (Fresh w2 w21_) := Lib.hid (HA17_.out.trans hf)
    have HA24_ : Hid (Fresh w2 w21_) := Lib.hid (HA18_.out.trans hf)
    have HA25_ : Hid (Fresh w6_ w21_) := Lib.hid (HA19_.out.trans hf)
    have HA26_ : Hid (Fresh w14_ w21_) := Lib.hid (HA20_.out.trans hf)
    have hls : ([1] ++ s0).length = n + 1 := by rw [List.length_append, ← HE.out, List.length_singleton]; omega
    obtain ⟨pv, cv, hv⟩ := HA1.out.slice
    rw [hls] at hv
    subst hv
    have HS9 := Lib.hid HA1.out.sl
    clear hf
    refine wpList_nil (hK _ _ HA24_.out ?_)
    clear hK K
    have HA27_ : Hid (Fresh w21_ w21_) := Lib.hid (Keeps.refl _ _)
    refine wa_quiet 11 (by kernel_rfl) rfl HA24_.out (fun K hK => ?_); go_simp; refine hK _ ?_; clear hK K
    refine wa_all [12] (by kernel_rfl) (by decide) (fun i hi => ?_)
    simp only [List.mem_cons, List.not_mem_nil, or_false] at hi
    subst hi
    refine wa_loud rfl (fun K hK => ?_)
    go_wp2_with fail
    generalize hw29_ : w21_.alloc _ = w28_
    have HA31_ : Hid (Fresh w w28_) := Lib.hid ((by rw [← hw29_]; exact HA22_.out.alloc _))
    have HA32_ : Hid (Fresh w2 w28_) := Lib.hid ((by rw [← hw29_]; exact HA23_.out.alloc _))
    have HA33_ : Hid (Fresh w2 w28_) := Lib.hid ((by rw [← hw29_]; exact HA24_.out.alloc _))
    have HA34_ : Hid (Fresh w6_ w28_) := Lib.hid ((by rw [← hw29_]; exact HA25_.out.alloc _))
    have HA35_ : Hid (Fresh w14_ w28_) := Lib.hid ((by rw [← hw29_]; exact HA26_.out.alloc _))
    have HA36_ : Hid (Fresh w21_ w28_) := Lib.hid ((by rw [← hw29_]; exact HA27_.out.alloc _))
    have HB30_ := Lib.hid hw29_
    clear hw29_
    refine hK _ _ HA33_.out ?_
    clear hK K
    refine wa_all [13] (by kernel_rfl) (by decide) (fun i hi => ?_)
    simp only [List.mem_cons, List.not_mem_nil, or_false] at hi
    subst hi
    refine wa_loud rfl (fun K hK => ?_)
    go_wp2_with fail
    refine (Run_good (.slice (some ⟨w.heap.size, 0, none⟩) 32 32) (.slice p7_ (nonL nonce long).length c8_) _ key (nonL nonce long) [(.slice pv (n + 1) cv, ⟨0, 0, [1] ++ s0, z⟩)] _ (SlB.all32 (HA32_.out.at HBK.out) HKL.out (by decide)) (HN9_.out.fresh HA34_.out) HKL.out (nonL_len HNL.out long) (StepsL.lit (b := w21_.heap.size) [(.slice pv (n + 1) cv, ⟨0, 0, [1] ++ s0, z⟩)] (by rw [← HB30_.out]; exact heap_alloc_new _ _) rfl (Nat.le_of_ble_eq_true rfl) ?_) (Nat.le_of_ble_eq_true rfl) ?_).mono ?_
    · intro q hq; simp only [List.mem_cons, List.not_mem_nil, or_false] at hq; subst hq
      · exact HS9.out.fresh HA36_.out
    · intro q hq; simp only [List.mem_cons, List.not_mem_nil, or_false] at hq; subst hq
      · exact okSt (by rw [hls]; have := HL.out; omega) HZ.out.1 (by have := HZ.out.2; omega)
    rintro e w37_ ⟨v, ps, rfl, ho, hp, hf⟩
    have HA38_ : Hid (Fresh w w37_) := Lib.hid (HA31_.out.trans hf)
    have HA39_ : Hid (Fresh w2 w37_) := Lib.hid (HA32_.out.trans hf)
    have HA40_ : Hid (Fresh w2 w37_) := Lib.hid (HA33_.out.trans hf)
    have HA41_ : Hid (Fresh w6_ w37_) := Lib.hid (HA34_.out.trans hf)
    have HA42_ : Hid (Fresh w14_ w37_) := Lib.hid (HA35_.out.trans hf)
    have HA43_ : Hid (Fresh w21_ w37_) := Lib.hid (HA36_.out.trans hf)
    have HA44_ : Hid (Fresh w37_ w37_) := Lib.hid (Keeps.refl _ _)
    have hp2 := hp.trans (run_short (ckOf key (nonL nonce long)) 0 ([1] ++ s0) z [] (by rw [hls]; omega) HZ.out.2)
    obtain ⟨gO, cO, rfl, hcO, hx1⟩ := ho.one hp2
    have HX1 := Lib.hid hx1
    have HCO := Lib.hid hcO
    clear ho hp hp2 hf hx1 hcO
    go_wp2_with fail
    refine hK _ _ HA40_.out ?_
    clear hK K
    refine wa_quiet 14 (by kernel_rfl) rfl HA40_.out (fun K hK => ?_); go_simp; refine hK _ ?_; clear hK K
    refine wa_quiet 15 (by kernel_rfl) rfl HA40_.out (fun K hK => ?_); go_simp; refine hK _ ?_; clear hK K
    refine wa_quiet 17 (by kernel_rfl) rfl HA40_.out (fun K hK => ?_); go_simp; refine hK _ ?_; clear hK K
    refine wa_quiet 16 (by kernel_rfl) rfl HA40_.out (fun K hK => ?_); go_simp; refine hK _ ?_; clear hK K
    refine wa_quiet 18 (by kernel_rfl) rfl HA40_.out (fun K hK => ?_); go_simp; refine hK _ ?_; clear hK K
    refine wa_done (by kernel_rfl) ?_
    go_wp2_with fail
    refine HK2.out _ _ ?_
    exact sh2_c _ gO cO _ _ _ _ _ _ _ _ _ _ _ _ _ _ _ _ _ _ _ _ _ _ _ _ _ _ _ _ _ _ _ _ _ _ _ _ _ _ _ _ _ HCO.out (HA44_.out.cellAt HX1.out (fun x => x)) ⟨rfl, HA38_.out⟩
  · refine wa_loud rfl (fun K hK => ?_)
    go_wp2_with fail
    generalize hw7_ : w2.alloc _ = w6_
    have hszm0 : w.heap.size ≤ w2.heap.size := HA3_.out.size
    have HOM : Hid (OwnB 5 w6_.drew w.heap.size (.slice (some ⟨w2.heap.size, 0, none⟩) 1 1) [1]) := Lib.hid (by rw [← hw7_]; exact one_own _ 1 _ hszm0)
    have HA8_ : Hid (Fresh w w6_.drew) := Lib.hid ((by rw [← hw7_]; exact (HA3_.out.alloc _)))
    have HA9_ : Hid (Fresh w2 w6_.drew) := Lib.hid ((by rw [← hw7_]; exact (HA4_.out.alloc _)))
    have HA10_ : Hid (Fresh w2 w6_.drew) := Lib.hid ((by rw [← hw7_]; exact (HA5_.out.alloc _)))
    have HA11_ : Hid (Fresh w6_.drew w6_.drew) := Lib.hid (Keeps.refl _ _)
    clear hw7_
    refine hK _ _ HA10_.out ?_
    clear hK K
    refine wa_all [3] (by kernel_rfl) (by decide) (fun i hi => ?_)
    simp only [List.mem_cons, List.not_mem_nil, or_false] at hi
    subst hi
    refine wa_loud rfl (fun K hK => ?_)
    go_wp2_with fail
    refine (nonceOf_c nonce long _ HNL.out).mono ?_
    rintro e w12_ ⟨vN, rfl, hs, hf⟩
    obtain ⟨p13_, c14_, rfl⟩ := hs.slice
    have HN15_ := Lib.hid hs
    have HA16_ : Hid (Fresh w w12_) := Lib.hid (HA8_.out.trans hf)
    have HA17_ : Hid (Fresh w2 w12_) := Lib.hid (HA9_.out.trans hf)
    have HA18_ : Hid (Fresh w2 w12_) := Lib.hid (HA10_.out.trans hf)
    have HA19_ : Hid (Fresh w6_.drew w12_) := Lib.hid (HA11_.out.trans hf)
    clear hs hf
    have HA20_ : Hid (Fresh w12_ w12_) := Lib.hid (Keeps.refl _ _)
    go_wp2_with fail
    refine hK _ _ HA18_.out ?_
    clear hK K
    refine wa_all [6] (by kernel_rfl) (by decide) (fun i hi => ?_)
    simp only [List.mem_cons, List.not_mem_nil, or_false] at hi
    subst hi
    refine wa_loud rfl (fun K hK => ?_)
    refine wpList_appF rfl (.tmp 18) (.tmp 19) rfl w.heap.size _ _ _ [1] s0 rfl rfl (HOM.out.kept HA19_.out (fun _ _ x => x)) (HS.out.fresh HA16_.out) (by rw [← HE.out, List.length_singleton]; have := HL.out; omega) HA16_.out.size ?_
    intro v9 w21_ HA1 hf
    have HA22_ : Hid (Fresh w w21_) := Lib.hid (HA16_.out.trans hf)
    have HA23_ : Hid (Fresh w2 w21_) := Lib.hid (HA17_.out.trans hf)
    have HA24_ : Hid (Fresh w2 w21_) := Lib.hid (HA18_.out.trans hf)
    have HA25_ : Hid (Fresh w6_.drew w21_) := Lib.hid (HA19_.out.trans hf)
    have HA26_ : Hid (Fresh w12_ w21_) := Lib.hid (HA20_.out.trans hf)
    have hls : ([1] ++ s0).length = n + 1 := by rw [List.length_append, ← HE.out, List.length_singleton]; omega
    obtain ⟨pv, cv, hv⟩ := HA1.out.slice
    rw [hls] at hv
    subst hv
    have HS9 := Lib.hid HA1.out.sl
    clear hf
    refine wpList_nil (hK _ _ HA24_.out ?_)
    clear hK K
    have HA27_ : Hid (Fresh w21_ w21_) := Lib.hid (Keeps.refl _ _)
    refine wa_quiet 11 (by kernel_rfl) rfl HA24_.out (fun K hK => ?_); go_simp; refine hK _ ?_; clear hK K
    refine wa_all [12] (by kernel_rfl) (by decide) (fun i hi => ?_)
    simp only [List.mem_cons, List.not_mem_nil, or_false] at hi
    subst hi
    refine wa_loud rfl (fun K hK => ?_)
    go_wp2_with fail
    generalize hw29_ : w21_.alloc _ = w28_
    have HA31_ : Hid (Fresh w w28_) := Lib.hid ((by rw [← hw29_]; exact HA22_.out.alloc _))
    have HA32_ : Hid (Fresh w2 w28_) := Lib.hid ((by rw [← hw29_]; exact HA23_.out.alloc _))
    have HA33_ : Hid (Fresh w2 w28_) := Lib.hid ((by rw [← hw29_]; exact HA24_.out.alloc _))
    have HA34_ : Hid (Fresh w6_.drew w28_) := Lib.hid ((by rw [← hw29_]; exact HA25_.out.alloc _))
    have HA35_ : Hid (Fresh w12_ w28_) := Lib.hid ((by rw [← hw29_]; exact HA26_.out.alloc _))
    have HA36_ : Hid (Fresh w21_ w28_) := Lib.hid ((by rw [← hw29_]; exact HA27_.out.alloc _))
    have HB30_ := Lib.hid hw29_
    clear hw29_
    refine hK _ _ HA33_.out ?_
    clear hK K
    refine wa_all [13] (by kernel_rfl) (by decide) (fun i hi => ?_)
    simp only [List.mem_cons, List.not_mem_nil, or_false] at hi
    subst hi
    refine wa_loud rfl (fun K hK => ?_)
    go_wp2_with fail
    refine (Run_good (.slice (some ⟨w.heap.size, 0, none⟩) 32 32) (.slice p13_ (nonL nonce long).length c14_) _ key (nonL nonce long) [(.slice pv (n + 1) cv, ⟨0, 0, [1] ++ s0, z⟩)] _ (SlB.all32 (HA32_.out.at HBK.out) HKL.out (by decide)) (HN15_.out.fresh HA35_.out) HKL.out (nonL_len HNL.out long) (StepsL.lit (b := w21_.heap.size) [(.slice pv (n + 1) cv, ⟨0, 0, [1] ++ s0, z⟩)] (by rw [← HB30_.out]; exact heap_alloc_new _ _) rfl (Nat.le_of_ble_eq_true rfl) ?_) (Nat.le_of_ble_eq_true rfl) ?_).mono ?_
    · intro q hq; simp only [List.mem_cons, List.not_mem_nil, or_false] at hq; subst hq
      · exact HS9.out.fresh HA36_.out
    · intro q hq; simp only [List.mem_cons, List.not_mem_nil, or_false] at hq; subst hq
      · exact okSt (by rw [hls]; have := HL.out; omega) HZ.out.1 (by have := HZ.out.2; omega)
    rintro e w37_ ⟨v, ps, rfl, ho, hp, hf⟩
    have HA38_ : Hid (Fresh w w37_) := Lib.hid (HA31_.out.trans hf)
    have HA39_ : Hid (Fresh w2 w37_) := Lib.hid (HA32_.out.trans hf)
    have HA40_ : Hid (Fresh w2 w37_) := Lib.hid (HA33_.out.trans hf)
    have HA41_ : Hid (Fresh w6_.drew w37_) := Lib.hid (HA34_.out.trans hf)
    have HA42_ : Hid (Fresh w12_ w37_) := Lib.hid (HA35_.out.trans hf)
    have HA43_ : Hid (Fresh w21_ w37_) := Lib.hid (HA36_.out.trans hf)
    have HA44_ : Hid (Fresh w37_ w37_) := Lib.hid (Keeps.refl _ _)
    have hp2 := hp.trans (run_short (ckOf key (nonL nonce long)) 0 ([1] ++ s0) z [] (by rw [hls]; omega) HZ.out.2)
    obtain ⟨gO, cO, rfl, hcO, hx1⟩ := ho.one hp2
    have HX1 := Lib.hid hx1
    have HCO := Lib.hid hcO
    clear ho hp hp2 hf hx1 hcO
    go_wp2_with fail
    refine hK _ _ HA40_.out ?_
    clear hK K
    refine wa_quiet 14 (by kernel_rfl) rfl HA40_.out (fun K hK => ?_); go_simp; refine hK _ ?_; clear hK K
    refine wa_quiet 15 (by kernel_rfl) rfl HA40_.out (fun K hK => ?_); go_simp; refine hK _ ?_; clear hK K
    refine wa_quiet 17 (by kernel_rfl) rfl HA40_.out (fun K hK => ?_); go_simp; refine hK _ ?_; clear hK K
    refine wa_quiet 16 (by kernel_rfl) rfl HA40_.out (fun K hK => ?_); go_simp; refine hK _ ?_; clear hK K
    refine wa_quiet 18 (by kernel_rfl) rfl HA40_.out (fun K hK => ?_); go_simp; refine hK _ ?_; clear hK K
    refine wa_done (by kernel_rfl) ?_
    go_wp2_with fail
    refine HK2.out _ _ ?_
    exact sh2_c _ gO cO _ _ _ _ _ _ _ _ _ _ _ _ _ _ _ _ _ _ _ _ _ _ _ _ _ _ _ _ _ _ _ _ _ _ _ _ _ _ _ _ _ HCO.out (HA44_.out.cellAt HX1.out (fun x => x)) ⟨rfl, HA38_.out⟩
end Go.Proofs.Ytlafnkcmdnfcpaa
