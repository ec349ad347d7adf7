/-
  The walk of laws.FnTwice.
-/
import Derived.Test.YtlafnkcmdnfcpaaLawR
import Derived.Deep.QuietTactic
namespace Go.Proofs.Ytlafnkcmdnfcpaa
open Go Go.RowKit
set_option linter.unusedVariables false
attribute [local irreducible] Cha.iter Cha.rounds Cha.dbl Cha.qr ckOf run doA doN CK.ks withinB xs
set_option maxRecDepth 100000 in
set_option maxHeartbeats 4000000 in
theorem fnTwice_c (key nonce s0 : List UInt8) (long : Bool) (c d : UInt32) (vs : Value) (w : World) (hk : key.length = 32) (hnl : nonce.length = 24) (hs : SlB w vs s0) (hl : s0.length ≤ 140737488351232) :
    Calls Try.prog 11 #[.agg (cells8 key), .agg (cells8 nonce), .bool long, .int .u32 (u32 c), .int .u32 (u32 d), vs] w fun e w' => e = .returned (.bool true) ∧ Fresh w w' := by
  obtain ⟨pa, ca, rfl⟩ := hs.slice
  obtain ⟨n, hn⟩ : ∃ n, n = s0.length := ⟨_, rfl⟩
  rw [← hn] at hs hl ⊢
  have HS := Lib.hid hs
  have HE := Lib.hid hn
  clear hs hn
  have HKL := Lib.hid hk
  have HNL := Lib.hid hnl
  have h1 := cells8_one key
  have h2 := cells8_one nonce
  clear hk hnl
  go_enter Try.func11, Try.ntmps11
  refine wp_seq_hold (fun K0 HK0 => ?_)
  go_wp2_with fail
  have HBK := Lib.hid (heap_alloc2_old w (.cells (cells8 key) 22) (.cells (cells8 nonce) 39))
  have HBN := Lib.hid (heap_alloc2_new w (.cells (cells8 key) 22) (.cells (cells8 nonce) 39))
  have HF2 : Hid (Fresh w ((w.alloc (.cells (cells8 key) 22)).alloc (.cells (cells8 nonce) 39))) := Lib.hid (((Keeps.refl _ w).alloc _).alloc _)
  generalize ((w.alloc (.cells (cells8 key) 22)).alloc (.cells (cells8 nonce) 39)) = w2 at HBK HBN HF2 ⊢
  refine HK0.out _ _ ?_
  clear HK0
  by_cases hlt : u32 d < u32 c
  · go_wp2_with fail
    go_ret
    exact ⟨rfl, HF2.out⟩
  have HLE : Hid (c.toNat ≤ d.toNat) := Lib.hid (by unfold u32 at hlt; omega)
  go_wp2_with fail
  have HA1_ : Hid (Fresh w2 w2) := Lib.hid (Keeps.refl _ _)
  refine (within2_c d n w2 (by omega)).mono ?_
  rintro e w3 ⟨rfl, hw3⟩
  subst w3
  cases hwi : withinB d n with
  | false =>
    go_wp2_with fail
    go_ret
    exact ⟨rfl, HF2.out⟩
  | true =>
    have HWI := Lib.hid (within_true hwi)
    clear hwi
    have HXL : Hid (∀ z, (xs z s0).length = n) := Lib.hid (fun z => by rw [xs_len]; exact HE.out.symm)
    go_wp2_with fail
    refine wp_region_ord (fun w' => Fresh w2 w') [(0, true), (1, true), (2, true), (4, true), (6, true), (8, true), (3, false), (5, false), (7, false), (9, false), (10, false), (11, false), (12, true), (13, true), (15, true), (14, true), (16, true)] (by kernel_rfl) (by kernel_rfl) ((Keeps.refl _ w2).drew) ?_
    have HA2_ : Hid (Fresh w2 w2) := Lib.hid (Keeps.refl _ _)
    have HA3_ : Hid (Fresh w w2.drew) := Lib.hid (HF2.out.drew)
    have HA4_ : Hid (Fresh w2 w2.drew) := Lib.hid (HA1_.out.drew)
    have HA5_ : Hid (Fresh w2 w2.drew) := Lib.hid (HA2_.out.drew)
    refine ord_load (.agg (cells8 key)) rfl (by rfl) (fun w' hw' => load32 _ rfl rfl HKL.out HBK.out (HA1_.out.trans hw')) ?_
    refine ord_load (.agg (cells8 nonce)) rfl (by rfl) (fun w' hw' => load24 _ rfl rfl HNL.out HBN.out (HA1_.out.trans hw')) ?_
    iterate 4 (refine ord_quiet rfl (fun K hK => ?_); go_simp; refine hK _ ?_; clear hK K)
    refine ord_loud rfl (fun K hK => ?_)
    go_wp2_with fail
    refine (nonceOf_c nonce long _ HNL.out).mono ?_
    rintro e w6_ ⟨vN, rfl, hs, hf⟩
    obtain ⟨p7_, c8_, rfl⟩ := hs.slice
    have HN9_ := Lib.hid hs
    have HA10_ : Hid (Fresh w w6_) := Lib.hid (HA3_.out.trans hf)
    have HA11_ : Hid (Fresh w2 w6_) := Lib.hid (HA4_.out.trans hf)
    have HA12_ : Hid (Fresh w2 w6_) := Lib.hid (HA5_.out.trans hf)
    clear hs hf
    have HA13_ : Hid (Fresh w6_ w6_) := Lib.hid (Keeps.refl _ _)
    go_wp2_with fail
    refine hK _ _ HA12_.out ?_
    clear hK K
    refine ord_loud rfl (fun K hK => ?_)
    go_wp2_with fail
    refine (at_c (c) _).mono ?_
    rintro e w14_ ⟨rfl, hf⟩
    have HA15_ : Hid (Fresh w w14_) := Lib.hid (HA10_.out.trans hf)
    have HA16_ : Hid (Fresh w2 w14_) := Lib.hid (HA11_.out.trans hf)
    have HA17_ : Hid (Fresh w2 w14_) := Lib.hid (HA12_.out.trans hf)
    have HA18_ : Hid (Fresh w6_ w14_) := Lib.hid (HA13_.out.trans hf)
    clear hf
    try simp only [stV, atS]
    go_wp2_with fail
    refine hK _ _ HA17_.out ?_
    clear hK K
    refine ord_loud rfl (fun K hK => ?_)
    go_wp2_with fail
    refine (at_c (d) _).mono ?_
    rintro e w19_ ⟨rfl, hf⟩
    have HA20_ : Hid (Fresh w w19_) := Lib.hid (HA15_.out.trans hf)
    have HA21_ : Hid (Fresh w2 w19_) := Lib.hid (HA16_.out.trans hf)
    have HA22_ : Hid (Fresh w2 w19_) := Lib.hid (HA17_.out.trans hf)
    have HA23_ : Hid (Fresh w6_ w19_) := Lib.hid (HA18_.out.trans hf)
    clear hf
    try simp only [stV, atS]
    go_wp2_with fail
    refine hK _ _ HA22_.out ?_
    clear hK K
    refine ord_loud rfl (fun K hK => ?_)
    go_wp2_with fail
    refine (into_c (.slice pa n ca) (s0) _ (HS.out.fresh HA20_.out)).mono ?_
    rintro e w24_ ⟨rfl, hf⟩
    have HA25_ : Hid (Fresh w w24_) := Lib.hid (HA20_.out.trans hf)
    have HA26_ : Hid (Fresh w2 w24_) := Lib.hid (HA21_.out.trans hf)
    have HA27_ : Hid (Fresh w2 w24_) := Lib.hid (HA22_.out.trans hf)
    have HA28_ : Hid (Fresh w6_ w24_) := Lib.hid (HA23_.out.trans hf)
    clear hf
    try simp only [stV, intoS]
    go_wp2_with fail
    refine hK _ _ HA27_.out ?_
    clear hK K
    refine ord_loud rfl (fun K hK => ?_)
    go_wp2_with fail
    generalize hw30_ : w24_.alloc _ = w29_
    have HA32_ : Hid (Fresh w w29_) := Lib.hid ((by rw [← hw30_]; exact HA25_.out.alloc _))
    have HA33_ : Hid (Fresh w2 w29_) := Lib.hid ((by rw [← hw30_]; exact HA26_.out.alloc _))
    have HA34_ : Hid (Fresh w2 w29_) := Lib.hid ((by rw [← hw30_]; exact HA27_.out.alloc _))
    have HA35_ : Hid (Fresh w6_ w29_) := Lib.hid ((by rw [← hw30_]; exact HA28_.out.alloc _))
    have HB31_ := Lib.hid hw30_
    clear hw30_
    refine hK _ _ HA34_.out ?_
    clear hK K
    refine ord_loud rfl (fun K hK => ?_)
    go_wp2_with fail
    refine (ran_lit (.slice p7_ (nonL nonce long).length c8_) _ key (nonL nonce long) (xs (fun i => (ckOf key (nonL nonce long)).ks (64 * d.toNat + i)) s0) [(.slice none 0 0, atS (c)), (.slice none 0 0, atS (d)), (.slice pa n ca, intoS (s0))] _ HKL.out (HN9_.out.fresh HA35_.out) (nonL_len HNL.out long) (StepsL.lit (b := w24_.heap.size) [(.slice none 0 0, atS (c)), (.slice none 0 0, atS (d)), (.slice pa n ca, intoS (s0))] (by rw [← HB31_.out]; exact heap_alloc_new _ _) rfl (Nat.le_of_ble_eq_true rfl) ?_) (Nat.le_of_ble_eq_true rfl) ?_ (Ran.at2 _ c d s0 HLE.out (by rw [← HE.out]; exact HWI.out.2)) (by rw [HXL.out]; omega)).mono ?_
    · intro q hq; simp only [List.mem_cons, List.not_mem_nil, or_false] at hq; rcases hq with rfl | rfl | rfl
      · exact SlB.nil _
      · exact SlB.nil _
      · exact HS.out.fresh HA32_.out
    · intro q hq; simp only [List.mem_cons, List.not_mem_nil, or_false] at hq; rcases hq with rfl | rfl | rfl
      · exact okAt _
      · exact okAt _
      · exact okInto (by rw [← HE.out]; omega)
    rintro e w36_ ⟨v37_, rfl, ho, hf⟩
    obtain ⟨p38_, c39_, hv⟩ := ho.slice
    rw [HXL.out] at hv
    subst hv
    have HO40_ := Lib.hid ho.sl
    have HA41_ : Hid (Fresh w w36_) := Lib.hid (HA32_.out.trans hf)
    have HA42_ : Hid (Fresh w2 w36_) := Lib.hid (HA33_.out.trans hf)
    have HA43_ : Hid (Fresh w2 w36_) := Lib.hid (HA34_.out.trans hf)
    have HA44_ : Hid (Fresh w6_ w36_) := Lib.hid (HA35_.out.trans hf)
    clear ho hf
    have HA45_ : Hid (Fresh w36_ w36_) := Lib.hid (Keeps.refl _ _)
    go_wp2_with fail
    refine hK _ _ HA43_.out ?_
    clear hK K
    iterate 5 (refine ord_quiet rfl (fun K hK => ?_); go_simp; refine hK _ ?_; clear hK K)
    refine ord_last ?_
    go_wp2_with fail
    refine wp_region_ord (fun w' => Fresh w36_ w') [(0, true), (1, true), (2, true), (4, true), (6, true), (3, false), (5, false), (7, false), (8, false), (9, false), (10, true), (11, true), (13, true), (12, true), (14, true)] (by kernel_rfl) (by kernel_rfl) ((Keeps.refl _ w36_).drew) ?_
    have HA46_ : Hid (Fresh w36_ w36_) := Lib.hid (Keeps.refl _ _)
    have HA47_ : Hid (Fresh w w36_.drew) := Lib.hid (HA41_.out.drew)
    have HA48_ : Hid (Fresh w2 w36_.drew) := Lib.hid (HA42_.out.drew)
    have HA49_ : Hid (Fresh w36_ w36_.drew) := Lib.hid (HA45_.out.drew)
    have HA50_ : Hid (Fresh w36_ w36_.drew) := Lib.hid (HA46_.out.drew)
    refine ord_load (.agg (cells8 key)) rfl (by rfl) (fun w' hw' => load32 _ rfl rfl HKL.out HBK.out (HA42_.out.trans hw')) ?_
    refine ord_load (.agg (cells8 nonce)) rfl (by rfl) (fun w' hw' => load24 _ rfl rfl HNL.out HBN.out (HA42_.out.trans hw')) ?_
    iterate 3 (refine ord_quiet rfl (fun K hK => ?_); go_simp; refine hK _ ?_; clear hK K)
    refine ord_loud rfl (fun K hK => ?_)
    go_wp2_with fail
    refine (nonceOf_c nonce long _ HNL.out).mono ?_
    rintro e w51_ ⟨vN, rfl, hs, hf⟩
    obtain ⟨p52_, c53_, rfl⟩ := hs.slice
    have HN54_ := Lib.hid hs
    have HA55_ : Hid (Fresh w w51_) := Lib.hid (HA47_.out.trans hf)
    have HA56_ : Hid (Fresh w2 w51_) := Lib.hid (HA48_.out.trans hf)
    have HA57_ : Hid (Fresh w36_ w51_) := Lib.hid (HA49_.out.trans hf)
    have HA58_ : Hid (Fresh w36_ w51_) := Lib.hid (HA50_.out.trans hf)
    clear hs hf
    have HA59_ : Hid (Fresh w51_ w51_) := Lib.hid (Keeps.refl _ _)
    go_wp2_with fail
    refine hK _ _ HA58_.out ?_
    clear hK K
    refine ord_loud rfl (fun K hK => ?_)
    go_wp2_with fail
    refine (at_c (d) _).mono ?_
    rintro e w60_ ⟨rfl, hf⟩
    have HA61_ : Hid (Fresh w w60_) := Lib.hid (HA55_.out.trans hf)
    have HA62_ : Hid (Fresh w2 w60_) := Lib.hid (HA56_.out.trans hf)
    have HA63_ : Hid (Fresh w36_ w60_) := Lib.hid (HA57_.out.trans hf)
    have HA64_ : Hid (Fresh w36_ w60_) := Lib.hid (HA58_.out.trans hf)
    have HA65_ : Hid (Fresh w51_ w60_) := Lib.hid (HA59_.out.trans hf)
    clear hf
    try simp only [stV, atS]
    go_wp2_with fail
    refine hK _ _ HA64_.out ?_
    clear hK K
    refine ord_loud rfl (fun K hK => ?_)
    go_wp2_with fail
    refine (into_c (.slice pa n ca) (s0) _ (HS.out.fresh HA61_.out)).mono ?_
    rintro e w66_ ⟨rfl, hf⟩
    have HA67_ : Hid (Fresh w w66_) := Lib.hid (HA61_.out.trans hf)
    have HA68_ : Hid (Fresh w2 w66_) := Lib.hid (HA62_.out.trans hf)
    have HA69_ : Hid (Fresh w36_ w66_) := Lib.hid (HA63_.out.trans hf)
    have HA70_ : Hid (Fresh w36_ w66_) := Lib.hid (HA64_.out.trans hf)
    have HA71_ : Hid (Fresh w51_ w66_) := Lib.hid (HA65_.out.trans hf)
    clear hf
    try simp only [stV, intoS]
    go_wp2_with fail
    refine hK _ _ HA70_.out ?_
    clear hK K
    refine ord_loud rfl (fun K hK => ?_)
    go_wp2_with fail
    generalize hw73_ : w66_.alloc _ = w72_
    have HA75_ : Hid (Fresh w w72_) := Lib.hid ((by rw [← hw73_]; exact HA67_.out.alloc _))
    have HA76_ : Hid (Fresh w2 w72_) := Lib.hid ((by rw [← hw73_]; exact HA68_.out.alloc _))
    have HA77_ : Hid (Fresh w36_ w72_) := Lib.hid ((by rw [← hw73_]; exact HA69_.out.alloc _))
    have HA78_ : Hid (Fresh w36_ w72_) := Lib.hid ((by rw [← hw73_]; exact HA70_.out.alloc _))
    have HA79_ : Hid (Fresh w51_ w72_) := Lib.hid ((by rw [← hw73_]; exact HA71_.out.alloc _))
    have HB74_ := Lib.hid hw73_
    clear hw73_
    refine hK _ _ HA78_.out ?_
    clear hK K
    refine ord_loud rfl (fun K hK => ?_)
    go_wp2_with fail
    refine (ran_lit (.slice p52_ (nonL nonce long).length c53_) _ key (nonL nonce long) (xs (fun i => (ckOf key (nonL nonce long)).ks (64 * d.toNat + i)) s0) [(.slice none 0 0, atS (d)), (.slice pa n ca, intoS (s0))] _ HKL.out (HN54_.out.fresh HA79_.out) (nonL_len HNL.out long) (StepsL.lit (b := w66_.heap.size) [(.slice none 0 0, atS (d)), (.slice pa n ca, intoS (s0))] (by rw [← HB74_.out]; exact heap_alloc_new _ _) rfl (Nat.le_of_ble_eq_true rfl) ?_) (Nat.le_of_ble_eq_true rfl) ?_ (Ran.one _ d s0 (by rw [← HE.out]; exact HWI.out.2)) (by rw [HXL.out]; omega)).mono ?_
    · intro q hq; simp only [List.mem_cons, List.not_mem_nil, or_false] at hq; rcases hq with rfl | rfl
      · exact SlB.nil _
      · exact HS.out.fresh HA75_.out
    · intro q hq; simp only [List.mem_cons, List.not_mem_nil, or_false] at hq; rcases hq with rfl | rfl
      · exact okAt _
      · exact okInto (by rw [← HE.out]; omega)
    rintro e w80_ ⟨v81_, rfl, ho, hf⟩
    obtain ⟨p82_, c83_, hv⟩ := ho.slice
    rw [HXL.out] at hv
    subst hv
    have HO84_ := Lib.hid ho.sl
    have HA85_ : Hid (Fresh w w80_) := Lib.hid (HA75_.out.trans hf)
    have HA86_ : Hid (Fresh w2 w80_) := Lib.hid (HA76_.out.trans hf)
    have HA87_ : Hid (Fresh w36_ w80_) := Lib.hid (HA77_.out.trans hf)
    have HA88_ : Hid (Fresh w36_ w80_) := Lib.hid (HA78_.out.trans hf)
    have HA89_ : Hid (Fresh w51_ w80_) := Lib.hid (HA79_.out.trans hf)
    clear ho hf
    have HA90_ : Hid (Fresh w80_ w80_) := Lib.hid (Keeps.refl _ _)
    go_wp2_with fail
    refine hK _ _ HA88_.out ?_
    clear hK K
    iterate 5 (refine ord_quiet rfl (fun K hK => ?_); go_simp; refine hK _ ?_; clear hK K)
    refine ord_last ?_
    have hr1 := run_strB _ _ _ (HO84_.out.fresh HA90_.out)
    have hr2 := run_strB _ _ _ (HO40_.out.fresh HA87_.out)
    go_wp2_with fail
    go_ret
    exact ⟨rfl, HA85_.out⟩
end Go.Proofs.Ytlafnkcmdnfcpaa
