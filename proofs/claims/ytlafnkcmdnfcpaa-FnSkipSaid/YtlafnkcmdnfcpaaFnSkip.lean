/-
  The walk of laws.FnSkip.
-/
import Derived.Test.YtlafnkcmdnfcpaaMakeN
import Derived.Test.YtlafnkcmdnfcpaaCutV
import Derived.Deep.QuietTactic
namespace Go.Proofs.Ytlafnkcmdnfcpaa
open Go Go.RowKit
set_option linter.unusedVariables false
attribute [local irreducible] Cha.iter Cha.rounds Cha.dbl Cha.qr ckOf run doA doN CK.ks withinB xs
set_option maxRecDepth 100000 in
set_option maxHeartbeats 4000000 in
theorem fnSkip_c (key nonce s0 : List UInt8) (long : Bool) (x : UInt8) (vs : Value) (w : World) (hk : key.length = 32) (hnl : nonce.length = 24) (hs : SlB w vs s0) (hl : s0.length ≤ 140737488351232) :
    Calls Try.prog 10 #[.agg (cells8 key), .agg (cells8 nonce), .bool long, .int .u8 (u8 x), vs] w fun e w' => e = .returned (.bool true) ∧ Fresh w w' := by
  obtain ⟨pa, ca, rfl⟩ := hs.slice
  obtain ⟨n, hn⟩ : ∃ n, n = s0.length := ⟨_, rfl⟩
  rw [← hn] at hs hl ⊢
  have HS := Lib.hid hs
  have HE := Lib.hid hn
  clear hs hn
  have HKL := Lib.hid hk
  have HNL := Lib.hid hnl
  have h1 := cells8_one key
  have h2 := cells8_one nonce
  clear hk hnl
  obtain ⟨r, hr⟩ : ∃ r : Nat, r = x.toNat := ⟨_, rfl⟩
  have hxr : u8 x = (r : Int) := by rw [hr]; rfl
  have hr256 : r < 256 := by rw [hr]; exact x.toNat_lt
  rw [hxr]
  obtain ⟨c, hc⟩ : ∃ c : UInt32, c = UInt32.ofNat r := ⟨_, rfl⟩
  have hcr : c.toNat = r := by rw [hc, UInt32.toNat_ofNat']; omega
  obtain ⟨m, hm⟩ : ∃ m : Nat, m = 64 * r := ⟨_, rfl⟩
  have wr32 : IntKind.u32.wrap (r : Int) = u32 c := by unfold u32; rw [IntKind.wrap_u32]; omega
  have wr : IntKind.i64.wrap (r : Int) = (r : Int) := by rw [IntKind.wrap_i64]; omega
  have q1 : 64 * (r : Int) = (m : Int) := by omega
  have q2 : IntKind.i64.wrap (m : Int) = (m : Int) := by rw [IntKind.wrap_i64]; omega
  obtain ⟨t, ht⟩ : ∃ t : Nat, t = m + n := ⟨_, rfl⟩
  have q3 : (m : Int) + (n : Int) = (t : Int) := by omega
  have HM : Hid (m = 64 * c.toNat) := Lib.hid (by omega)
  have HMB : Hid (m ≤ 16384) := Lib.hid (by omega)
  have HT := Lib.hid ht
  have hmk := fun W : World => makeN m W (by omega)
  clear hr hxr hc hcr hm ht hr256
  go_enter Try.func10, Try.ntmps10
  refine wp_seq_hold (fun K0 HK0 => ?_)
  go_wp2_with fail
  have HBK := Lib.hid (heap_alloc2_old w (.cells (cells8 key) 22) (.cells (cells8 nonce) 39))
  have HBN := Lib.hid (heap_alloc2_new w (.cells (cells8 key) 22) (.cells (cells8 nonce) 39))
  have HF2 : Hid (Fresh w ((w.alloc (.cells (cells8 key) 22)).alloc (.cells (cells8 nonce) 39))) := Lib.hid (((Keeps.refl _ w).alloc _).alloc _)
  generalize ((w.alloc (.cells (cells8 key) 22)).alloc (.cells (cells8 nonce) 39)) = w2 at HBK HBN HF2 ⊢
  refine HK0.out _ _ ?_
  clear HK0
  refine wp_seq_hold (fun K1 HK1 => ?_)
  go_wp2_with fail
  have HA1_ : Hid (Fresh w2 w2) := Lib.hid (Keeps.refl _ _)
  refine (within2_c c n w2 (by omega)).mono ?_
  rintro e w3 ⟨rfl, hw3⟩
  subst w3
  cases hwi : withinB c n with
  | false =>
    go_wp2_with fail
    go_ret
    exact ⟨rfl, HF2.out⟩
  | true =>
    have HWI := Lib.hid (within_true hwi)
    clear hwi
    have q4 : IntKind.i64.wrap (t : Int) = (t : Int) := by have := HWI.out.1; have := HMB.out; have := HT.out; rw [IntKind.wrap_i64]; omega
    have HXL : Hid (∀ z, (xs z s0).length = n) := Lib.hid (fun z => by rw [xs_len]; exact HE.out.symm)
    have HXT : Hid (∀ z, (xs z (zerosN m ++ s0)).length = t) := Lib.hid (fun z => by rw [xs_len, List.length_append, zerosN_len, ← HE.out]; exact HT.out.symm)
    have HB0 : Hid (∀ z : Nat → UInt8, (xs z (zerosN m ++ s0)).drop m = xs (fun i => z (64 * c.toNat + i)) s0) := Lib.hid (fun z => by
      rw [xs_drop _ _ _ (by rw [List.length_append, zerosN_len]; omega), List.drop_left' (zerosN_len m)]
      apply xs_congr
      intro i _
      rw [← HM.out])
    go_wp2_with fail
    refine HK1.out _ _ ?_
    clear HK1
    refine wp_seq_hold (fun K2 HK2 => ?_)
    go_wp2_with fail
    have HMS := Lib.hid (makeN_sl m w2 (by have := HMB.out; omega))
    have HFM : Hid (Fresh w2 (w2.alloc (.cells (cells8 (zerosN m)) 5))) := Lib.hid ((Keeps.refl _ w2).alloc _)
    obtain ⟨gM, hgM⟩ : ∃ g, g = w2.heap.size := ⟨_, rfl⟩
    rw [← hgM] at HMS ⊢
    clear hgM
    generalize w2.alloc (.cells (cells8 (zerosN m)) 5) = w3 at HMS HFM ⊢
    have HA2_ : Hid (Fresh w w3) := Lib.hid (HF2.out.trans HFM.out)
    have HA3_ : Hid (Fresh w2 w3) := Lib.hid (HA1_.out.trans HFM.out)
    have HA4_ : Hid (Fresh w3 w3) := Lib.hid (Keeps.refl _ _)
    refine HK2.out _ _ ?_
    clear HK2
    refine wp_seq_hold (fun K3 HK3 => ?_)
    go_wp2_with fail
    refine wp_region_ord (fun w' => Fresh w3 w') [(0, true), (1, true), (2, true), (4, true), (5, true), (7, true), (3, false), (6, false), (8, false), (9, false), (10, false), (11, true), (12, true), (14, true), (13, true), (15, true)] (by kernel_rfl) (by kernel_rfl) ((Keeps.refl _ w3).drew) ?_
    have HA5_ : Hid (Fresh w3 w3) := Lib.hid (Keeps.refl _ _)
    have HA6_ : Hid (Fresh w w3.drew) := Lib.hid (HA2_.out.drew)
    have HA7_ : Hid (Fresh w2 w3.drew) := Lib.hid (HA3_.out.drew)
    have HA8_ : Hid (Fresh w3 w3.drew) := Lib.hid (HA4_.out.drew)
    have HA9_ : Hid (Fresh w3 w3.drew) := Lib.hid (HA5_.out.drew)
    refine ord_load (.agg (cells8 key)) rfl (by rfl) (fun w' hw' => load32 _ rfl rfl HKL.out HBK.out (HA3_.out.trans hw')) ?_
    refine ord_load (.agg (cells8 nonce)) rfl (by rfl) (fun w' hw' => load24 _ rfl rfl HNL.out HBN.out (HA3_.out.trans hw')) ?_
    iterate 4 (refine ord_quiet rfl (fun K hK => ?_); go_simp; refine hK _ ?_; clear hK K)
    refine ord_loud rfl (fun K hK => ?_)
    go_wp2_with fail
    refine (nonceOf_c nonce long _ HNL.out).mono ?_
    rintro e w10_ ⟨vN, rfl, hs, hf⟩
    obtain ⟨p11_, c12_, rfl⟩ := hs.slice
    have HN13_ := Lib.hid hs
    have HA14_ : Hid (Fresh w w10_) := Lib.hid (HA6_.out.trans hf)
    have HA15_ : Hid (Fresh w2 w10_) := Lib.hid (HA7_.out.trans hf)
    have HA16_ : Hid (Fresh w3 w10_) := Lib.hid (HA8_.out.trans hf)
    have HA17_ : Hid (Fresh w3 w10_) := Lib.hid (HA9_.out.trans hf)
    clear hs hf
    have HA18_ : Hid (Fresh w10_ w10_) := Lib.hid (Keeps.refl _ _)
    go_wp2_with fail
    refine hK _ _ HA17_.out ?_
    clear hK K
    refine ord_loud rfl (fun K hK => ?_)
    go_wp2_with fail
    refine (at_c (c) _).mono ?_
    rintro e w19_ ⟨rfl, hf⟩
    have HA20_ : Hid (Fresh w w19_) := Lib.hid (HA14_.out.trans hf)
    have HA21_ : Hid (Fresh w2 w19_) := Lib.hid (HA15_.out.trans hf)
    have HA22_ : Hid (Fresh w3 w19_) := Lib.hid (HA16_.out.trans hf)
    have HA23_ : Hid (Fresh w3 w19_) := Lib.hid (HA17_.out.trans hf)
    have HA24_ : Hid (Fresh w10_ w19_) := Lib.hid (HA18_.out.trans hf)
    clear hf
    try simp only [stV, atS]
    go_wp2_with fail
    refine hK _ _ HA23_.out ?_
    clear hK K
    refine ord_loud rfl (fun K hK => ?_)
    go_wp2_with fail
    refine (into_c (.slice pa n ca) (s0) _ (HS.out.fresh HA20_.out)).mono ?_
    rintro e w25_ ⟨rfl, hf⟩
    have HA26_ : Hid (Fresh w w25_) := Lib.hid (HA20_.out.trans hf)
    have HA27_ : Hid (Fresh w2 w25_) := Lib.hid (HA21_.out.trans hf)
    have HA28_ : Hid (Fresh w3 w25_) := Lib.hid (HA22_.out.trans hf)
    have HA29_ : Hid (Fresh w3 w25_) := Lib.hid (HA23_.out.trans hf)
    have HA30_ : Hid (Fresh w10_ w25_) := Lib.hid (HA24_.out.trans hf)
    clear hf
    try simp only [stV, intoS]
    go_wp2_with fail
    refine hK _ _ HA29_.out ?_
    clear hK K
    refine ord_loud rfl (fun K hK => ?_)
    go_wp2_with fail
    generalize hw32_ : w25_.alloc _ = w31_
    have HA34_ : Hid (Fresh w w31_) := Lib.hid ((by rw [← hw32_]; exact HA26_.out.alloc _))
    have HA35_ : Hid (Fresh w2 w31_) := Lib.hid ((by rw [← hw32_]; exact HA27_.out.alloc _))
    have HA36_ : Hid (Fresh w3 w31_) := Lib.hid ((by rw [← hw32_]; exact HA28_.out.alloc _))
    have HA37_ : Hid (Fresh w3 w31_) := Lib.hid ((by rw [← hw32_]; exact HA29_.out.alloc _))
    have HA38_ : Hid (Fresh w10_ w31_) := Lib.hid ((by rw [← hw32_]; exact HA30_.out.alloc _))
    have HB33_ := Lib.hid hw32_
    clear hw32_
    refine hK _ _ HA37_.out ?_
    clear hK K
    refine ord_loud rfl (fun K hK => ?_)
    go_wp2_with fail
    refine (ran_lit (.slice p11_ (nonL nonce long).length c12_) _ key (nonL nonce long) (xs (fun i => (ckOf key (nonL nonce long)).ks (64 * c.toNat + i)) s0) [(.slice none 0 0, atS (c)), (.slice pa n ca, intoS (s0))] _ HKL.out (HN13_.out.fresh HA38_.out) (nonL_len HNL.out long) (StepsL.lit (b := w25_.heap.size) [(.slice none 0 0, atS (c)), (.slice pa n ca, intoS (s0))] (by rw [← HB33_.out]; exact heap_alloc_new _ _) rfl (Nat.le_of_ble_eq_true rfl) ?_) (Nat.le_of_ble_eq_true rfl) ?_ (Ran.one _ c s0 (by rw [← HE.out]; exact HWI.out.2)) (by rw [HXL.out]; omega)).mono ?_
    · intro q hq; simp only [List.mem_cons, List.not_mem_nil, or_false] at hq; rcases hq with rfl | rfl
      · exact SlB.nil _
      · exact HS.out.fresh HA34_.out
    · intro q hq; simp only [List.mem_cons, List.not_mem_nil, or_false] at hq; rcases hq with rfl | rfl
      · exact okAt _
      · exact okInto (by rw [← HE.out]; omega)
    rintro e w39_ ⟨v40_, rfl, ho, hf⟩
    obtain ⟨p41_, c42_, hv⟩ := ho.slice
    rw [HXL.out] at hv
    subst hv
    have HO43_ := Lib.hid ho.sl
    have HA44_ : Hid (Fresh w w39_) := Lib.hid (HA34_.out.trans hf)
    have HA45_ : Hid (Fresh w2 w39_) := Lib.hid (HA35_.out.trans hf)
    have HA46_ : Hid (Fresh w3 w39_) := Lib.hid (HA36_.out.trans hf)
    have HA47_ : Hid (Fresh w3 w39_) := Lib.hid (HA37_.out.trans hf)
    have HA48_ : Hid (Fresh w10_ w39_) := Lib.hid (HA38_.out.trans hf)
    clear ho hf
    have HA49_ : Hid (Fresh w39_ w39_) := Lib.hid (Keeps.refl _ _)
    go_wp2_with fail
    refine hK _ _ HA47_.out ?_
    clear hK K
    iterate 5 (refine ord_quiet rfl (fun K hK => ?_); go_simp; refine hK _ ?_; clear hK K)
    refine ord_last ?_
    go_wp2_with fail
    refine HK3.out _ _ ?_
    clear HK3
    refine wp_seq_hold (fun K4 HK4 => ?_)
    go_wp2_with fail
    refine wp_region_ord (fun w' => Fresh w39_ w') [(0, true), (1, true), (2, true), (4, true), (6, true), (3, false), (5, false), (7, false), (8, false), (9, false), (10, true), (11, true), (13, true), (12, true), (14, true)] (by kernel_rfl) (by kernel_rfl) ((Keeps.refl _ w39_).drew) ?_
    have HA50_ : Hid (Fresh w39_ w39_) := Lib.hid (Keeps.refl _ _)
    have HA51_ : Hid (Fresh w w39_.drew) := Lib.hid (HA44_.out.drew)
    have HA52_ : Hid (Fresh w2 w39_.drew) := Lib.hid (HA45_.out.drew)
    have HA53_ : Hid (Fresh w3 w39_.drew) := Lib.hid (HA46_.out.drew)
    have HA54_ : Hid (Fresh w39_ w39_.drew) := Lib.hid (HA49_.out.drew)
    have HA55_ : Hid (Fresh w39_ w39_.drew) := Lib.hid (HA50_.out.drew)
    refine ord_load (.agg (cells8 key)) rfl (by rfl) (fun w' hw' => load32 _ rfl rfl HKL.out HBK.out (HA45_.out.trans hw')) ?_
    refine ord_load (.agg (cells8 nonce)) rfl (by rfl) (fun w' hw' => load24 _ rfl rfl HNL.out HBN.out (HA45_.out.trans hw')) ?_
    iterate 3 (refine ord_quiet rfl (fun K hK => ?_); go_simp; refine hK _ ?_; clear hK K)
    refine ord_loud rfl (fun K hK => ?_)
    go_wp2_with fail
    refine (nonceOf_c nonce long _ HNL.out).mono ?_
    rintro e w56_ ⟨vN, rfl, hs, hf⟩
    obtain ⟨p57_, c58_, rfl⟩ := hs.slice
    have HN59_ := Lib.hid hs
    have HA60_ : Hid (Fresh w w56_) := Lib.hid (HA51_.out.trans hf)
    have HA61_ : Hid (Fresh w2 w56_) := Lib.hid (HA52_.out.trans hf)
    have HA62_ : Hid (Fresh w3 w56_) := Lib.hid (HA53_.out.trans hf)
    have HA63_ : Hid (Fresh w39_ w56_) := Lib.hid (HA54_.out.trans hf)
    have HA64_ : Hid (Fresh w39_ w56_) := Lib.hid (HA55_.out.trans hf)
    clear hs hf
    have HA65_ : Hid (Fresh w56_ w56_) := Lib.hid (Keeps.refl _ _)
    go_wp2_with fail
    refine hK _ _ HA64_.out ?_
    clear hK K
    refine ord_loud rfl (fun K hK => ?_)
    go_wp2_with fail
    refine (into_c (.slice (some ⟨gM, 0, none⟩) m m) (zerosN m) _ (HMS.out.fresh HA62_.out)).mono ?_
    rintro e w66_ ⟨rfl, hf⟩
    have HA67_ : Hid (Fresh w w66_) := Lib.hid (HA60_.out.trans hf)
    have HA68_ : Hid (Fresh w2 w66_) := Lib.hid (HA61_.out.trans hf)
    have HA69_ : Hid (Fresh w3 w66_) := Lib.hid (HA62_.out.trans hf)
    have HA70_ : Hid (Fresh w39_ w66_) := Lib.hid (HA63_.out.trans hf)
    have HA71_ : Hid (Fresh w39_ w66_) := Lib.hid (HA64_.out.trans hf)
    have HA72_ : Hid (Fresh w56_ w66_) := Lib.hid (HA65_.out.trans hf)
    clear hf
    try simp only [stV, intoS]
    go_wp2_with fail
    refine hK _ _ HA71_.out ?_
    clear hK K
    refine ord_loud rfl (fun K hK => ?_)
    go_wp2_with fail
    refine (into_c (.slice pa n ca) (s0) _ (HS.out.fresh HA67_.out)).mono ?_
    rintro e w73_ ⟨rfl, hf⟩
    have HA74_ : Hid (Fresh w w73_) := Lib.hid (HA67_.out.trans hf)
    have HA75_ : Hid (Fresh w2 w73_) := Lib.hid (HA68_.out.trans hf)
    have HA76_ : Hid (Fresh w3 w73_) := Lib.hid (HA69_.out.trans hf)
    have HA77_ : Hid (Fresh w39_ w73_) := Lib.hid (HA70_.out.trans hf)
    have HA78_ : Hid (Fresh w39_ w73_) := Lib.hid (HA71_.out.trans hf)
    have HA79_ : Hid (Fresh w56_ w73_) := Lib.hid (HA72_.out.trans hf)
    clear hf
    try simp only [stV, intoS]
    go_wp2_with fail
    refine hK _ _ HA78_.out ?_
    clear hK K
    refine ord_loud rfl (fun K hK => ?_)
    go_wp2_with fail
    generalize hw81_ : w73_.alloc _ = w80_
    have HA83_ : Hid (Fresh w w80_) := Lib.hid ((by rw [← hw81_]; exact HA74_.out.alloc _))
    have HA84_ : Hid (Fresh w2 w80_) := Lib.hid ((by rw [← hw81_]; exact HA75_.out.alloc _))
    have HA85_ : Hid (Fresh w3 w80_) := Lib.hid ((by rw [← hw81_]; exact HA76_.out.alloc _))
    have HA86_ : Hid (Fresh w39_ w80_) := Lib.hid ((by rw [← hw81_]; exact HA77_.out.alloc _))
    have HA87_ : Hid (Fresh w39_ w80_) := Lib.hid ((by rw [← hw81_]; exact HA78_.out.alloc _))
    have HA88_ : Hid (Fresh w56_ w80_) := Lib.hid ((by rw [← hw81_]; exact HA79_.out.alloc _))
    have HB82_ := Lib.hid hw81_
    clear hw81_
    refine hK _ _ HA87_.out ?_
    clear hK K
    refine ord_loud rfl (fun K hK => ?_)
    go_wp2_with fail
    refine (ran_lit (.slice p57_ (nonL nonce long).length c58_) _ key (nonL nonce long) (xs (ckOf key (nonL nonce long)).ks (zerosN m ++ s0)) [(.slice (some ⟨gM, 0, none⟩) m m, intoS (zerosN m)), (.slice pa n ca, intoS (s0))] _ HKL.out (HN59_.out.fresh HA88_.out) (nonL_len HNL.out long) (StepsL.lit (b := w73_.heap.size) [(.slice (some ⟨gM, 0, none⟩) m m, intoS (zerosN m)), (.slice pa n ca, intoS (s0))] (by rw [← HB82_.out]; exact heap_alloc_new _ _) rfl (Nat.le_of_ble_eq_true rfl) ?_) (Nat.le_of_ble_eq_true rfl) ?_ (Ran.two _ (zerosN m) s0 (by rw [zerosN_len, ← HE.out, HM.out]; exact HWI.out.2)) (by rw [HXT.out]; have := HWI.out.1; have := HMB.out; have := HT.out; omega)).mono ?_
    · intro q hq; simp only [List.mem_cons, List.not_mem_nil, or_false] at hq; rcases hq with rfl | rfl
      · exact HMS.out.fresh HA85_.out
      · exact HS.out.fresh HA83_.out
    · intro q hq; simp only [List.mem_cons, List.not_mem_nil, or_false] at hq; rcases hq with rfl | rfl
      · exact okInto (by rw [zerosN_len]; have := HMB.out; omega)
      · exact okInto (by rw [← HE.out]; omega)
    rintro e w89_ ⟨v90_, rfl, ho, hf⟩
    obtain ⟨p91_, c92_, hv⟩ := ho.slice
    rw [HXT.out] at hv
    subst hv
    have HO93_ := Lib.hid ho.sl
    have HA94_ : Hid (Fresh w w89_) := Lib.hid (HA83_.out.trans hf)
    have HA95_ : Hid (Fresh w2 w89_) := Lib.hid (HA84_.out.trans hf)
    have HA96_ : Hid (Fresh w3 w89_) := Lib.hid (HA85_.out.trans hf)
    have HA97_ : Hid (Fresh w39_ w89_) := Lib.hid (HA86_.out.trans hf)
    have HA98_ : Hid (Fresh w39_ w89_) := Lib.hid (HA87_.out.trans hf)
    have HA99_ : Hid (Fresh w56_ w89_) := Lib.hid (HA88_.out.trans hf)
    clear ho hf
    have HA100_ : Hid (Fresh w89_ w89_) := Lib.hid (Keeps.refl _ _)
    go_wp2_with fail
    refine hK _ _ HA98_.out ?_
    clear hK K
    iterate 5 (refine ord_quiet rfl (fun K hK => ?_); go_simp; refine hK _ ?_; clear hK K)
    refine ord_last ?_
    go_wp2_with fail
    refine HK4.out _ _ ?_
    clear HK4
    refine wp_seq_hold (fun K5 HK5 => ?_)
    go_wp2_with fail
    refine wp_region_ord (fun w' => Fresh w89_ w') [(0, true), (1, true), (2, true), (3, true), (4, true), (5, true), (6, true), (7, true), (8, true), (9, true), (10, true), (11, true), (12, true), (13, true), (14, true), (15, true), (16, true), (17, true), (18, true), (19, true), (20, true), (21, true), (22, true), (23, true), (24, true)] (by kernel_rfl) (by kernel_rfl) ((Keeps.refl _ w89_).drew) ?_
    have HA101_ : Hid (Fresh w89_ w89_) := Lib.hid (Keeps.refl _ _)
    have HA102_ : Hid (Fresh w w89_.drew) := Lib.hid (HA94_.out.drew)
    have HA103_ : Hid (Fresh w2 w89_.drew) := Lib.hid (HA95_.out.drew)
    have HA104_ : Hid (Fresh w3 w89_.drew) := Lib.hid (HA96_.out.drew)
    have HA105_ : Hid (Fresh w39_ w89_.drew) := Lib.hid (HA97_.out.drew)
    have HA106_ : Hid (Fresh w89_ w89_.drew) := Lib.hid (HA100_.out.drew)
    have HA107_ : Hid (Fresh w89_ w89_.drew) := Lib.hid (HA101_.out.drew)
    iterate 16 (refine ord_quiet rfl (fun K hK => ?_); go_simp; refine hK _ ?_; clear hK K)
    refine ord_load (.string (strB ((xs (ckOf key (nonL nonce long)).ks (zerosN m ++ s0)).drop m))) rfl (by rfl) (fun w' hw' => ?_) ?_
    · have hr := run_strB w' _ _ ((show SlB w' (.slice p41_ n c42_) ((xs (ckOf key (nonL nonce long)).ks (zerosN m ++ s0)).drop m) from by rw [HB0.out]; exact HO43_.out.fresh (HA97_.out.trans hw')))
      go_simp
    iterate 3 (refine ord_quiet rfl (fun K hK => ?_); go_simp; refine hK _ ?_; clear hK K)
    refine ord_load (cutV p91_ t c92_ m) rfl (by rfl) (fun w' hw' => exec_cutV _ _ rfl rfl rfl (by have := HT.out; omega) _) ?_
    refine ord_load (.string (strB ((xs (ckOf key (nonL nonce long)).ks (zerosN m ++ s0)).drop m))) rfl (by rfl) (fun w' hw' => ?_) ?_
    · have hr := run_strB w' _ _ ((show SlB w' (cutV p91_ t c92_ m) ((xs (ckOf key (nonL nonce long)).ks (zerosN m ++ s0)).drop m) from SlB.cutV (HO93_.out.fresh (HA100_.out.trans hw')) (by rw [HXT.out]) (by have := HT.out; omega)))
      go_simp
    iterate 3 (refine ord_quiet rfl (fun K hK => ?_); go_simp; refine hK _ ?_; clear hK K)
    refine ord_last ?_
    go_wp2_with fail
    refine HK5.out _ _ ?_
    go_wp2_with fail
    go_ret
    exact ⟨rfl, HA102_.out⟩
end Go.Proofs.Ytlafnkcmdnfcpaa
