/-
  The walk of laws.FnBeginning.
-/
import Derived.Test.YtaapglpnofmmlaaLawR
import Derived.Deep.QuietTactic
namespace Go.Proofs.Ytaapglpnofmmlaa
open Go Go.RowKit
set_option linter.unusedVariables false
attribute [local irreducible] Cha.iter Cha.rounds Cha.dbl Cha.qr ckOf run doA doN CK.ks withinB xs
set_option maxRecDepth 100000 in
set_option maxHeartbeats 4000000 in
theorem fnBeginning_c (key nonce s0 : List UInt8) (long : Bool) (c : UInt32) (x : UInt8) (vs : Value) (w : World) (hk : key.length = 32) (hnl : nonce.length = 24) (hs : SlB w vs s0) (hl : s0.length ≤ 140737488351232) :
    Calls Try.prog 6 #[.agg (cells8 key), .agg (cells8 nonce), .bool long, .int .u32 (u32 c), vs, .int .u8 (u8 x)] w fun e w' => e = .returned (.bool true) ∧ Fresh w w' := by
  obtain ⟨pa, ca, rfl⟩ := hs.slice
  obtain ⟨n, hn⟩ : ∃ n, n = s0.length := ⟨_, rfl⟩
  rw [← hn] at hs hl ⊢
  have HS := Lib.hid hs
  have HE := Lib.hid hn
  clear hs hn
  have HKL := Lib.hid hk
  have HNL := Lib.hid hnl
  have h1 := cells8_one key
  have h2 := cells8_one nonce
  clear hk hnl
  obtain ⟨r, hr⟩ : ∃ r : Nat, r = x.toNat := ⟨_, rfl⟩
  have hxr : u8 x = (r : Int) := by rw [hr]; rfl
  have hr256 : r < 256 := by rw [hr]; exact x.toNat_lt
  rw [hxr]
  have wr : IntKind.i64.wrap (r : Int) = (r : Int) := by rw [IntKind.wrap_i64]; omega
  clear hr hxr
  go_enter Try.func6, Try.ntmps6
  go_wp2_with fail
  have HBK := Lib.hid (heap_alloc2_old w (.cells (cells8 key) 27) (.cells (cells8 nonce) 28))
  have HBN := Lib.hid (heap_alloc2_new w (.cells (cells8 key) 27) (.cells (cells8 nonce) 28))
  have HF2 : Hid (Fresh w ((w.alloc (.cells (cells8 key) 27)).alloc (.cells (cells8 nonce) 28))) := Lib.hid (((Keeps.refl _ w).alloc _).alloc _)
  generalize ((w.alloc (.cells (cells8 key) 27)).alloc (.cells (cells8 nonce) 28)) = w2 at HBK HBN HF2 ⊢
  have HA1_ : Hid (Fresh w2 w2) := Lib.hid (Keeps.refl _ _)
  refine (within2_c c n w2 (by omega)).mono ?_
  rintro e w3 ⟨rfl, hw3⟩
  subst w3
  cases hwi : withinB c n with
  | false =>
    go_wp2_with fail
    go_ret
    exact ⟨rfl, HF2.out⟩
  | true =>
    have HWI := Lib.hid (within_true hwi)
    clear hwi
    have HXL : Hid (∀ z, (xs z s0).length = n) := Lib.hid (fun z => by rw [xs_len]; exact HE.out.symm)
    have hcapn := HS.out.cap
    by_cases hrn : r ≤ n
    · have hrn1 : (r : Int) ≤ n := by omega
      have hrn2 : ¬ (n : Int) < r := by omega
      have hkc : (r : Int) ≤ ca := by omega
      have hk0 : (0 : Int) ≤ r := by omega
      have HKN : Hid (r ≤ n) := Lib.hid (by omega)
      have HKL2 : Hid ((s0.take r).length = r) := Lib.hid (by rw [List.length_take, ← HE.out]; omega)
      have HSC := Lib.hid (HS.out.cut HE.out HKN.out)
      clear hrn
      go_wp2_with fail
      refine wp_region_ord (fun w' => Fresh w2 w') [(0, true), (1, true), (2, true), (4, true), (6, true), (3, false), (5, false), (7, false), (8, false), (9, false), (10, true), (11, true), (13, true), (12, true), (14, true)] (by kernel_rfl) (by kernel_rfl) ((Keeps.refl _ w2).drew) ?_
      have HA2_ : Hid (Fresh w2 w2) := Lib.hid (Keeps.refl _ _)
      have HA3_ : Hid (Fresh w w2.drew) := Lib.hid (HF2.out.drew)
      have HA4_ : Hid (Fresh w2 w2.drew) := Lib.hid (HA1_.out.drew)
      have HA5_ : Hid (Fresh w2 w2.drew) := Lib.hid (HA2_.out.drew)
      refine ord_load (.agg (cells8 key)) rfl (by rfl) (fun w' hw' => load32 _ rfl rfl HKL.out HBK.out (HA1_.out.trans hw')) ?_
      refine ord_load (.agg (cells8 nonce)) rfl (by rfl) (fun w' hw' => load24 _ rfl rfl HNL.out HBN.out (HA1_.out.trans hw')) ?_
      iterate 3 (refine ord_quiet rfl (fun K hK => ?_); go_simp; refine hK _ ?_; clear hK K)
      refine ord_loud rfl (fun K hK => ?_)
      go_wp2_with fail
      refine (nonceOf_c nonce long _ HNL.out).mono ?_
      rintro e w6_ ⟨vN, rfl, hs, hf⟩
      obtain ⟨p7_, c8_, rfl⟩ := hs.slice
      have HN9_ := Lib.hid hs
      have HA10_ : Hid (Fresh w w6_) := Lib.hid (HA3_.out.trans hf)
      have HA11_ : Hid (Fresh w2 w6_) := Lib.hid (HA4_.out.trans hf)
      have HA12_ : Hid (Fresh w2 w6_) := Lib.hid (HA5_.out.trans hf)
      clear hs hf
      have HA13_ : Hid (Fresh w6_ w6_) := Lib.hid (Keeps.refl _ _)
      go_wp2_with fail
      refine hK _ _ HA12_.out ?_
      clear hK K
      refine ord_loud rfl (fun K hK => ?_)
      go_wp2_with fail
      refine (at_c (c) _).mono ?_
      rintro e w14_ ⟨rfl, hf⟩
      have HA15_ : Hid (Fresh w w14_) := Lib.hid (HA10_.out.trans hf)
      have HA16_ : Hid (Fresh w2 w14_) := Lib.hid (HA11_.out.trans hf)
      have HA17_ : Hid (Fresh w2 w14_) := Lib.hid (HA12_.out.trans hf)
      have HA18_ : Hid (Fresh w6_ w14_) := Lib.hid (HA13_.out.trans hf)
      clear hf
      try simp only [stV, atS]
      go_wp2_with fail
      refine hK _ _ HA17_.out ?_
      clear hK K
      refine ord_loud rfl (fun K hK => ?_)
      go_wp2_with fail
      refine (into_c (.slice pa n ca) (s0) _ (HS.out.fresh HA15_.out)).mono ?_
      rintro e w19_ ⟨rfl, hf⟩
      have HA20_ : Hid (Fresh w w19_) := Lib.hid (HA15_.out.trans hf)
      have HA21_ : Hid (Fresh w2 w19_) := Lib.hid (HA16_.out.trans hf)
      have HA22_ : Hid (Fresh w2 w19_) := Lib.hid (HA17_.out.trans hf)
      have HA23_ : Hid (Fresh w6_ w19_) := Lib.hid (HA18_.out.trans hf)
      clear hf
      try simp only [stV, intoS]
      go_wp2_with fail
      refine hK _ _ HA22_.out ?_
      clear hK K
      refine ord_loud rfl (fun K hK => ?_)
      go_wp2_with fail
      generalize hw25_ : w19_.alloc _ = w24_
      have HA27_ : Hid (Fresh w w24_) := Lib.hid ((by rw [← hw25_]; exact HA20_.out.alloc _))
      have HA28_ : Hid (Fresh w2 w24_) := Lib.hid ((by rw [← hw25_]; exact HA21_.out.alloc _))
      have HA29_ : Hid (Fresh w2 w24_) := Lib.hid ((by rw [← hw25_]; exact HA22_.out.alloc _))
      have HA30_ : Hid (Fresh w6_ w24_) := Lib.hid ((by rw [← hw25_]; exact HA23_.out.alloc _))
      have HB26_ := Lib.hid hw25_
      clear hw25_
      refine hK _ _ HA29_.out ?_
      clear hK K
      refine ord_loud rfl (fun K hK => ?_)
      go_wp2_with fail
      refine (ran_lit (.slice p7_ (nonL nonce long).length c8_) _ key (nonL nonce long) (xs (fun i => (ckOf key (nonL nonce long)).ks (64 * c.toNat + i)) s0) [(.slice none 0 0, atS (c)), (.slice pa n ca, intoS (s0))] _ HKL.out (HN9_.out.fresh HA30_.out) (nonL_len HNL.out long) (StepsL.lit (b := w19_.heap.size) [(.slice none 0 0, atS (c)), (.slice pa n ca, intoS (s0))] (by rw [← HB26_.out]; exact heap_alloc_new _ _) rfl (Nat.le_of_ble_eq_true rfl) ?_) (Nat.le_of_ble_eq_true rfl) ?_ (Ran.one _ c s0 (by rw [← HE.out]; exact HWI.out.2)) (by rw [HXL.out]; omega)).mono ?_
      · intro q hq; simp only [List.mem_cons, List.not_mem_nil, or_false] at hq; rcases hq with rfl | rfl
        · exact SlB.nil _
        · exact HS.out.fresh HA27_.out
      · intro q hq; simp only [List.mem_cons, List.not_mem_nil, or_false] at hq; rcases hq with rfl | rfl
        · exact okAt _
        · exact okInto (by rw [← HE.out]; omega)
      rintro e w31_ ⟨v32_, rfl, ho, hf⟩
      obtain ⟨p33_, c34_, hv⟩ := ho.slice
      rw [HXL.out] at hv
      subst hv
      have HO35_ := Lib.hid ho.sl
      have HA36_ : Hid (Fresh w w31_) := Lib.hid (HA27_.out.trans hf)
      have HA37_ : Hid (Fresh w2 w31_) := Lib.hid (HA28_.out.trans hf)
      have HA38_ : Hid (Fresh w2 w31_) := Lib.hid (HA29_.out.trans hf)
      have HA39_ : Hid (Fresh w6_ w31_) := Lib.hid (HA30_.out.trans hf)
      clear ho hf
      have HA40_ : Hid (Fresh w31_ w31_) := Lib.hid (Keeps.refl _ _)
      go_wp2_with fail
      refine hK _ _ HA38_.out ?_
      clear hK K
      iterate 5 (refine ord_quiet rfl (fun K hK => ?_); go_simp; refine hK _ ?_; clear hK K)
      refine ord_last ?_
      go_wp2_with fail
      refine wp_region_ord (fun w' => Fresh w31_ w') [(0, true), (1, true), (2, true), (4, true), (6, true), (7, true), (8, true), (3, false), (5, false), (9, false), (10, false), (11, false), (12, true), (13, true), (15, true), (14, true), (16, true)] (by kernel_rfl) (by kernel_rfl) ((Keeps.refl _ w31_).drew) ?_
      have HA41_ : Hid (Fresh w31_ w31_) := Lib.hid (Keeps.refl _ _)
      have HA42_ : Hid (Fresh w w31_.drew) := Lib.hid (HA36_.out.drew)
      have HA43_ : Hid (Fresh w2 w31_.drew) := Lib.hid (HA37_.out.drew)
      have HA44_ : Hid (Fresh w31_ w31_.drew) := Lib.hid (HA40_.out.drew)
      have HA45_ : Hid (Fresh w31_ w31_.drew) := Lib.hid (HA41_.out.drew)
      refine ord_load (.agg (cells8 key)) rfl (by rfl) (fun w' hw' => load32 _ rfl rfl HKL.out HBK.out (HA37_.out.trans hw')) ?_
      refine ord_load (.agg (cells8 nonce)) rfl (by rfl) (fun w' hw' => load24 _ rfl rfl HNL.out HBN.out (HA37_.out.trans hw')) ?_
      iterate 5 (refine ord_quiet rfl (fun K hK => ?_); go_simp; refine hK _ ?_; clear hK K)
      refine ord_loud rfl (fun K hK => ?_)
      go_wp2_with fail
      refine (nonceOf_c nonce long _ HNL.out).mono ?_
      rintro e w46_ ⟨vN, rfl, hs, hf⟩
      obtain ⟨p47_, c48_, rfl⟩ := hs.slice
      have HN49_ := Lib.hid hs
      have HA50_ : Hid (Fresh w w46_) := Lib.hid (HA42_.out.trans hf)
      have HA51_ : Hid (Fresh w2 w46_) := Lib.hid (HA43_.out.trans hf)
      have HA52_ : Hid (Fresh w31_ w46_) := Lib.hid (HA44_.out.trans hf)
      have HA53_ : Hid (Fresh w31_ w46_) := Lib.hid (HA45_.out.trans hf)
      clear hs hf
      have HA54_ : Hid (Fresh w46_ w46_) := Lib.hid (Keeps.refl _ _)
      go_wp2_with fail
      refine hK _ _ HA53_.out ?_
      clear hK K
      refine ord_loud rfl (fun K hK => ?_)
      go_wp2_with fail
      refine (at_c (c) _).mono ?_
      rintro e w55_ ⟨rfl, hf⟩
      have HA56_ : Hid (Fresh w w55_) := Lib.hid (HA50_.out.trans hf)
      have HA57_ : Hid (Fresh w2 w55_) := Lib.hid (HA51_.out.trans hf)
      have HA58_ : Hid (Fresh w31_ w55_) := Lib.hid (HA52_.out.trans hf)
      have HA59_ : Hid (Fresh w31_ w55_) := Lib.hid (HA53_.out.trans hf)
      have HA60_ : Hid (Fresh w46_ w55_) := Lib.hid (HA54_.out.trans hf)
      clear hf
      try simp only [stV, atS]
      go_wp2_with fail
      refine hK _ _ HA59_.out ?_
      clear hK K
      refine ord_loud rfl (fun K hK => ?_)
      go_wp2_with fail
      refine (into_c (.slice pa r ca) (s0.take r) _ (HSC.out.fresh HA56_.out)).mono ?_
      rintro e w61_ ⟨rfl, hf⟩
      have HA62_ : Hid (Fresh w w61_) := Lib.hid (HA56_.out.trans hf)
      have HA63_ : Hid (Fresh w2 w61_) := Lib.hid (HA57_.out.trans hf)
      have HA64_ : Hid (Fresh w31_ w61_) := Lib.hid (HA58_.out.trans hf)
      have HA65_ : Hid (Fresh w31_ w61_) := Lib.hid (HA59_.out.trans hf)
      have HA66_ : Hid (Fresh w46_ w61_) := Lib.hid (HA60_.out.trans hf)
      clear hf
      try simp only [stV, intoS]
      go_wp2_with fail
      refine hK _ _ HA65_.out ?_
      clear hK K
      refine ord_loud rfl (fun K hK => ?_)
      go_wp2_with fail
      generalize hw68_ : w61_.alloc _ = w67_
      have HA70_ : Hid (Fresh w w67_) := Lib.hid ((by rw [← hw68_]; exact HA62_.out.alloc _))
      have HA71_ : Hid (Fresh w2 w67_) := Lib.hid ((by rw [← hw68_]; exact HA63_.out.alloc _))
      have HA72_ : Hid (Fresh w31_ w67_) := Lib.hid ((by rw [← hw68_]; exact HA64_.out.alloc _))
      have HA73_ : Hid (Fresh w31_ w67_) := Lib.hid ((by rw [← hw68_]; exact HA65_.out.alloc _))
      have HA74_ : Hid (Fresh w46_ w67_) := Lib.hid ((by rw [← hw68_]; exact HA66_.out.alloc _))
      have HB69_ := Lib.hid hw68_
      clear hw68_
      refine hK _ _ HA73_.out ?_
      clear hK K
      refine ord_loud rfl (fun K hK => ?_)
      go_wp2_with fail
      refine (ran_lit (.slice p47_ (nonL nonce long).length c48_) _ key (nonL nonce long) ((xs (fun i => (ckOf key (nonL nonce long)).ks (64 * c.toNat + i)) s0).take r) [(.slice none 0 0, atS (c)), (.slice pa r ca, intoS (s0.take r))] _ HKL.out (HN49_.out.fresh HA74_.out) (nonL_len HNL.out long) (StepsL.lit (b := w61_.heap.size) [(.slice none 0 0, atS (c)), (.slice pa r ca, intoS (s0.take r))] (by rw [← HB69_.out]; exact heap_alloc_new _ _) rfl (Nat.le_of_ble_eq_true rfl) ?_) (Nat.le_of_ble_eq_true rfl) ?_ (by rw [xs_take _ _ _ (by rw [← HE.out]; exact HKN.out)]; exact Ran.one _ c (s0.take r) (by rw [HKL2.out]; have := HWI.out.2; have := HKN.out; omega)) (by rw [List.length_take, HXL.out]; omega)).mono ?_
      · intro q hq; simp only [List.mem_cons, List.not_mem_nil, or_false] at hq; rcases hq with rfl | rfl
        · exact SlB.nil _
        · exact HSC.out.fresh HA70_.out
      · intro q hq; simp only [List.mem_cons, List.not_mem_nil, or_false] at hq; rcases hq with rfl | rfl
        · exact okAt _
        · exact okInto (by rw [HKL2.out]; omega)
      rintro e w75_ ⟨v76_, rfl, ho, hf⟩
      obtain ⟨p77_, c78_, hv⟩ := ho.slice
      rw [List.length_take, HXL.out, Nat.min_eq_left HKN.out] at hv
      subst hv
      have HO79_ := Lib.hid ho.sl
      have HA80_ : Hid (Fresh w w75_) := Lib.hid (HA70_.out.trans hf)
      have HA81_ : Hid (Fresh w2 w75_) := Lib.hid (HA71_.out.trans hf)
      have HA82_ : Hid (Fresh w31_ w75_) := Lib.hid (HA72_.out.trans hf)
      have HA83_ : Hid (Fresh w31_ w75_) := Lib.hid (HA73_.out.trans hf)
      have HA84_ : Hid (Fresh w46_ w75_) := Lib.hid (HA74_.out.trans hf)
      clear ho hf
      have HA85_ : Hid (Fresh w75_ w75_) := Lib.hid (Keeps.refl _ _)
      go_wp2_with fail
      refine hK _ _ HA83_.out ?_
      clear hK K
      iterate 5 (refine ord_quiet rfl (fun K hK => ?_); go_simp; refine hK _ ?_; clear hK K)
      refine ord_last ?_
      have hcapA : (r : Int) ≤ c34_ := by have := HO35_.out.cap; have := HKN.out; omega
      go_wp2_with fail
      refine wp_region_ord (fun w' => Fresh w75_ w') [(0, true), (1, true), (2, true), (3, true), (4, true), (5, true), (6, true), (7, true), (8, true), (9, true), (10, true), (11, true), (12, true), (13, true), (14, true), (15, true), (16, true), (17, true), (18, true), (19, true), (20, true)] (by kernel_rfl) (by kernel_rfl) ((Keeps.refl _ w75_).drew) ?_
      have HA86_ : Hid (Fresh w75_ w75_) := Lib.hid (Keeps.refl _ _)
      have HA87_ : Hid (Fresh w w75_.drew) := Lib.hid (HA80_.out.drew)
      have HA88_ : Hid (Fresh w2 w75_.drew) := Lib.hid (HA81_.out.drew)
      have HA89_ : Hid (Fresh w31_ w75_.drew) := Lib.hid (HA82_.out.drew)
      have HA90_ : Hid (Fresh w75_ w75_.drew) := Lib.hid (HA85_.out.drew)
      have HA91_ : Hid (Fresh w75_ w75_.drew) := Lib.hid (HA86_.out.drew)
      iterate 15 (refine ord_quiet rfl (fun K hK => ?_); go_simp; refine hK _ ?_; clear hK K)
      refine ord_load (.string (strB ((xs (fun i => (ckOf key (nonL nonce long)).ks (64 * c.toNat + i)) s0).take r))) rfl (by rfl) (fun w' hw' => ?_) ?_
      · have hr := run_strB w' _ _ (SlB.cut (HO35_.out.fresh (HA82_.out.trans hw')) (HXL.out _).symm HKN.out)
        go_simp
      iterate 1 (refine ord_quiet rfl (fun K hK => ?_); go_simp; refine hK _ ?_; clear hK K)
      refine ord_load (.string (strB ((xs (fun i => (ckOf key (nonL nonce long)).ks (64 * c.toNat + i)) s0).take r))) rfl (by rfl) (fun w' hw' => ?_) ?_
      · have hr := run_strB w' _ _ (HO79_.out.fresh (HA85_.out.trans hw'))
        go_simp
      iterate 3 (refine ord_quiet rfl (fun K hK => ?_); go_simp; refine hK _ ?_; clear hK K)
      refine ord_last ?_
      go_wp2_with fail
      go_ret
      exact ⟨rfl, HA87_.out⟩
    · have hrn1 : (n : Int) < r := by omega
      have hrn2 : ¬ (r : Int) ≤ n := by omega
      have hkc : (n : Int) ≤ ca := by omega
      have hk0 : (0 : Int) ≤ n := by omega
      have HKN : Hid (n ≤ n) := Lib.hid (by omega)
      have HKL2 : Hid ((s0.take n).length = n) := Lib.hid (by rw [List.length_take, ← HE.out]; omega)
      have HSC := Lib.hid (HS.out.cut HE.out HKN.out)
      clear hrn
      go_wp2_with fail
      refine wp_region_ord (fun w' => Fresh w2 w') [(0, true), (1, true), (2, true), (4, true), (6, true), (3, false), (5, false), (7, false), (8, false), (9, false), (10, true), (11, true), (13, true), (12, true), (14, true)] (by kernel_rfl) (by kernel_rfl) ((Keeps.refl _ w2).drew) ?_
      have HA2_ : Hid (Fresh w2 w2) := Lib.hid (Keeps.refl _ _)
      have HA3_ : Hid (Fresh w w2.drew) := Lib.hid (HF2.out.drew)
      have HA4_ : Hid (Fresh w2 w2.drew) := Lib.hid (HA1_.out.drew)
      have HA5_ : Hid (Fresh w2 w2.drew) := Lib.hid (HA2_.out.drew)
      refine ord_load (.agg (cells8 key)) rfl (by rfl) (fun w' hw' => load32 _ rfl rfl HKL.out HBK.out (HA1_.out.trans hw')) ?_
      refine ord_load (.agg (cells8 nonce)) rfl (by rfl) (fun w' hw' => load24 _ rfl rfl HNL.out HBN.out (HA1_.out.trans hw')) ?_
      iterate 3 (refine ord_quiet rfl (fun K hK => ?_); go_simp; refine hK _ ?_; clear hK K)
      refine ord_loud rfl (fun K hK => ?_)
      go_wp2_with fail
      refine (nonceOf_c nonce long _ HNL.out).mono ?_
      rintro e w6_ ⟨vN, rfl, hs, hf⟩
      obtain ⟨p7_, c8_, rfl⟩ := hs.slice
      have HN9_ := Lib.hid hs
      have HA10_ : Hid (Fresh w w6_) := Lib.hid (HA3_.out.trans hf)
      have HA11_ : Hid (Fresh w2 w6_) := Lib.hid (HA4_.out.trans hf)
      have HA12_ : Hid (Fresh w2 w6_) := Lib.hid (HA5_.out.trans hf)
      clear hs hf
      have HA13_ : Hid (Fresh w6_ w6_) := Lib.hid (Keeps.refl _ _)
      go_wp2_with fail
      refine hK _ _ HA12_.out ?_
      clear hK K
      refine ord_loud rfl (fun K hK => ?_)
      go_wp2_with fail
      refine (at_c (c) _).mono ?_
      rintro e w14_ ⟨rfl, hf⟩
      have HA15_ : Hid (Fresh w w14_) := Lib.hid (HA10_.out.trans hf)
      have HA16_ : Hid (Fresh w2 w14_) := Lib.hid (HA11_.out.trans hf)
      have HA17_ : Hid (Fresh w2 w14_) := Lib.hid (HA12_.out.trans hf)
      have HA18_ : Hid (Fresh w6_ w14_) := Lib.hid (HA13_.out.trans hf)
      clear hf
      try simp only [stV, atS]
      go_wp2_with fail
      refine hK _ _ HA17_.out ?_
      clear hK K
      refine ord_loud rfl (fun K hK => ?_)
      go_wp2_with fail
      refine (into_c (.slice pa n ca) (s0) _ (HS.out.fresh HA15_.out)).mono ?_
      rintro e w19_ ⟨rfl, hf⟩
      have HA20_ : Hid (Fresh w w19_) := Lib.hid (HA15_.out.trans hf)
      have HA21_ : Hid (Fresh w2 w19_) := Lib.hid (HA16_.out.trans hf)
      have HA22_ : Hid (Fresh w2 w19_) := Lib.hid (HA17_.out.trans hf)
      have HA23_ : Hid (Fresh w6_ w19_) := Lib.hid (HA18_.out.trans hf)
      clear hf
      try simp only [stV, intoS]
      go_wp2_with fail
      refine hK _ _ HA22_.out ?_
      clear hK K
      refine ord_loud rfl (fun K hK => ?_)
      go_wp2_with fail
      generalize hw25_ : w19_.alloc _ = w24_
      have HA27_ : Hid (Fresh w w24_) := Lib.hid ((by rw [← hw25_]; exact HA20_.out.alloc _))
      have HA28_ : Hid (Fresh w2 w24_) := Lib.hid ((by rw [← hw25_]; exact HA21_.out.alloc _))
      have HA29_ : Hid (Fresh w2 w24_) := Lib.hid ((by rw [← hw25_]; exact HA22_.out.alloc _))
      have HA30_ : Hid (Fresh w6_ w24_) := Lib.hid ((by rw [← hw25_]; exact HA23_.out.alloc _))
      have HB26_ := Lib.hid hw25_
      clear hw25_
      refine hK _ _ HA29_.out ?_
      clear hK K
      refine ord_loud rfl (fun K hK => ?_)
      go_wp2_with fail
      refine (ran_lit (.slice p7_ (nonL nonce long).length c8_) _ key (nonL nonce long) (xs (fun i => (ckOf key (nonL nonce long)).ks (64 * c.toNat + i)) s0) [(.slice none 0 0, atS (c)), (.slice pa n ca, intoS (s0))] _ HKL.out (HN9_.out.fresh HA30_.out) (nonL_len HNL.out long) (StepsL.lit (b := w19_.heap.size) [(.slice none 0 0, atS (c)), (.slice pa n ca, intoS (s0))] (by rw [← HB26_.out]; exact heap_alloc_new _ _) rfl (Nat.le_of_ble_eq_true rfl) ?_) (Nat.le_of_ble_eq_true rfl) ?_ (Ran.one _ c s0 (by rw [← HE.out]; exact HWI.out.2)) (by rw [HXL.out]; omega)).mono ?_
      · intro q hq; simp only [List.mem_cons, List.not_mem_nil, or_false] at hq; rcases hq with rfl | rfl
        · exact SlB.nil _
        · exact HS.out.fresh HA27_.out
      · intro q hq; simp only [List.mem_cons, List.not_mem_nil, or_false] at hq; rcases hq with rfl | rfl
        · exact okAt _
        · exact okInto (by rw [← HE.out]; omega)
      rintro e w31_ ⟨v32_, rfl, ho, hf⟩
      obtain ⟨p33_, c34_, hv⟩ := ho.slice
      rw [HXL.out] at hv
      subst hv
      have HO35_ := Lib.hid ho.sl
      have HA36_ : Hid (Fresh w w31_) := Lib.hid (HA27_.out.trans hf)
      have HA37_ : Hid (Fresh w2 w31_) := Lib.hid (HA28_.out.trans hf)
      have HA38_ : Hid (Fresh w2 w31_) := Lib.hid (HA29_.out.trans hf)
      have HA39_ : Hid (Fresh w6_ w31_) := Lib.hid (HA30_.out.trans hf)
      clear ho hf
      have HA40_ : Hid (Fresh w31_ w31_) := Lib.hid (Keeps.refl _ _)
      go_wp2_with fail
      refine hK _ _ HA38_.out ?_
      clear hK K
      iterate 5 (refine ord_quiet rfl (fun K hK => ?_); go_simp; refine hK _ ?_; clear hK K)
      refine ord_last ?_
      go_wp2_with fail
      refine wp_region_ord (fun w' => Fresh w31_ w') [(0, true), (1, true), (2, true), (4, true), (6, true), (7, true), (8, true), (3, false), (5, false), (9, false), (10, false), (11, false), (12, true), (13, true), (15, true), (14, true), (16, true)] (by kernel_rfl) (by kernel_rfl) ((Keeps.refl _ w31_).drew) ?_
      have HA41_ : Hid (Fresh w31_ w31_) := Lib.hid (Keeps.refl _ _)
      have HA42_ : Hid (Fresh w w31_.drew) := Lib.hid (HA36_.out.drew)
      have HA43_ : Hid (Fresh w2 w31_.drew) := Lib.hid (HA37_.out.drew)
      have HA44_ : Hid (Fresh w31_ w31_.drew) := Lib.hid (HA40_.out.drew)
      have HA45_ : Hid (Fresh w31_ w31_.drew) := Lib.hid (HA41_.out.drew)
      refine ord_load (.agg (cells8 key)) rfl (by rfl) (fun w' hw' => load32 _ rfl rfl HKL.out HBK.out (HA37_.out.trans hw')) ?_
      refine ord_load (.agg (cells8 nonce)) rfl (by rfl) (fun w' hw' => load24 _ rfl rfl HNL.out HBN.out (HA37_.out.trans hw')) ?_
      iterate 5 (refine ord_quiet rfl (fun K hK => ?_); go_simp; refine hK _ ?_; clear hK K)
      refine ord_loud rfl (fun K hK => ?_)
      go_wp2_with fail
      refine (nonceOf_c nonce long _ HNL.out).mono ?_
      rintro e w46_ ⟨vN, rfl, hs, hf⟩
      obtain ⟨p47_, c48_, rfl⟩ := hs.slice
      have HN49_ := Lib.hid hs
      have HA50_ : Hid (Fresh w w46_) := Lib.hid (HA42_.out.trans hf)
      have HA51_ : Hid (Fresh w2 w46_) := Lib.hid (HA43_.out.trans hf)
      have HA52_ : Hid (Fresh w31_ w46_) := Lib.hid (HA44_.out.trans hf)
      have HA53_ : Hid (Fresh w31_ w46_) := Lib.hid (HA45_.out.trans hf)
      clear hs hf
      have HA54_ : Hid (Fresh w46_ w46_) := Lib.hid (Keeps.refl _ _)
      go_wp2_with fail
      refine hK _ _ HA53_.out ?_
      clear hK K
      refine ord_loud rfl (fun K hK => ?_)
      go_wp2_with fail
      refine (at_c (c) _).mono ?_
      rintro e w55_ ⟨rfl, hf⟩
      have HA56_ : Hid (Fresh w w55_) := Lib.hid (HA50_.out.trans hf)
      have HA57_ : Hid (Fresh w2 w55_) := Lib.hid (HA51_.out.trans hf)
      have HA58_ : Hid (Fresh w31_ w55_) := Lib.hid (HA52_.out.trans hf)
      have HA59_ : Hid (Fresh w31_ w55_) := Lib.hid (HA53_.out.trans hf)
      have HA60_ : Hid (Fresh w46_ w55_) := Lib.hid (HA54_.out.trans hf)
      clear hf
      try simp only [stV, atS]
      go_wp2_with fail
      refine hK _ _ HA59_.out ?_
      clear hK K
      refine ord_loud rfl (fun K hK => ?_)
      go_wp2_with fail
      refine (into_c (.slice pa n ca) (s0.take n) _ (HSC.out.fresh HA56_.out)).mono ?_
      rintro e w61_ ⟨rfl, hf⟩
      have HA62_ : Hid (Fresh w w61_) := Lib.hid (HA56_.out.trans hf)
      have HA63_ : Hid (Fresh w2 w61_) := Lib.hid (HA57_.out.trans hf)
      have HA64_ : Hid (Fresh w31_ w61_) := Lib.hid (HA58_.out.trans hf)
      have HA65_ : Hid (Fresh w31_ w61_) := Lib.hid (HA59_.out.trans hf)
      have HA66_ : Hid (Fresh w46_ w61_) := Lib.hid (HA60_.out.trans hf)
      clear hf
      try simp only [stV, intoS]
      go_wp2_with fail
      refine hK _ _ HA65_.out ?_
      clear hK K
      refine ord_loud rfl (fun K hK => ?_)
      go_wp2_with fail
      generalize hw68_ : w61_.alloc _ = w67_
      have HA70_ : Hid (Fresh w w67_) := Lib.hid ((by rw [← hw68_]; exact HA62_.out.alloc _))
      have HA71_ : Hid (Fresh w2 w67_) := Lib.hid ((by rw [← hw68_]; exact HA63_.out.alloc _))
      have HA72_ : Hid (Fresh w31_ w67_) := Lib.hid ((by rw [← hw68_]; exact HA64_.out.alloc _))
      have HA73_ : Hid (Fresh w31_ w67_) := Lib.hid ((by rw [← hw68_]; exact HA65_.out.alloc _))
      have HA74_ : Hid (Fresh w46_ w67_) := Lib.hid ((by rw [← hw68_]; exact HA66_.out.alloc _))
      have HB69_ := Lib.hid hw68_
      clear hw68_
      refine hK _ _ HA73_.out ?_
      clear hK K
      refine ord_loud rfl (fun K hK => ?_)
      go_wp2_with fail
      refine (ran_lit (.slice p47_ (nonL nonce long).length c48_) _ key (nonL nonce long) ((xs (fun i => (ckOf key (nonL nonce long)).ks (64 * c.toNat + i)) s0).take n) [(.slice none 0 0, atS (c)), (.slice pa n ca, intoS (s0.take n))] _ HKL.out (HN49_.out.fresh HA74_.out) (nonL_len HNL.out long) (StepsL.lit (b := w61_.heap.size) [(.slice none 0 0, atS (c)), (.slice pa n ca, intoS (s0.take n))] (by rw [← HB69_.out]; exact heap_alloc_new _ _) rfl (Nat.le_of_ble_eq_true rfl) ?_) (Nat.le_of_ble_eq_true rfl) ?_ (by rw [xs_take _ _ _ (by rw [← HE.out]; exact HKN.out)]; exact Ran.one _ c (s0.take n) (by rw [HKL2.out]; have := HWI.out.2; have := HKN.out; omega)) (by rw [List.length_take, HXL.out]; omega)).mono ?_
      · intro q hq; simp only [List.mem_cons, List.not_mem_nil, or_false] at hq; rcases hq with rfl | rfl
        · exact SlB.nil _
        · exact HSC.out.fresh HA70_.out
      · intro q hq; simp only [List.mem_cons, List.not_mem_nil, or_false] at hq; rcases hq with rfl | rfl
        · exact okAt _
        · exact okInto (by rw [HKL2.out]; omega)
      rintro e w75_ ⟨v76_, rfl, ho, hf⟩
      obtain ⟨p77_, c78_, hv⟩ := ho.slice
      rw [List.length_take, HXL.out, Nat.min_eq_left HKN.out] at hv
      subst hv
      have HO79_ := Lib.hid ho.sl
      have HA80_ : Hid (Fresh w w75_) := Lib.hid (HA70_.out.trans hf)
      have HA81_ : Hid (Fresh w2 w75_) := Lib.hid (HA71_.out.trans hf)
      have HA82_ : Hid (Fresh w31_ w75_) := Lib.hid (HA72_.out.trans hf)
      have HA83_ : Hid (Fresh w31_ w75_) := Lib.hid (HA73_.out.trans hf)
      have HA84_ : Hid (Fresh w46_ w75_) := Lib.hid (HA74_.out.trans hf)
      clear ho hf
      have HA85_ : Hid (Fresh w75_ w75_) := Lib.hid (Keeps.refl _ _)
      go_wp2_with fail
      refine hK _ _ HA83_.out ?_
      clear hK K
      iterate 5 (refine ord_quiet rfl (fun K hK => ?_); go_simp; refine hK _ ?_; clear hK K)
      refine ord_last ?_
      have hcapA : (n : Int) ≤ c34_ := by have := HO35_.out.cap; have := HKN.out; omega
      go_wp2_with fail
      refine wp_region_ord (fun w' => Fresh w75_ w') [(0, true), (1, true), (2, true), (3, true), (4, true), (5, true), (6, true), (7, true), (8, true), (9, true), (10, true), (11, true), (12, true), (13, true), (14, true), (15, true), (16, true), (17, true), (18, true), (19, true), (20, true)] (by kernel_rfl) (by kernel_rfl) ((Keeps.refl _ w75_).drew) ?_
      have HA86_ : Hid (Fresh w75_ w75_) := Lib.hid (Keeps.refl _ _)
      have HA87_ : Hid (Fresh w w75_.drew) := Lib.hid (HA80_.out.drew)
      have HA88_ : Hid (Fresh w2 w75_.drew) := Lib.hid (HA81_.out.drew)
      have HA89_ : Hid (Fresh w31_ w75_.drew) := Lib.hid (HA82_.out.drew)
      have HA90_ : Hid (Fresh w75_ w75_.drew) := Lib.hid (HA85_.out.drew)
      have HA91_ : Hid (Fresh w75_ w75_.drew) := Lib.hid (HA86_.out.drew)
      iterate 15 (refine ord_quiet rfl (fun K hK => ?_); go_simp; refine hK _ ?_; clear hK K)
      refine ord_load (.string (strB ((xs (fun i => (ckOf key (nonL nonce long)).ks (64 * c.toNat + i)) s0).take n))) rfl (by rfl) (fun w' hw' => ?_) ?_
      · have hr := run_strB w' _ _ (SlB.cut (HO35_.out.fresh (HA82_.out.trans hw')) (HXL.out _).symm HKN.out)
        go_simp
      iterate 1 (refine ord_quiet rfl (fun K hK => ?_); go_simp; refine hK _ ?_; clear hK K)
      refine ord_load (.string (strB ((xs (fun i => (ckOf key (nonL nonce long)).ks (64 * c.toNat + i)) s0).take n))) rfl (by rfl) (fun w' hw' => ?_) ?_
      · have hr := run_strB w' _ _ (HO79_.out.fresh (HA85_.out.trans hw'))
        go_simp
      iterate 3 (refine ord_quiet rfl (fun K hK => ?_); go_simp; refine hK _ ?_; clear hK K)
      refine ord_last ?_
      go_wp2_with fail
      go_ret
      exact ⟨rfl, HA87_.out⟩
end Go.Proofs.Ytaapglpnofmmlaa
