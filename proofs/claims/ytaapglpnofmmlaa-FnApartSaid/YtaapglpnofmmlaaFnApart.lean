/-
  The walk of laws.FnApart.
-/
import Derived.Test.YtaapglpnofmmlaaSpecX
import Derived.Test.YtaapglpnofmmlaaHeld
import Derived.Deep.QuietTactic
namespace Go.Proofs.Ytaapglpnofmmlaa
open Go Go.RowKit
set_option linter.unusedVariables false
attribute [local irreducible] Cha.iter Cha.rounds Cha.dbl Cha.qr ckOf run doA doN CK.ks withinB xs
/-- bytes that were put to others: the others again -/
theorem xs_back (z : Nat → UInt8) (s : List UInt8) : xs (fun i => s.getD i 0) (xs z s) = (List.range s.length).map z := by
  apply List.ext_getElem
  · rw [xs_len, xs_len]; simp
  · intro i h1 h2
    rw [xs_len, xs_len] at h1
    have e := xs_get (fun i => s.getD i 0) (xs z s) (i := i) (by rw [xs_len]; exact h1)
    rw [xs_get z s h1, UInt8.xor_comm (s.getD i 0) (z i), UInt8.xor_assoc, UInt8.xor_self, UInt8.xor_zero] at e
    simp only [List.getD] at e
    rw [List.getElem?_eq_getElem (by rw [xs_len, xs_len]; exact h1)] at e
    simpa using e
set_option maxRecDepth 100000 in
set_option maxHeartbeats 4000000 in
theorem fnApart_c (key nonce x y : List UInt8) (long : Bool) (c : UInt32) (vx vy : Value) (w : World) (hk : key.length = 32) (hnl : nonce.length = 24) (hsx : SlB w vx x) (hlx : x.length ≤ 140737488351232) (hsy : SlB w vy y) (hly : y.length ≤ 140737488351232) :
    Calls Try.prog 4 #[.agg (cells8 key), .agg (cells8 nonce), .bool long, .int .u32 (u32 c), vx, vy] w fun e w' => e = .returned (.bool true) ∧ Fresh w w' := by
  obtain ⟨pax, cax, rfl⟩ := hsx.slice
  obtain ⟨nx, hnx⟩ : ∃ n, n = x.length := ⟨_, rfl⟩
  rw [← hnx] at hsx hlx ⊢
  have HSx := Lib.hid hsx
  have HEx := Lib.hid hnx
  clear hsx hnx
  obtain ⟨pay, cay, rfl⟩ := hsy.slice
  obtain ⟨ny, hny⟩ : ∃ n, n = y.length := ⟨_, rfl⟩
  rw [← hny] at hsy hly ⊢
  have HSy := Lib.hid hsy
  have HEy := Lib.hid hny
  clear hsy hny
  have HKL := Lib.hid hk
  have HNL := Lib.hid hnl
  have h1 := cells8_one key
  have h2 := cells8_one nonce
  clear hk hnl
  by_cases hxy : nx ≤ ny
  · have hm1 : (nx : Int) ≤ ny := by omega
    have hm2 : ¬ (ny : Int) < nx := by omega
    have hcx : (nx : Int) ≤ cax := by have := HSx.out.cap; omega
    have hcy : (nx : Int) ≤ cay := by have := HSy.out.cap; omega
    have hn0 : (0 : Int) ≤ nx := by omega
    have HSX := Lib.hid (HSx.out.cut HEx.out (k := nx) (by omega))
    have HSY := Lib.hid (HSy.out.cut HEy.out (k := nx) (by omega))
    have HLX : Hid ((x.take nx).length = nx) := Lib.hid (by rw [List.length_take, ← HEx.out]; omega)
    have HLY : Hid ((y.take nx).length = nx) := Lib.hid (by rw [List.length_take, ← HEy.out]; omega)
    clear hxy
    go_enter Try.func4, Try.ntmps4
    go_wp2_with fail
    have HBK := Lib.hid (heap_alloc2_old w (.cells (cells8 key) 27) (.cells (cells8 nonce) 28))
    have HBN := Lib.hid (heap_alloc2_new w (.cells (cells8 key) 27) (.cells (cells8 nonce) 28))
    have HF2 : Hid (Fresh w ((w.alloc (.cells (cells8 key) 27)).alloc (.cells (cells8 nonce) 28))) := Lib.hid (((Keeps.refl _ w).alloc _).alloc _)
    generalize ((w.alloc (.cells (cells8 key) 27)).alloc (.cells (cells8 nonce) 28)) = w2 at HBK HBN HF2 ⊢
    have HA1_ : Hid (Fresh w2 w2) := Lib.hid (Keeps.refl _ _)
    refine (within2_c c nx w2 (by omega)).mono ?_
    rintro e w3 ⟨rfl, hw3⟩
    subst w3
    cases hwi : withinB c nx with
    | false =>
      go_wp2_with fail
      go_ret
      exact ⟨rfl, HF2.out⟩
    | true =>
      have HWI := Lib.hid (within_true hwi)
      clear hwi
      obtain ⟨z, hz⟩ : ∃ z, z = (fun i => (ckOf key (nonL nonce long)).ks (64 * c.toNat + i)) := ⟨_, rfl⟩
      have HRX : Hid (Ran (ckOf key (nonL nonce long)) [atS c, intoS (x.take nx)] (xs z (x.take nx))) := Lib.hid (by rw [hz]; exact Ran.one _ c _ (by rw [HLX.out]; exact HWI.out.2))
      have HRY : Hid (Ran (ckOf key (nonL nonce long)) [atS c, intoS (y.take nx)] (xs z (y.take nx))) := Lib.hid (by rw [hz]; exact Ran.one _ c _ (by rw [HLY.out]; exact HWI.out.2))
      clear hz
      have HXX : Hid ((xs z (x.take nx)).length = nx) := Lib.hid (by rw [xs_len]; exact HLX.out)
      have HXY : Hid ((xs z (y.take nx)).length = nx) := Lib.hid (by rw [xs_len]; exact HLY.out)
      go_wp2_with fail
      refine wp_region_ord (fun w' => Fresh w2 w') [(0, true), (1, true), (2, true), (4, true), (6, true), (7, true), (8, true), (3, false), (5, false), (9, false), (10, false), (11, false), (12, true), (13, true), (15, true), (14, true), (16, true)] (by kernel_rfl) (by kernel_rfl) ((Keeps.refl _ w2).drew) ?_
      have HA2_ : Hid (Fresh w2 w2) := Lib.hid (Keeps.refl _ _)
      have HA3_ : Hid (Fresh w w2.drew) := Lib.hid (HF2.out.drew)
      have HA4_ : Hid (Fresh w2 w2.drew) := Lib.hid (HA1_.out.drew)
      have HA5_ : Hid (Fresh w2 w2.drew) := Lib.hid (HA2_.out.drew)
      refine ord_load (.agg (cells8 key)) rfl (by rfl) (fun w' hw' => load32 _ rfl rfl HKL.out HBK.out (HA1_.out.trans hw')) ?_
      refine ord_load (.agg (cells8 nonce)) rfl (by rfl) (fun w' hw' => load24 _ rfl rfl HNL.out HBN.out (HA1_.out.trans hw')) ?_
      iterate 5 (refine ord_quiet rfl (fun K hK => ?_); go_simp; refine hK _ ?_; clear hK K)
      refine ord_loud rfl (fun K hK => ?_)
      go_wp2_with fail
      refine (nonceOf_c nonce long _ HNL.out).mono ?_
      rintro e w6_ ⟨vN, rfl, hs, hf⟩
      obtain ⟨p7_, c8_, rfl⟩ := hs.slice
      have HN9_ := Lib.hid hs
      have HA10_ : Hid (Fresh w w6_) := Lib.hid (HA3_.out.trans hf)
      have HA11_ : Hid (Fresh w2 w6_) := Lib.hid (HA4_.out.trans hf)
      have HA12_ : Hid (Fresh w2 w6_) := Lib.hid (HA5_.out.trans hf)
      clear hs hf
      have HA13_ : Hid (Fresh w6_ w6_) := Lib.hid (Keeps.refl _ _)
      go_wp2_with fail
      refine hK _ _ HA12_.out ?_
      clear hK K
      refine ord_loud rfl (fun K hK => ?_)
      go_wp2_with fail
      refine (at_c (c) _).mono ?_
      rintro e w14_ ⟨rfl, hf⟩
      have HA15_ : Hid (Fresh w w14_) := Lib.hid (HA10_.out.trans hf)
      have HA16_ : Hid (Fresh w2 w14_) := Lib.hid (HA11_.out.trans hf)
      have HA17_ : Hid (Fresh w2 w14_) := Lib.hid (HA12_.out.trans hf)
      have HA18_ : Hid (Fresh w6_ w14_) := Lib.hid (HA13_.out.trans hf)
      clear hf
      try simp only [stV, atS]
      go_wp2_with fail
      refine hK _ _ HA17_.out ?_
      clear hK K
      refine ord_loud rfl (fun K hK => ?_)
      go_wp2_with fail
      refine (into_c (.slice pax nx cax) (x.take nx) _ (HSX.out.fresh HA15_.out)).mono ?_
      rintro e w19_ ⟨rfl, hf⟩
      have HA20_ : Hid (Fresh w w19_) := Lib.hid (HA15_.out.trans hf)
      have HA21_ : Hid (Fresh w2 w19_) := Lib.hid (HA16_.out.trans hf)
      have HA22_ : Hid (Fresh w2 w19_) := Lib.hid (HA17_.out.trans hf)
      have HA23_ : Hid (Fresh w6_ w19_) := Lib.hid (HA18_.out.trans hf)
      clear hf
      try simp only [stV, intoS]
      go_wp2_with fail
      refine hK _ _ HA22_.out ?_
      clear hK K
      refine ord_loud rfl (fun K hK => ?_)
      go_wp2_with fail
      generalize hw25_ : w19_.alloc _ = w24_
      have HA27_ : Hid (Fresh w w24_) := Lib.hid ((by rw [← hw25_]; exact HA20_.out.alloc _))
      have HA28_ : Hid (Fresh w2 w24_) := Lib.hid ((by rw [← hw25_]; exact HA21_.out.alloc _))
      have HA29_ : Hid (Fresh w2 w24_) := Lib.hid ((by rw [← hw25_]; exact HA22_.out.alloc _))
      have HA30_ : Hid (Fresh w6_ w24_) := Lib.hid ((by rw [← hw25_]; exact HA23_.out.alloc _))
      have HB26_ := Lib.hid hw25_
      clear hw25_
      refine hK _ _ HA29_.out ?_
      clear hK K
      refine ord_loud rfl (fun K hK => ?_)
      go_wp2_with fail
      refine (ran_lit (.slice p7_ (nonL nonce long).length c8_) _ key (nonL nonce long) (xs z (x.take nx)) [(.slice none 0 0, atS (c)), (.slice pax nx cax, intoS (x.take nx))] _ HKL.out (HN9_.out.fresh HA30_.out) (nonL_len HNL.out long) (StepsL.lit (b := w19_.heap.size) [(.slice none 0 0, atS (c)), (.slice pax nx cax, intoS (x.take nx))] (by rw [← HB26_.out]; exact heap_alloc_new _ _) rfl (Nat.le_of_ble_eq_true rfl) ?_) (Nat.le_of_ble_eq_true rfl) ?_ (HRX.out) (by rw [HXX.out]; omega)).mono ?_
      · intro q hq; simp only [List.mem_cons, List.not_mem_nil, or_false] at hq; rcases hq with rfl | rfl
        · exact SlB.nil _
        · exact HSX.out.fresh HA27_.out
      · intro q hq; simp only [List.mem_cons, List.not_mem_nil, or_false] at hq; rcases hq with rfl | rfl
        · exact okAt _
        · exact okInto (by rw [HLX.out]; omega)
      rintro e w31_ ⟨v32_, rfl, ho, hf⟩
      obtain ⟨p33_, c34_, hv⟩ := ho.slice
      rw [HXX.out] at hv
      subst hv
      have HO35_ := Lib.hid ho.sl
      have HA36_ : Hid (Fresh w w31_) := Lib.hid (HA27_.out.trans hf)
      have HA37_ : Hid (Fresh w2 w31_) := Lib.hid (HA28_.out.trans hf)
      have HA38_ : Hid (Fresh w2 w31_) := Lib.hid (HA29_.out.trans hf)
      have HA39_ : Hid (Fresh w6_ w31_) := Lib.hid (HA30_.out.trans hf)
      clear ho hf
      have HA40_ : Hid (Fresh w31_ w31_) := Lib.hid (Keeps.refl _ _)
      go_wp2_with fail
      refine hK _ _ HA38_.out ?_
      clear hK K
      iterate 5 (refine ord_quiet rfl (fun K hK => ?_); go_simp; refine hK _ ?_; clear hK K)
      refine ord_last ?_
      go_wp2_with fail
      refine wp_region_ord (fun w' => Fresh w31_ w') [(0, true), (1, true), (2, true), (4, true), (6, true), (7, true), (8, true), (3, false), (5, false), (9, false), (10, false), (11, false), (12, true), (13, true), (15, true), (14, true), (16, true)] (by kernel_rfl) (by kernel_rfl) ((Keeps.refl _ w31_).drew) ?_
      have HA41_ : Hid (Fresh w31_ w31_) := Lib.hid (Keeps.refl _ _)
      have HA42_ : Hid (Fresh w w31_.drew) := Lib.hid (HA36_.out.drew)
      have HA43_ : Hid (Fresh w2 w31_.drew) := Lib.hid (HA37_.out.drew)
      have HA44_ : Hid (Fresh w31_ w31_.drew) := Lib.hid (HA40_.out.drew)
      have HA45_ : Hid (Fresh w31_ w31_.drew) := Lib.hid (HA41_.out.drew)
      refine ord_load (.agg (cells8 key)) rfl (by rfl) (fun w' hw' => load32 _ rfl rfl HKL.out HBK.out (HA37_.out.trans hw')) ?_
      refine ord_load (.agg (cells8 nonce)) rfl (by rfl) (fun w' hw' => load24 _ rfl rfl HNL.out HBN.out (HA37_.out.trans hw')) ?_
      iterate 5 (refine ord_quiet rfl (fun K hK => ?_); go_simp; refine hK _ ?_; clear hK K)
      refine ord_loud rfl (fun K hK => ?_)
      go_wp2_with fail
      refine (nonceOf_c nonce long _ HNL.out).mono ?_
      rintro e w46_ ⟨vN, rfl, hs, hf⟩
      obtain ⟨p47_, c48_, rfl⟩ := hs.slice
      have HN49_ := Lib.hid hs
      have HA50_ : Hid (Fresh w w46_) := Lib.hid (HA42_.out.trans hf)
      have HA51_ : Hid (Fresh w2 w46_) := Lib.hid (HA43_.out.trans hf)
      have HA52_ : Hid (Fresh w31_ w46_) := Lib.hid (HA44_.out.trans hf)
      have HA53_ : Hid (Fresh w31_ w46_) := Lib.hid (HA45_.out.trans hf)
      clear hs hf
      have HA54_ : Hid (Fresh w46_ w46_) := Lib.hid (Keeps.refl _ _)
      go_wp2_with fail
      refine hK _ _ HA53_.out ?_
      clear hK K
      refine ord_loud rfl (fun K hK => ?_)
      go_wp2_with fail
      refine (at_c (c) _).mono ?_
      rintro e w55_ ⟨rfl, hf⟩
      have HA56_ : Hid (Fresh w w55_) := Lib.hid (HA50_.out.trans hf)
      have HA57_ : Hid (Fresh w2 w55_) := Lib.hid (HA51_.out.trans hf)
      have HA58_ : Hid (Fresh w31_ w55_) := Lib.hid (HA52_.out.trans hf)
      have HA59_ : Hid (Fresh w31_ w55_) := Lib.hid (HA53_.out.trans hf)
      have HA60_ : Hid (Fresh w46_ w55_) := Lib.hid (HA54_.out.trans hf)
      clear hf
      try simp only [stV, atS]
      go_wp2_with fail
      refine hK _ _ HA59_.out ?_
      clear hK K
      refine ord_loud rfl (fun K hK => ?_)
      go_wp2_with fail
      refine (into_c (.slice pay nx cay) (y.take nx) _ (HSY.out.fresh HA56_.out)).mono ?_
      rintro e w61_ ⟨rfl, hf⟩
      have HA62_ : Hid (Fresh w w61_) := Lib.hid (HA56_.out.trans hf)
      have HA63_ : Hid (Fresh w2 w61_) := Lib.hid (HA57_.out.trans hf)
      have HA64_ : Hid (Fresh w31_ w61_) := Lib.hid (HA58_.out.trans hf)
      have HA65_ : Hid (Fresh w31_ w61_) := Lib.hid (HA59_.out.trans hf)
      have HA66_ : Hid (Fresh w46_ w61_) := Lib.hid (HA60_.out.trans hf)
      clear hf
      try simp only [stV, intoS]
      go_wp2_with fail
      refine hK _ _ HA65_.out ?_
      clear hK K
      refine ord_loud rfl (fun K hK => ?_)
      go_wp2_with fail
      generalize hw68_ : w61_.alloc _ = w67_
      have HA70_ : Hid (Fresh w w67_) := Lib.hid ((by rw [← hw68_]; exact HA62_.out.alloc _))
      have HA71_ : Hid (Fresh w2 w67_) := Lib.hid ((by rw [← hw68_]; exact HA63_.out.alloc _))
      have HA72_ : Hid (Fresh w31_ w67_) := Lib.hid ((by rw [← hw68_]; exact HA64_.out.alloc _))
      have HA73_ : Hid (Fresh w31_ w67_) := Lib.hid ((by rw [← hw68_]; exact HA65_.out.alloc _))
      have HA74_ : Hid (Fresh w46_ w67_) := Lib.hid ((by rw [← hw68_]; exact HA66_.out.alloc _))
      have HB69_ := Lib.hid hw68_
      clear hw68_
      refine hK _ _ HA73_.out ?_
      clear hK K
      refine ord_loud rfl (fun K hK => ?_)
      go_wp2_with fail
      refine (ran_lit (.slice p47_ (nonL nonce long).length c48_) _ key (nonL nonce long) (xs z (y.take nx)) [(.slice none 0 0, atS (c)), (.slice pay nx cay, intoS (y.take nx))] _ HKL.out (HN49_.out.fresh HA74_.out) (nonL_len HNL.out long) (StepsL.lit (b := w61_.heap.size) [(.slice none 0 0, atS (c)), (.slice pay nx cay, intoS (y.take nx))] (by rw [← HB69_.out]; exact heap_alloc_new _ _) rfl (Nat.le_of_ble_eq_true rfl) ?_) (Nat.le_of_ble_eq_true rfl) ?_ (HRY.out) (by rw [HXY.out]; omega)).mono ?_
      · intro q hq; simp only [List.mem_cons, List.not_mem_nil, or_false] at hq; rcases hq with rfl | rfl
        · exact SlB.nil _
        · exact HSY.out.fresh HA70_.out
      · intro q hq; simp only [List.mem_cons, List.not_mem_nil, or_false] at hq; rcases hq with rfl | rfl
        · exact okAt _
        · exact okInto (by rw [HLY.out]; omega)
      rintro e w75_ ⟨v76_, rfl, ho, hf⟩
      obtain ⟨p77_, c78_, hv⟩ := ho.slice
      rw [HXY.out] at hv
      subst hv
      have HO79_ := Lib.hid ho.sl
      have HA80_ : Hid (Fresh w w75_) := Lib.hid (HA70_.out.trans hf)
      have HA81_ : Hid (Fresh w2 w75_) := Lib.hid (HA71_.out.trans hf)
      have HA82_ : Hid (Fresh w31_ w75_) := Lib.hid (HA72_.out.trans hf)
      have HA83_ : Hid (Fresh w31_ w75_) := Lib.hid (HA73_.out.trans hf)
      have HA84_ : Hid (Fresh w46_ w75_) := Lib.hid (HA74_.out.trans hf)
      clear ho hf
      have HA85_ : Hid (Fresh w75_ w75_) := Lib.hid (Keeps.refl _ _)
      go_wp2_with fail
      refine hK _ _ HA83_.out ?_
      clear hK K
      iterate 5 (refine ord_quiet rfl (fun K hK => ?_); go_simp; refine hK _ ?_; clear hK K)
      refine ord_last ?_
      go_wp2_with fail
      refine wp_region_wa (fun w' => Fresh w75_ w') 32 rfl (by kernel_rfl) ?_
      have HA86_ : Hid (Fresh w75_ w75_) := Lib.hid (Keeps.refl _ _)
      have HA87_ : Hid (Fresh w w75_.drew) := Lib.hid (HA80_.out.drew)
      have HA88_ : Hid (Fresh w2 w75_.drew) := Lib.hid (HA81_.out.drew)
      have HA89_ : Hid (Fresh w31_ w75_.drew) := Lib.hid (HA82_.out.drew)
      have HA90_ : Hid (Fresh w75_ w75_.drew) := Lib.hid (HA85_.out.drew)
      have HA91_ : Hid (Fresh w75_ w75_.drew) := Lib.hid (HA86_.out.drew)
      refine wa_quiet 0 (by kernel_rfl) rfl HA91_.out (fun K hK => ?_); go_simp; refine hK _ ?_; clear hK K
      refine wa_quiet 1 (by kernel_rfl) rfl HA91_.out (fun K hK => ?_); go_simp; refine hK _ ?_; clear hK K
      refine wa_quiet 2 (by kernel_rfl) rfl HA91_.out (fun K hK => ?_); go_simp; refine hK _ ?_; clear hK K
      refine wa_quiet 3 (by kernel_rfl) rfl HA91_.out (fun K hK => ?_); go_simp; refine hK _ ?_; clear hK K
      refine wa_quiet 4 (by kernel_rfl) rfl HA91_.out (fun K hK => ?_); go_simp; refine hK _ ?_; clear hK K
      refine wa_quiet 5 (by kernel_rfl) rfl HA91_.out (fun K hK => ?_); go_simp; refine hK _ ?_; clear hK K
      refine wa_quiet 6 (by kernel_rfl) rfl HA91_.out (fun K hK => ?_); go_simp; refine hK _ ?_; clear hK K
      refine wa_quiet 7 (by kernel_rfl) rfl HA91_.out (fun K hK => ?_); go_simp; refine hK _ ?_; clear hK K
      refine wa_quiet 8 (by kernel_rfl) rfl HA91_.out (fun K hK => ?_); go_simp; refine hK _ ?_; clear hK K
      refine wa_quiet 9 (by kernel_rfl) rfl HA91_.out (fun K hK => ?_); go_simp; refine hK _ ?_; clear hK K
      refine wa_quiet 10 (by kernel_rfl) rfl HA91_.out (fun K hK => ?_); go_simp; refine hK _ ?_; clear hK K
      refine wa_quiet 11 (by kernel_rfl) rfl HA91_.out (fun K hK => ?_); go_simp; refine hK _ ?_; clear hK K
      refine wa_quiet 12 (by kernel_rfl) rfl HA91_.out (fun K hK => ?_); go_simp; refine hK _ ?_; clear hK K
      refine wa_quiet 13 (by kernel_rfl) rfl HA91_.out (fun K hK => ?_); go_simp; refine hK _ ?_; clear hK K
      refine wa_quiet 14 (by kernel_rfl) rfl HA91_.out (fun K hK => ?_); go_simp; refine hK _ ?_; clear hK K
      refine wa_quiet 15 (by kernel_rfl) rfl HA91_.out (fun K hK => ?_); go_simp; refine hK _ ?_; clear hK K
      refine wa_quiet 16 (by kernel_rfl) rfl HA91_.out (fun K hK => ?_); go_simp; refine hK _ ?_; clear hK K
      refine wa_quiet 17 (by kernel_rfl) rfl HA91_.out (fun K hK => ?_); go_simp; refine hK _ ?_; clear hK K
      refine wa_quiet 18 (by kernel_rfl) rfl HA91_.out (fun K hK => ?_); go_simp; refine hK _ ?_; clear hK K
      refine wa_quiet 19 (by kernel_rfl) rfl HA91_.out (fun K hK => ?_); go_simp; refine hK _ ?_; clear hK K
      refine wa_quiet 20 (by kernel_rfl) rfl HA91_.out (fun K hK => ?_); go_simp; refine hK _ ?_; clear hK K
      refine wa_quiet 23 (by kernel_rfl) rfl HA91_.out (fun K hK => ?_); go_simp; refine hK _ ?_; clear hK K
      refine wa_quiet 24 (by kernel_rfl) rfl HA91_.out (fun K hK => ?_); go_simp; refine hK _ ?_; clear hK K
      refine wa_quiet 25 (by kernel_rfl) rfl HA91_.out (fun K hK => ?_); go_simp; refine hK _ ?_; clear hK K
      refine wa_quiet 26 (by kernel_rfl) rfl HA91_.out (fun K hK => ?_); go_simp; refine hK _ ?_; clear hK K
      refine wa_all [21] (by kernel_rfl) (by decide) (fun i hi => ?_)
      simp only [List.mem_cons, List.not_mem_nil, or_false] at hi
      subst hi
      refine wa_loud rfl (fun K hK => ?_)
      go_wp2_with fail
      refine (xored_c (.slice p33_ nx c34_) (.slice pax nx cax) _ _ _ (HO35_.out.fresh HA89_.out) (HSX.out.fresh HA87_.out) (by rw [HXX.out, HLX.out]; exact Nat.le_refl _) (by rw [HXX.out]; omega)).mono ?_
      rintro e w92_ ⟨vX, rfl, ho, hf⟩
      rw [xs_back, HLX.out] at ho
      obtain ⟨p93_, c94_, hv⟩ := ho.slice
      rw [List.length_map, List.length_range] at hv
      subst hv
      have HOa := Lib.hid ho.sl
      have HA95_ : Hid (Fresh w w92_) := Lib.hid (HA87_.out.trans hf)
      have HA96_ : Hid (Fresh w2 w92_) := Lib.hid (HA88_.out.trans hf)
      have HA97_ : Hid (Fresh w31_ w92_) := Lib.hid (HA89_.out.trans hf)
      have HA98_ : Hid (Fresh w75_ w92_) := Lib.hid (HA90_.out.trans hf)
      have HA99_ : Hid (Fresh w75_ w92_) := Lib.hid (HA91_.out.trans hf)
      have HA100_ : Hid (Fresh w92_ w92_) := Lib.hid (Keeps.refl _ _)
      clear hf ho
      go_wp2_with fail
      refine hK _ _ HA99_.out ?_
      clear hK K
      refine wa_all [22, 27] (by kernel_rfl) (by decide) (fun i hi => ?_)
      simp only [List.mem_cons, List.not_mem_nil, or_false] at hi
      rcases hi with rfl | rfl
      · refine wa_loud rfl (fun K hK => ?_)
        have hrs := run_strB _ _ _ (HOa.out.fresh HA100_.out)
        go_wp2_with fail
        refine hK _ _ HA99_.out ?_
        clear hK K
        refine wa_all [27] (by kernel_rfl) (by decide) (fun i hi => ?_)
        simp only [List.mem_cons, List.not_mem_nil, or_false] at hi
        subst hi
        refine wa_loud rfl (fun K hK => ?_)
        go_wp2_with fail
        refine (xored_c (.slice p77_ nx c78_) (.slice pay nx cay) _ _ _ (HO79_.out.fresh HA98_.out) (HSY.out.fresh HA95_.out) (by rw [HXY.out, HLY.out]; exact Nat.le_refl _) (by rw [HXY.out]; omega)).mono ?_
        rintro e w101_ ⟨vX, rfl, ho, hf⟩
        rw [xs_back, HLY.out] at ho
        obtain ⟨p102_, c103_, hv⟩ := ho.slice
        rw [List.length_map, List.length_range] at hv
        subst hv
        have HOb := Lib.hid ho.sl
        have HA104_ : Hid (Fresh w w101_) := Lib.hid (HA95_.out.trans hf)
        have HA105_ : Hid (Fresh w2 w101_) := Lib.hid (HA96_.out.trans hf)
        have HA106_ : Hid (Fresh w31_ w101_) := Lib.hid (HA97_.out.trans hf)
        have HA107_ : Hid (Fresh w75_ w101_) := Lib.hid (HA98_.out.trans hf)
        have HA108_ : Hid (Fresh w75_ w101_) := Lib.hid (HA99_.out.trans hf)
        have HA109_ : Hid (Fresh w92_ w101_) := Lib.hid (HA100_.out.trans hf)
        have HA110_ : Hid (Fresh w101_ w101_) := Lib.hid (Keeps.refl _ _)
        clear hf ho
        go_wp2_with fail
        refine hK _ _ HA108_.out ?_
        clear hK K
        refine wa_all [28] (by kernel_rfl) (by decide) (fun i hi => ?_)
        simp only [List.mem_cons, List.not_mem_nil, or_false] at hi
        subst hi
        refine wa_loud rfl (fun K hK => ?_)
        have hrs := run_strB _ _ _ (HOb.out.fresh HA110_.out)
        go_wp2_with fail
        refine hK _ _ HA108_.out ?_
        clear hK K
        refine wa_quiet 29 (by kernel_rfl) rfl HA108_.out (fun K hK => ?_); go_simp; refine hK _ ?_; clear hK K
        refine wa_quiet 30 (by kernel_rfl) rfl HA108_.out (fun K hK => ?_); go_simp; refine hK _ ?_; clear hK K
        refine wa_quiet 31 (by kernel_rfl) rfl HA108_.out (fun K hK => ?_); go_simp; refine hK _ ?_; clear hK K
        refine wa_done (by kernel_rfl) ?_
        go_wp2_with fail
        go_ret
        exact ⟨rfl, HA104_.out⟩
      · refine wa_loud rfl (fun K hK => ?_)
        go_wp2_with fail
        refine (xored_c (.slice p77_ nx c78_) (.slice pay nx cay) _ _ _ (HO79_.out.fresh HA98_.out) (HSY.out.fresh HA95_.out) (by rw [HXY.out, HLY.out]; exact Nat.le_refl _) (by rw [HXY.out]; omega)).mono ?_
        rintro e w101_ ⟨vX, rfl, ho, hf⟩
        rw [xs_back, HLY.out] at ho
        obtain ⟨p102_, c103_, hv⟩ := ho.slice
        rw [List.length_map, List.length_range] at hv
        subst hv
        have HOb := Lib.hid ho.sl
        have HA104_ : Hid (Fresh w w101_) := Lib.hid (HA95_.out.trans hf)
        have HA105_ : Hid (Fresh w2 w101_) := Lib.hid (HA96_.out.trans hf)
        have HA106_ : Hid (Fresh w31_ w101_) := Lib.hid (HA97_.out.trans hf)
        have HA107_ : Hid (Fresh w75_ w101_) := Lib.hid (HA98_.out.trans hf)
        have HA108_ : Hid (Fresh w75_ w101_) := Lib.hid (HA99_.out.trans hf)
        have HA109_ : Hid (Fresh w92_ w101_) := Lib.hid (HA100_.out.trans hf)
        have HA110_ : Hid (Fresh w101_ w101_) := Lib.hid (Keeps.refl _ _)
        clear hf ho
        go_wp2_with fail
        refine hK _ _ HA108_.out ?_
        clear hK K
        refine wa_all [22, 28] (by kernel_rfl) (by decide) (fun i hi => ?_)
        simp only [List.mem_cons, List.not_mem_nil, or_false] at hi
        rcases hi with rfl | rfl
        · refine wa_loud rfl (fun K hK => ?_)
          have hrs := run_strB _ _ _ (HOa.out.fresh HA109_.out)
          go_wp2_with fail
          refine hK _ _ HA108_.out ?_
          clear hK K
          refine wa_all [28] (by kernel_rfl) (by decide) (fun i hi => ?_)
          simp only [List.mem_cons, List.not_mem_nil, or_false] at hi
          subst hi
          refine wa_loud rfl (fun K hK => ?_)
          have hrs := run_strB _ _ _ (HOb.out.fresh HA110_.out)
          go_wp2_with fail
          refine hK _ _ HA108_.out ?_
          clear hK K
          refine wa_quiet 29 (by kernel_rfl) rfl HA108_.out (fun K hK => ?_); go_simp; refine hK _ ?_; clear hK K
          refine wa_quiet 30 (by kernel_rfl) rfl HA108_.out (fun K hK => ?_); go_simp; refine hK _ ?_; clear hK K
          refine wa_quiet 31 (by kernel_rfl) rfl HA108_.out (fun K hK => ?_); go_simp; refine hK _ ?_; clear hK K
          refine wa_done (by kernel_rfl) ?_
          go_wp2_with fail
          go_ret
          exact ⟨rfl, HA104_.out⟩
        · refine wa_loud rfl (fun K hK => ?_)
          have hrs := run_strB _ _ _ (HOb.out.fresh HA110_.out)
          go_wp2_with fail
          refine hK _ _ HA108_.out ?_
          clear hK K
          refine wa_all [22] (by kernel_rfl) (by decide) (fun i hi => ?_)
          simp only [List.mem_cons, List.not_mem_nil, or_false] at hi
          subst hi
          refine wa_loud rfl (fun K hK => ?_)
          have hrs := run_strB _ _ _ (HOa.out.fresh HA109_.out)
          go_wp2_with fail
          refine hK _ _ HA108_.out ?_
          clear hK K
          refine wa_quiet 29 (by kernel_rfl) rfl HA108_.out (fun K hK => ?_); go_simp; refine hK _ ?_; clear hK K
          refine wa_quiet 30 (by kernel_rfl) rfl HA108_.out (fun K hK => ?_); go_simp; refine hK _ ?_; clear hK K
          refine wa_quiet 31 (by kernel_rfl) rfl HA108_.out (fun K hK => ?_); go_simp; refine hK _ ?_; clear hK K
          refine wa_done (by kernel_rfl) ?_
          go_wp2_with fail
          go_ret
          exact ⟨rfl, HA104_.out⟩
  · have hm1 : (ny : Int) < nx := by omega
    have hm2 : ¬ (nx : Int) ≤ ny := by omega
    have hcx : (ny : Int) ≤ cax := by have := HSx.out.cap; omega
    have hcy : (ny : Int) ≤ cay := by have := HSy.out.cap; omega
    have hn0 : (0 : Int) ≤ ny := by omega
    have HSX := Lib.hid (HSx.out.cut HEx.out (k := ny) (by omega))
    have HSY := Lib.hid (HSy.out.cut HEy.out (k := ny) (by omega))
    have HLX : Hid ((x.take ny).length = ny) := Lib.hid (by rw [List.length_take, ← HEx.out]; omega)
    have HLY : Hid ((y.take ny).length = ny) := Lib.hid (by rw [List.length_take, ← HEy.out]; omega)
    clear hxy
    go_enter Try.func4, Try.ntmps4
    go_wp2_with fail
    have HBK := Lib.hid (heap_alloc2_old w (.cells (cells8 key) 27) (.cells (cells8 nonce) 28))
    have HBN := Lib.hid (heap_alloc2_new w (.cells (cells8 key) 27) (.cells (cells8 nonce) 28))
    have HF2 : Hid (Fresh w ((w.alloc (.cells (cells8 key) 27)).alloc (.cells (cells8 nonce) 28))) := Lib.hid (((Keeps.refl _ w).alloc _).alloc _)
    generalize ((w.alloc (.cells (cells8 key) 27)).alloc (.cells (cells8 nonce) 28)) = w2 at HBK HBN HF2 ⊢
    have HA1_ : Hid (Fresh w2 w2) := Lib.hid (Keeps.refl _ _)
    refine (within2_c c ny w2 (by omega)).mono ?_
    rintro e w3 ⟨rfl, hw3⟩
    subst w3
    cases hwi : withinB c ny with
    | false =>
      go_wp2_with fail
      go_ret
      exact ⟨rfl, HF2.out⟩
    | true =>
      have HWI := Lib.hid (within_true hwi)
      clear hwi
      obtain ⟨z, hz⟩ : ∃ z, z = (fun i => (ckOf key (nonL nonce long)).ks (64 * c.toNat + i)) := ⟨_, rfl⟩
      have HRX : Hid (Ran (ckOf key (nonL nonce long)) [atS c, intoS (x.take ny)] (xs z (x.take ny))) := Lib.hid (by rw [hz]; exact Ran.one _ c _ (by rw [HLX.out]; exact HWI.out.2))
      have HRY : Hid (Ran (ckOf key (nonL nonce long)) [atS c, intoS (y.take ny)] (xs z (y.take ny))) := Lib.hid (by rw [hz]; exact Ran.one _ c _ (by rw [HLY.out]; exact HWI.out.2))
      clear hz
      have HXX : Hid ((xs z (x.take ny)).length = ny) := Lib.hid (by rw [xs_len]; exact HLX.out)
      have HXY : Hid ((xs z (y.take ny)).length = ny) := Lib.hid (by rw [xs_len]; exact HLY.out)
      go_wp2_with fail
      refine wp_region_ord (fun w' => Fresh w2 w') [(0, true), (1, true), (2, true), (4, true), (6, true), (7, true), (8, true), (3, false), (5, false), (9, false), (10, false), (11, false), (12, true), (13, true), (15, true), (14, true), (16, true)] (by kernel_rfl) (by kernel_rfl) ((Keeps.refl _ w2).drew) ?_
      have HA2_ : Hid (Fresh w2 w2) := Lib.hid (Keeps.refl _ _)
      have HA3_ : Hid (Fresh w w2.drew) := Lib.hid (HF2.out.drew)
      have HA4_ : Hid (Fresh w2 w2.drew) := Lib.hid (HA1_.out.drew)
      have HA5_ : Hid (Fresh w2 w2.drew) := Lib.hid (HA2_.out.drew)
      refine ord_load (.agg (cells8 key)) rfl (by rfl) (fun w' hw' => load32 _ rfl rfl HKL.out HBK.out (HA1_.out.trans hw')) ?_
      refine ord_load (.agg (cells8 nonce)) rfl (by rfl) (fun w' hw' => load24 _ rfl rfl HNL.out HBN.out (HA1_.out.trans hw')) ?_
      iterate 5 (refine ord_quiet rfl (fun K hK => ?_); go_simp; refine hK _ ?_; clear hK K)
      refine ord_loud rfl (fun K hK => ?_)
      go_wp2_with fail
      refine (nonceOf_c nonce long _ HNL.out).mono ?_
      rintro e w6_ ⟨vN, rfl, hs, hf⟩
      obtain ⟨p7_, c8_, rfl⟩ := hs.slice
      have HN9_ := Lib.hid hs
      have HA10_ : Hid (Fresh w w6_) := Lib.hid (HA3_.out.trans hf)
      have HA11_ : Hid (Fresh w2 w6_) := Lib.hid (HA4_.out.trans hf)
      have HA12_ : Hid (Fresh w2 w6_) := Lib.hid (HA5_.out.trans hf)
      clear hs hf
      have HA13_ : Hid (Fresh w6_ w6_) := Lib.hid (Keeps.refl _ _)
      go_wp2_with fail
      refine hK _ _ HA12_.out ?_
      clear hK K
      refine ord_loud rfl (fun K hK => ?_)
      go_wp2_with fail
      refine (at_c (c) _).mono ?_
      rintro e w14_ ⟨rfl, hf⟩
      have HA15_ : Hid (Fresh w w14_) := Lib.hid (HA10_.out.trans hf)
      have HA16_ : Hid (Fresh w2 w14_) := Lib.hid (HA11_.out.trans hf)
      have HA17_ : Hid (Fresh w2 w14_) := Lib.hid (HA12_.out.trans hf)
      have HA18_ : Hid (Fresh w6_ w14_) := Lib.hid (HA13_.out.trans hf)
      clear hf
      try simp only [stV, atS]
      go_wp2_with fail
      refine hK _ _ HA17_.out ?_
      clear hK K
      refine ord_loud rfl (fun K hK => ?_)
      go_wp2_with fail
      refine (into_c (.slice pax ny cax) (x.take ny) _ (HSX.out.fresh HA15_.out)).mono ?_
      rintro e w19_ ⟨rfl, hf⟩
      have HA20_ : Hid (Fresh w w19_) := Lib.hid (HA15_.out.trans hf)
      have HA21_ : Hid (Fresh w2 w19_) := Lib.hid (HA16_.out.trans hf)
      have HA22_ : Hid (Fresh w2 w19_) := Lib.hid (HA17_.out.trans hf)
      have HA23_ : Hid (Fresh w6_ w19_) := Lib.hid (HA18_.out.trans hf)
      clear hf
      try simp only [stV, intoS]
      go_wp2_with fail
      refine hK _ _ HA22_.out ?_
      clear hK K
      refine ord_loud rfl (fun K hK => ?_)
      go_wp2_with fail
      generalize hw25_ : w19_.alloc _ = w24_
      have HA27_ : Hid (Fresh w w24_) := Lib.hid ((by rw [← hw25_]; exact HA20_.out.alloc _))
      have HA28_ : Hid (Fresh w2 w24_) := Lib.hid ((by rw [← hw25_]; exact HA21_.out.alloc _))
      have HA29_ : Hid (Fresh w2 w24_) := Lib.hid ((by rw [← hw25_]; exact HA22_.out.alloc _))
      have HA30_ : Hid (Fresh w6_ w24_) := Lib.hid ((by rw [← hw25_]; exact HA23_.out.alloc _))
      have HB26_ := Lib.hid hw25_
      clear hw25_
      refine hK _ _ HA29_.out ?_
      clear hK K
      refine ord_loud rfl (fun K hK => ?_)
      go_wp2_with fail
      refine (ran_lit (.slice p7_ (nonL nonce long).length c8_) _ key (nonL nonce long) (xs z (x.take ny)) [(.slice none 0 0, atS (c)), (.slice pax ny cax, intoS (x.take ny))] _ HKL.out (HN9_.out.fresh HA30_.out) (nonL_len HNL.out long) (StepsL.lit (b := w19_.heap.size) [(.slice none 0 0, atS (c)), (.slice pax ny cax, intoS (x.take ny))] (by rw [← HB26_.out]; exact heap_alloc_new _ _) rfl (Nat.le_of_ble_eq_true rfl) ?_) (Nat.le_of_ble_eq_true rfl) ?_ (HRX.out) (by rw [HXX.out]; omega)).mono ?_
      · intro q hq; simp only [List.mem_cons, List.not_mem_nil, or_false] at hq; rcases hq with rfl | rfl
        · exact SlB.nil _
        · exact HSX.out.fresh HA27_.out
      · intro q hq; simp only [List.mem_cons, List.not_mem_nil, or_false] at hq; rcases hq with rfl | rfl
        · exact okAt _
        · exact okInto (by rw [HLX.out]; omega)
      rintro e w31_ ⟨v32_, rfl, ho, hf⟩
      obtain ⟨p33_, c34_, hv⟩ := ho.slice
      rw [HXX.out] at hv
      subst hv
      have HO35_ := Lib.hid ho.sl
      have HA36_ : Hid (Fresh w w31_) := Lib.hid (HA27_.out.trans hf)
      have HA37_ : Hid (Fresh w2 w31_) := Lib.hid (HA28_.out.trans hf)
      have HA38_ : Hid (Fresh w2 w31_) := Lib.hid (HA29_.out.trans hf)
      have HA39_ : Hid (Fresh w6_ w31_) := Lib.hid (HA30_.out.trans hf)
      clear ho hf
      have HA40_ : Hid (Fresh w31_ w31_) := Lib.hid (Keeps.refl _ _)
      go_wp2_with fail
      refine hK _ _ HA38_.out ?_
      clear hK K
      iterate 5 (refine ord_quiet rfl (fun K hK => ?_); go_simp; refine hK _ ?_; clear hK K)
      refine ord_last ?_
      go_wp2_with fail
      refine wp_region_ord (fun w' => Fresh w31_ w') [(0, true), (1, true), (2, true), (4, true), (6, true), (7, true), (8, true), (3, false), (5, false), (9, false), (10, false), (11, false), (12, true), (13, true), (15, true), (14, true), (16, true)] (by kernel_rfl) (by kernel_rfl) ((Keeps.refl _ w31_).drew) ?_
      have HA41_ : Hid (Fresh w31_ w31_) := Lib.hid (Keeps.refl _ _)
      have HA42_ : Hid (Fresh w w31_.drew) := Lib.hid (HA36_.out.drew)
      have HA43_ : Hid (Fresh w2 w31_.drew) := Lib.hid (HA37_.out.drew)
      have HA44_ : Hid (Fresh w31_ w31_.drew) := Lib.hid (HA40_.out.drew)
      have HA45_ : Hid (Fresh w31_ w31_.drew) := Lib.hid (HA41_.out.drew)
      refine ord_load (.agg (cells8 key)) rfl (by rfl) (fun w' hw' => load32 _ rfl rfl HKL.out HBK.out (HA37_.out.trans hw')) ?_
      refine ord_load (.agg (cells8 nonce)) rfl (by rfl) (fun w' hw' => load24 _ rfl rfl HNL.out HBN.out (HA37_.out.trans hw')) ?_
      iterate 5 (refine ord_quiet rfl (fun K hK => ?_); go_simp; refine hK _ ?_; clear hK K)
      refine ord_loud rfl (fun K hK => ?_)
      go_wp2_with fail
      refine (nonceOf_c nonce long _ HNL.out).mono ?_
      rintro e w46_ ⟨vN, rfl, hs, hf⟩
      obtain ⟨p47_, c48_, rfl⟩ := hs.slice
      have HN49_ := Lib.hid hs
      have HA50_ : Hid (Fresh w w46_) := Lib.hid (HA42_.out.trans hf)
      have HA51_ : Hid (Fresh w2 w46_) := Lib.hid (HA43_.out.trans hf)
      have HA52_ : Hid (Fresh w31_ w46_) := Lib.hid (HA44_.out.trans hf)
      have HA53_ : Hid (Fresh w31_ w46_) := Lib.hid (HA45_.out.trans hf)
      clear hs hf
      have HA54_ : Hid (Fresh w46_ w46_) := Lib.hid (Keeps.refl _ _)
      go_wp2_with fail
      refine hK _ _ HA53_.out ?_
      clear hK K
      refine ord_loud rfl (fun K hK => ?_)
      go_wp2_with fail
      refine (at_c (c) _).mono ?_
      rintro e w55_ ⟨rfl, hf⟩
      have HA56_ : Hid (Fresh w w55_) := Lib.hid (HA50_.out.trans hf)
      have HA57_ : Hid (Fresh w2 w55_) := Lib.hid (HA51_.out.trans hf)
      have HA58_ : Hid (Fresh w31_ w55_) := Lib.hid (HA52_.out.trans hf)
      have HA59_ : Hid (Fresh w31_ w55_) := Lib.hid (HA53_.out.trans hf)
      have HA60_ : Hid (Fresh w46_ w55_) := Lib.hid (HA54_.out.trans hf)
      clear hf
      try simp only [stV, atS]
      go_wp2_with fail
      refine hK _ _ HA59_.out ?_
      clear hK K
      refine ord_loud rfl (fun K hK => ?_)
      go_wp2_with fail
      refine (into_c (.slice pay ny cay) (y.take ny) _ (HSY.out.fresh HA56_.out)).mono ?_
      rintro e w61_ ⟨rfl, hf⟩
      have HA62_ : Hid (Fresh w w61_) := Lib.hid (HA56_.out.trans hf)
      have HA63_ : Hid (Fresh w2 w61_) := Lib.hid (HA57_.out.trans hf)
      have HA64_ : Hid (Fresh w31_ w61_) := Lib.hid (HA58_.out.trans hf)
      have HA65_ : Hid (Fresh w31_ w61_) := Lib.hid (HA59_.out.trans hf)
      have HA66_ : Hid (Fresh w46_ w61_) := Lib.hid (HA60_.out.trans hf)
      clear hf
      try simp only [stV, intoS]
      go_wp2_with fail
      refine hK _ _ HA65_.out ?_
      clear hK K
      refine ord_loud rfl (fun K hK => ?_)
      go_wp2_with fail
      generalize hw68_ : w61_.alloc _ = w67_
      have HA70_ : Hid (Fresh w w67_) := Lib.hid ((by rw [← hw68_]; exact HA62_.out.alloc _))
      have HA71_ : Hid (Fresh w2 w67_) := Lib.hid ((by rw [← hw68_]; exact HA63_.out.alloc _))
      have HA72_ : Hid (Fresh w31_ w67_) := Lib.hid ((by rw [← hw68_]; exact HA64_.out.alloc _))
      have HA73_ : Hid (Fresh w31_ w67_) := Lib.hid ((by rw [← hw68_]; exact HA65_.out.alloc _))
      have HA74_ : Hid (Fresh w46_ w67_) := Lib.hid ((by rw [← hw68_]; exact HA66_.out.alloc _))
      have HB69_ := Lib.hid hw68_
      clear hw68_
      refine hK _ _ HA73_.out ?_
      clear hK K
      refine ord_loud rfl (fun K hK => ?_)
      go_wp2_with fail
      refine (ran_lit (.slice p47_ (nonL nonce long).length c48_) _ key (nonL nonce long) (xs z (y.take ny)) [(.slice none 0 0, atS (c)), (.slice pay ny cay, intoS (y.take ny))] _ HKL.out (HN49_.out.fresh HA74_.out) (nonL_len HNL.out long) (StepsL.lit (b := w61_.heap.size) [(.slice none 0 0, atS (c)), (.slice pay ny cay, intoS (y.take ny))] (by rw [← HB69_.out]; exact heap_alloc_new _ _) rfl (Nat.le_of_ble_eq_true rfl) ?_) (Nat.le_of_ble_eq_true rfl) ?_ (HRY.out) (by rw [HXY.out]; omega)).mono ?_
      · intro q hq; simp only [List.mem_cons, List.not_mem_nil, or_false] at hq; rcases hq with rfl | rfl
        · exact SlB.nil _
        · exact HSY.out.fresh HA70_.out
      · intro q hq; simp only [List.mem_cons, List.not_mem_nil, or_false] at hq; rcases hq with rfl | rfl
        · exact okAt _
        · exact okInto (by rw [HLY.out]; omega)
      rintro e w75_ ⟨v76_, rfl, ho, hf⟩
      obtain ⟨p77_, c78_, hv⟩ := ho.slice
      rw [HXY.out] at hv
      subst hv
      have HO79_ := Lib.hid ho.sl
      have HA80_ : Hid (Fresh w w75_) := Lib.hid (HA70_.out.trans hf)
      have HA81_ : Hid (Fresh w2 w75_) := Lib.hid (HA71_.out.trans hf)
      have HA82_ : Hid (Fresh w31_ w75_) := Lib.hid (HA72_.out.trans hf)
      have HA83_ : Hid (Fresh w31_ w75_) := Lib.hid (HA73_.out.trans hf)
      have HA84_ : Hid (Fresh w46_ w75_) := Lib.hid (HA74_.out.trans hf)
      clear ho hf
      have HA85_ : Hid (Fresh w75_ w75_) := Lib.hid (Keeps.refl _ _)
      go_wp2_with fail
      refine hK _ _ HA83_.out ?_
      clear hK K
      iterate 5 (refine ord_quiet rfl (fun K hK => ?_); go_simp; refine hK _ ?_; clear hK K)
      refine ord_last ?_
      go_wp2_with fail
      refine wp_region_wa (fun w' => Fresh w75_ w') 32 rfl (by kernel_rfl) ?_
      have HA86_ : Hid (Fresh w75_ w75_) := Lib.hid (Keeps.refl _ _)
      have HA87_ : Hid (Fresh w w75_.drew) := Lib.hid (HA80_.out.drew)
      have HA88_ : Hid (Fresh w2 w75_.drew) := Lib.hid (HA81_.out.drew)
      have HA89_ : Hid (Fresh w31_ w75_.drew) := Lib.hid (HA82_.out.drew)
      have HA90_ : Hid (Fresh w75_ w75_.drew) := Lib.hid (HA85_.out.drew)
      have HA91_ : Hid (Fresh w75_ w75_.drew) := Lib.hid (HA86_.out.drew)
      refine wa_quiet 0 (by kernel_rfl) rfl HA91_.out (fun K hK => ?_); go_simp; refine hK _ ?_; clear hK K
      refine wa_quiet 1 (by kernel_rfl) rfl HA91_.out (fun K hK => ?_); go_simp; refine hK _ ?_; clear hK K
      refine wa_quiet 2 (by kernel_rfl) rfl HA91_.out (fun K hK => ?_); go_simp; refine hK _ ?_; clear hK K
      refine wa_quiet 3 (by kernel_rfl) rfl HA91_.out (fun K hK => ?_); go_simp; refine hK _ ?_; clear hK K
      refine wa_quiet 4 (by kernel_rfl) rfl HA91_.out (fun K hK => ?_); go_simp; refine hK _ ?_; clear hK K
      refine wa_quiet 5 (by kernel_rfl) rfl HA91_.out (fun K hK => ?_); go_simp; refine hK _ ?_; clear hK K
      refine wa_quiet 6 (by kernel_rfl) rfl HA91_.out (fun K hK => ?_); go_simp; refine hK _ ?_; clear hK K
      refine wa_quiet 7 (by kernel_rfl) rfl HA91_.out (fun K hK => ?_); go_simp; refine hK _ ?_; clear hK K
      refine wa_quiet 8 (by kernel_rfl) rfl HA91_.out (fun K hK => ?_); go_simp; refine hK _ ?_; clear hK K
      refine wa_quiet 9 (by kernel_rfl) rfl HA91_.out (fun K hK => ?_); go_simp; refine hK _ ?_; clear hK K
      refine wa_quiet 10 (by kernel_rfl) rfl HA91_.out (fun K hK => ?_); go_simp; refine hK _ ?_; clear hK K
      refine wa_quiet 11 (by kernel_rfl) rfl HA91_.out (fun K hK => ?_); go_simp; refine hK _ ?_; clear hK K
      refine wa_quiet 12 (by kernel_rfl) rfl HA91_.out (fun K hK => ?_); go_simp; refine hK _ ?_; clear hK K
      refine wa_quiet 13 (by kernel_rfl) rfl HA91_.out (fun K hK => ?_); go_simp; refine hK _ ?_; clear hK K
      refine wa_quiet 14 (by kernel_rfl) rfl HA91_.out (fun K hK => ?_); go_simp; refine hK _ ?_; clear hK K
      refine wa_quiet 15 (by kernel_rfl) rfl HA91_.out (fun K hK => ?_); go_simp; refine hK _ ?_; clear hK K
      refine wa_quiet 16 (by kernel_rfl) rfl HA91_.out (fun K hK => ?_); go_simp; refine hK _ ?_; clear hK K
      refine wa_quiet 17 (by kernel_rfl) rfl HA91_.out (fun K hK => ?_); go_simp; refine hK _ ?_; clear hK K
      refine wa_quiet 18 (by kernel_rfl) rfl HA91_.out (fun K hK => ?_); go_simp; refine hK _ ?_; clear hK K
      refine wa_quiet 19 (by kernel_rfl) rfl HA91_.out (fun K hK => ?_); go_simp; refine hK _ ?_; clear hK K
      refine wa_quiet 20 (by kernel_rfl) rfl HA91_.out (fun K hK => ?_); go_simp; refine hK _ ?_; clear hK K
      refine wa_quiet 23 (by kernel_rfl) rfl HA91_.out (fun K hK => ?_); go_simp; refine hK _ ?_; clear hK K
      refine wa_quiet 24 (by kernel_rfl) rfl HA91_.out (fun K hK => ?_); go_simp; refine hK _ ?_; clear hK K
      refine wa_quiet 25 (by kernel_rfl) rfl HA91_.out (fun K hK => ?_); go_simp; refine hK _ ?_; clear hK K
      refine wa_quiet 26 (by kernel_rfl) rfl HA91_.out (fun K hK => ?_); go_simp; refine hK _ ?_; clear hK K
      refine wa_all [21] (by kernel_rfl) (by decide) (fun i hi => ?_)
      simp only [List.mem_cons, List.not_mem_nil, or_false] at hi
      subst hi
      refine wa_loud rfl (fun K hK => ?_)
      go_wp2_with fail
      refine (xored_c (.slice p33_ ny c34_) (.slice pax ny cax) _ _ _ (HO35_.out.fresh HA89_.out) (HSX.out.fresh HA87_.out) (by rw [HXX.out, HLX.out]; exact Nat.le_refl _) (by rw [HXX.out]; omega)).mono ?_
      rintro e w92_ ⟨vX, rfl, ho, hf⟩
      rw [xs_back, HLX.out] at ho
      obtain ⟨p93_, c94_, hv⟩ := ho.slice
      rw [List.length_map, List.length_range] at hv
      subst hv
      have HOa := Lib.hid ho.sl
      have HA95_ : Hid (Fresh w w92_) := Lib.hid (HA87_.out.trans hf)
      have HA96_ : Hid (Fresh w2 w92_) := Lib.hid (HA88_.out.trans hf)
      have HA97_ : Hid (Fresh w31_ w92_) := Lib.hid (HA89_.out.trans hf)
      have HA98_ : Hid (Fresh w75_ w92_) := Lib.hid (HA90_.out.trans hf)
      have HA99_ : Hid (Fresh w75_ w92_) := Lib.hid (HA91_.out.trans hf)
      have HA100_ : Hid (Fresh w92_ w92_) := Lib.hid (Keeps.refl _ _)
      clear hf ho
      go_wp2_with fail
      refine hK _ _ HA99_.out ?_
      clear hK K
      refine wa_all [22, 27] (by kernel_rfl) (by decide) (fun i hi => ?_)
      simp only [List.mem_cons, List.not_mem_nil, or_false] at hi
      rcases hi with rfl | rfl
      · refine wa_loud rfl (fun K hK => ?_)
        have hrs := run_strB _ _ _ (HOa.out.fresh HA100_.out)
        go_wp2_with fail
        refine hK _ _ HA99_.out ?_
        clear hK K
        refine wa_all [27] (by kernel_rfl) (by decide) (fun i hi => ?_)
        simp only [List.mem_cons, List.not_mem_nil, or_false] at hi
        subst hi
        refine wa_loud rfl (fun K hK => ?_)
        go_wp2_with fail
        refine (xored_c (.slice p77_ ny c78_) (.slice pay ny cay) _ _ _ (HO79_.out.fresh HA98_.out) (HSY.out.fresh HA95_.out) (by rw [HXY.out, HLY.out]; exact Nat.le_refl _) (by rw [HXY.out]; omega)).mono ?_
        rintro e w101_ ⟨vX, rfl, ho, hf⟩
        rw [xs_back, HLY.out] at ho
        obtain ⟨p102_, c103_, hv⟩ := ho.slice
        rw [List.length_map, List.length_range] at hv
        subst hv
        have HOb := Lib.hid ho.sl
        have HA104_ : Hid (Fresh w w101_) := Lib.hid (HA95_.out.trans hf)
        have HA105_ : Hid (Fresh w2 w101_) := Lib.hid (HA96_.out.trans hf)
        have HA106_ : Hid (Fresh w31_ w101_) := Lib.hid (HA97_.out.trans hf)
        have HA107_ : Hid (Fresh w75_ w101_) := Lib.hid (HA98_.out.trans hf)
        have HA108_ : Hid (Fresh w75_ w101_) := Lib.hid (HA99_.out.trans hf)
        have HA109_ : Hid (Fresh w92_ w101_) := Lib.hid (HA100_.out.trans hf)
        have HA110_ : Hid (Fresh w101_ w101_) := Lib.hid (Keeps.refl _ _)
        clear hf ho
        go_wp2_with fail
        refine hK _ _ HA108_.out ?_
        clear hK K
        refine wa_all [28] (by kernel_rfl) (by decide) (fun i hi => ?_)
        simp only [List.mem_cons, List.not_mem_nil, or_false] at hi
        subst hi
        refine wa_loud rfl (fun K hK => ?_)
        have hrs := run_strB _ _ _ (HOb.out.fresh HA110_.out)
        go_wp2_with fail
        refine hK _ _ HA108_.out ?_
        clear hK K
        refine wa_quiet 29 (by kernel_rfl) rfl HA108_.out (fun K hK => ?_); go_simp; refine hK _ ?_; clear hK K
        refine wa_quiet 30 (by kernel_rfl) rfl HA108_.out (fun K hK => ?_); go_simp; refine hK _ ?_; clear hK K
        refine wa_quiet 31 (by kernel_rfl) rfl HA108_.out (fun K hK => ?_); go_simp; refine hK _ ?_; clear hK K
        refine wa_done (by kernel_rfl) ?_
        go_wp2_with fail
        go_ret
        exact ⟨rfl, HA104_.out⟩
      · refine wa_loud rfl (fun K hK => ?_)
        go_wp2_with fail
        refine (xored_c (.slice p77_ ny c78_) (.slice pay ny cay) _ _ _ (HO79_.out.fresh HA98_.out) (HSY.out.fresh HA95_.out) (by rw [HXY.out, HLY.out]; exact Nat.le_refl _) (by rw [HXY.out]; omega)).mono ?_
        rintro e w101_ ⟨vX, rfl, ho, hf⟩
        rw [xs_back, HLY.out] at ho
        obtain ⟨p102_, c103_, hv⟩ := ho.slice
        rw [List.length_map, List.length_range] at hv
        subst hv
        have HOb := Lib.hid ho.sl
        have HA104_ : Hid (Fresh w w101_) := Lib.hid (HA95_.out.trans hf)
        have HA105_ : Hid (Fresh w2 w101_) := Lib.hid (HA96_.out.trans hf)
        have HA106_ : Hid (Fresh w31_ w101_) := Lib.hid (HA97_.out.trans hf)
        have HA107_ : Hid (Fresh w75_ w101_) := Lib.hid (HA98_.out.trans hf)
        have HA108_ : Hid (Fresh w75_ w101_) := Lib.hid (HA99_.out.trans hf)
        have HA109_ : Hid (Fresh w92_ w101_) := Lib.hid (HA100_.out.trans hf)
        have HA110_ : Hid (Fresh w101_ w101_) := Lib.hid (Keeps.refl _ _)
        clear hf ho
        go_wp2_with fail
        refine hK _ _ HA108_.out ?_
        clear hK K
        refine wa_all [22, 28] (by kernel_rfl) (by decide) (fun i hi => ?_)
        simp only [List.mem_cons, List.not_mem_nil, or_false] at hi
        rcases hi with rfl | rfl
        · refine wa_loud rfl (fun K hK => ?_)
          have hrs := run_strB _ _ _ (HOa.out.fresh HA109_.out)
          go_wp2_with fail
          refine hK _ _ HA108_.out ?_
          clear hK K
          refine wa_all [28] (by kernel_rfl) (by decide) (fun i hi => ?_)
          simp only [List.mem_cons, List.not_mem_nil, or_false] at hi
          subst hi
          refine wa_loud rfl (fun K hK => ?_)
          have hrs := run_strB _ _ _ (HOb.out.fresh HA110_.out)
          go_wp2_with fail
          refine hK _ _ HA108_.out ?_
          clear hK K
          refine wa_quiet 29 (by kernel_rfl) rfl HA108_.out (fun K hK => ?_); go_simp; refine hK _ ?_; clear hK K
          refine wa_quiet 30 (by kernel_rfl) rfl HA108_.out (fun K hK => ?_); go_simp; refine hK _ ?_; clear hK K
          refine wa_quiet 31 (by kernel_rfl) rfl HA108_.out (fun K hK => ?_); go_simp; refine hK _ ?_; clear hK K
          refine wa_done (by kernel_rfl) ?_
          go_wp2_with fail
          go_ret
          exact ⟨rfl, HA104_.out⟩
        · refine wa_loud rfl (fun K hK => ?_)
          have hrs := run_strB _ _ _ (HOb.out.fresh HA110_.out)
          go_wp2_with fail
          refine hK _ _ HA108_.out ?_
          clear hK K
          refine wa_all [22] (by kernel_rfl) (by decide) (fun i hi => ?_)
          simp only [List.mem_cons, List.not_mem_nil, or_false] at hi
          subst hi
          refine wa_loud rfl (fun K hK => ?_)
          have hrs := run_strB _ _ _ (HOa.out.fresh HA109_.out)
          go_wp2_with fail
          refine hK _ _ HA108_.out ?_
          clear hK K
          refine wa_quiet 29 (by kernel_rfl) rfl HA108_.out (fun K hK => ?_); go_simp; refine hK _ ?_; clear hK K
          refine wa_quiet 30 (by kernel_rfl) rfl HA108_.out (fun K hK => ?_); go_simp; refine hK _ ?_; clear hK K
          refine wa_quiet 31 (by kernel_rfl) rfl HA108_.out (fun K hK => ?_); go_simp; refine hK _ ?_; clear hK K
          refine wa_done (by kernel_rfl) ?_
          go_wp2_with fail
          go_ret
          exact ⟨rfl, HA104_.out⟩
end Go.Proofs.Ytaapglpnofmmlaa
