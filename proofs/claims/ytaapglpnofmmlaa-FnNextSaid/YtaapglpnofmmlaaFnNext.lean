/-
  The walk of laws.FnNext.
-/
import Derived.Test.YtaapglpnofmmlaaNext4
import Derived.Deep.QuietTactic
namespace Go.Proofs.Ytaapglpnofmmlaa
open Go Go.RowKit
set_option linter.unusedVariables false
attribute [local irreducible] Cha.iter Cha.rounds Cha.dbl Cha.qr ckOf run doA doN CK.ks withinB xs
set_option maxRecDepth 100000 in
set_option maxHeartbeats 4000000 in
theorem fnNext_c (key nonce s0 : List UInt8) (long : Bool) (c : UInt32) (vs : Value) (w : World) (hk : key.length = 32) (hnl : nonce.length = 24) (hs : SlB w vs s0) (hl : s0.length ≤ 140737488351232) :
    Calls Try.prog 11 #[.agg (cells8 key), .agg (cells8 nonce), .bool long, .int .u32 (u32 c), vs] w fun e w' => e = .returned (.bool true) ∧ Fresh w w' := by
  obtain ⟨pa, ca, rfl⟩ := hs.slice
  obtain ⟨n, hn⟩ : ∃ n, n = s0.length := ⟨_, rfl⟩
  rw [← hn] at hs hl ⊢
  have HS := Lib.hid hs
  have HE := Lib.hid hn
  clear hs hn
  have HKL := Lib.hid hk
  have HNL := Lib.hid hnl
  have h1 := cells8_one key
  have h2 := cells8_one nonce
  clear hk hnl
  have hmk := make64
  obtain ⟨d, hd⟩ : ∃ d : UInt32, d = c + 1 := ⟨_, rfl⟩
  have hd1 : IntKind.u32.wrap (u32 c + 1) = u32 d := by rw [hd]; exact wrap_inc32 c
  have HDE := Lib.hid hd
  clear hd
  go_enter Try.func11, Try.ntmps11
  refine wp_seq_hold (fun K0 HK0 => ?_)
  go_wp2_with fail
  have HBK := Lib.hid (heap_alloc2_old w (.cells (cells8 key) 27) (.cells (cells8 nonce) 28))
  have HBN := Lib.hid (heap_alloc2_new w (.cells (cells8 key) 27) (.cells (cells8 nonce) 28))
  have HF2 : Hid (Fresh w ((w.alloc (.cells (cells8 key) 27)).alloc (.cells (cells8 nonce) 28))) := Lib.hid (((Keeps.refl _ w).alloc _).alloc _)
  generalize ((w.alloc (.cells (cells8 key) 27)).alloc (.cells (cells8 nonce) 28)) = w2 at HBK HBN HF2 ⊢
  refine HK0.out _ _ ?_
  clear HK0
  by_cases hz : d = 0
  · have hz0 : u32 d = 0 := by rw [hz]; rfl
    clear hz
    go_wp2_with fail
    go_ret
    exact ⟨rfl, HF2.out⟩
  have hz0 : ¬ u32 d = 0 := by
    intro h
    apply hz
    apply UInt32.toNat_inj.1
    unfold u32 at h
    show d.toNat = 0
    omega
  have HCD : Hid (c.toNat + 1 = d.toNat) := Lib.hid (by
    have h1 := c.toNat_lt
    have h2 : d.toNat = (c.toNat + 1) % 4294967296 := by rw [HDE.out, UInt32.toNat_add]; rfl
    have h3 : ¬ d.toNat = 0 := fun h => hz0 (by unfold u32; omega)
    omega)
  clear hz
  refine wp_seq_hold (fun K1 HK1 => ?_)
  go_wp2_with fail
  have HA1_ : Hid (Fresh w2 w2) := Lib.hid (Keeps.refl _ _)
  refine (within2_c d n w2 (by omega)).mono ?_
  rintro e w3 ⟨rfl, hw3⟩
  subst w3
  cases hwi : withinB d n with
  | false =>
    go_wp2_with fail
    go_ret
    exact ⟨rfl, HF2.out⟩
  | true =>
    have HWI := Lib.hid (within_true hwi)
    clear hwi
    have HXL : Hid (∀ z, (xs z (zerosN 64 ++ s0)).length = 64 + n) := Lib.hid (fun z => by rw [xs_len, List.length_append, zerosN_len, ← HE.out])
    go_wp2_with fail
    refine HK1.out _ _ ?_
    clear HK1
    refine wp_seq_hold (fun K2 HK2 => ?_)
    go_wp2_with fail
    refine wp_region_wa (fun w' => Fresh w2 w') 17 rfl (by kernel_rfl) ?_
    have HA2_ : Hid (Fresh w2 w2) := Lib.hid (Keeps.refl _ _)
    have HA3_ : Hid (Fresh w w2.drew) := Lib.hid (HF2.out.drew)
    have HA4_ : Hid (Fresh w2 w2.drew) := Lib.hid (HA1_.out.drew)
    have HA5_ : Hid (Fresh w2 w2.drew) := Lib.hid (HA2_.out.drew)
    refine wa_load 0 (.agg (cells8 key)) (by kernel_rfl) rfl HA5_.out (by rfl) (fun w' hw' => load32 _ rfl rfl HKL.out HBK.out (HA1_.out.trans hw')) ?_
    refine wa_load 1 (.agg (cells8 nonce)) (by kernel_rfl) rfl HA5_.out (by rfl) (fun w' hw' => load24 _ rfl rfl HNL.out HBN.out (HA1_.out.trans hw')) ?_
    refine wa_quiet 2 (by kernel_rfl) rfl HA5_.out (fun K hK => ?_); go_simp; refine hK _ ?_; clear hK K
    refine wa_quiet 4 (by kernel_rfl) rfl HA5_.out (fun K hK => ?_); go_simp; refine hK _ ?_; clear hK K
    refine wa_quiet 8 (by kernel_rfl) rfl HA5_.out (fun K hK => ?_); go_simp; refine hK _ ?_; clear hK K
    refine wa_all [3, 6] (by kernel_rfl) (by decide) (fun i hi => ?_)
    simp only [List.mem_cons, List.not_mem_nil, or_false] at hi
    rcases hi with rfl | rfl
    · refine wa_loud rfl (fun K hK => ?_)
      go_wp2_with fail
      refine (nonceOf_c nonce long _ HNL.out).mono ?_
      rintro e w6_ ⟨vN, rfl, hs, hf⟩
      obtain ⟨p7_, c8_, rfl⟩ := hs.slice
      have HN9_ := Lib.hid hs
      have HA10_ : Hid (Fresh w w6_) := Lib.hid (HA3_.out.trans hf)
      have HA11_ : Hid (Fresh w2 w6_) := Lib.hid (HA4_.out.trans hf)
      have HA12_ : Hid (Fresh w2 w6_) := Lib.hid (HA5_.out.trans hf)
      clear hs hf
      have HA13_ : Hid (Fresh w6_ w6_) := Lib.hid (Keeps.refl _ _)
      go_wp2_with fail
      refine hK _ _ HA12_.out ?_
      clear hK K
      refine wa_all [5, 6] (by kernel_rfl) (by decide) (fun i hi => ?_)
      simp only [List.mem_cons, List.not_mem_nil, or_false] at hi
      rcases hi with rfl | rfl
      · refine wa_loud rfl (fun K hK => ?_)
        go_wp2_with fail
        refine (at_c (c) _).mono ?_
        rintro e w14_ ⟨rfl, hf⟩
        have HA15_ : Hid (Fresh w w14_) := Lib.hid (HA10_.out.trans hf)
        have HA16_ : Hid (Fresh w2 w14_) := Lib.hid (HA11_.out.trans hf)
        have HA17_ : Hid (Fresh w2 w14_) := Lib.hid (HA12_.out.trans hf)
        have HA18_ : Hid (Fresh w6_ w14_) := Lib.hid (HA13_.out.trans hf)
        clear hf
        try simp only [stV, atS]
        go_wp2_with fail
        refine hK _ _ HA17_.out ?_
        clear hK K
        refine wa_all [6] (by kernel_rfl) (by decide) (fun i hi => ?_)
        simp only [List.mem_cons, List.not_mem_nil, or_false] at hi
        subst hi
        refine wa_loud rfl (fun K hK => ?_)
        go_wp2_with fail
        generalize hw20_ : w14_.alloc _ = w19_
        have HM21_ : Hid (SlB w19_ (.slice (some ⟨w14_.heap.size, 0, none⟩) 64 64) (zerosN 64)) := Lib.hid (by rw [← hw20_]; exact makeN_sl 64 _ (by decide))
        have HA23_ : Hid (Fresh w w19_) := Lib.hid ((by rw [← hw20_]; exact HA15_.out.alloc _))
        have HA24_ : Hid (Fresh w2 w19_) := Lib.hid ((by rw [← hw20_]; exact HA16_.out.alloc _))
        have HA25_ : Hid (Fresh w2 w19_) := Lib.hid ((by rw [← hw20_]; exact HA17_.out.alloc _))
        have HA26_ : Hid (Fresh w6_ w19_) := Lib.hid ((by rw [← hw20_]; exact HA18_.out.alloc _))
        clear hw20_
        have HA27_ : Hid (Fresh w19_ w19_) := Lib.hid (Keeps.refl _ _)
        refine hK _ _ HA25_.out ?_
        clear hK K
        refine wa_all [7] (by kernel_rfl) (by decide) (fun i hi => ?_)
        simp only [List.mem_cons, List.not_mem_nil, or_false] at hi
        subst hi
        refine wa_loud rfl (fun K hK => ?_)
        go_wp2_with fail
        refine (into_c (.slice (some ⟨w14_.heap.size, 0, none⟩) 64 64) (zerosN 64) _ (HM21_.out.fresh HA27_.out)).mono ?_
        rintro e w28_ ⟨rfl, hf⟩
        have HA29_ : Hid (Fresh w w28_) := Lib.hid (HA23_.out.trans hf)
        have HA30_ : Hid (Fresh w2 w28_) := Lib.hid (HA24_.out.trans hf)
        have HA31_ : Hid (Fresh w2 w28_) := Lib.hid (HA25_.out.trans hf)
        have HA32_ : Hid (Fresh w6_ w28_) := Lib.hid (HA26_.out.trans hf)
        have HA33_ : Hid (Fresh w19_ w28_) := Lib.hid (HA27_.out.trans hf)
        clear hf
        try simp only [stV, intoS]
        go_wp2_with fail
        refine hK _ _ HA31_.out ?_
        clear hK K
        refine wa_all [9] (by kernel_rfl) (by decide) (fun i hi => ?_)
        simp only [List.mem_cons, List.not_mem_nil, or_false] at hi
        subst hi
        refine wa_loud rfl (fun K hK => ?_)
        go_wp2_with fail
        refine (into_c (.slice pa n ca) (s0) _ (HS.out.fresh HA29_.out)).mono ?_
        rintro e w34_ ⟨rfl, hf⟩
        have HA35_ : Hid (Fresh w w34_) := Lib.hid (HA29_.out.trans hf)
        have HA36_ : Hid (Fresh w2 w34_) := Lib.hid (HA30_.out.trans hf)
        have HA37_ : Hid (Fresh w2 w34_) := Lib.hid (HA31_.out.trans hf)
        have HA38_ : Hid (Fresh w6_ w34_) := Lib.hid (HA32_.out.trans hf)
        have HA39_ : Hid (Fresh w19_ w34_) := Lib.hid (HA33_.out.trans hf)
        clear hf
        try simp only [stV, intoS]
        go_wp2_with fail
        refine hK _ _ HA37_.out ?_
        clear hK K
        refine wa_all [10] (by kernel_rfl) (by decide) (fun i hi => ?_)
        simp only [List.mem_cons, List.not_mem_nil, or_false] at hi
        subst hi
        refine wa_loud rfl (fun K hK => ?_)
        go_wp2_with fail
        generalize hw41_ : w34_.alloc _ = w40_
        have HA43_ : Hid (Fresh w w40_) := Lib.hid ((by rw [← hw41_]; exact HA35_.out.alloc _))
        have HA44_ : Hid (Fresh w2 w40_) := Lib.hid ((by rw [← hw41_]; exact HA36_.out.alloc _))
        have HA45_ : Hid (Fresh w2 w40_) := Lib.hid ((by rw [← hw41_]; exact HA37_.out.alloc _))
        have HA46_ : Hid (Fresh w6_ w40_) := Lib.hid ((by rw [← hw41_]; exact HA38_.out.alloc _))
        have HA47_ : Hid (Fresh w19_ w40_) := Lib.hid ((by rw [← hw41_]; exact HA39_.out.alloc _))
        have HB42_ := Lib.hid hw41_
        clear hw41_
        refine hK _ _ HA45_.out ?_
        clear hK K
        refine wa_all [11] (by kernel_rfl) (by decide) (fun i hi => ?_)
        simp only [List.mem_cons, List.not_mem_nil, or_false] at hi
        subst hi
        refine wa_loud rfl (fun K hK => ?_)
        go_wp2_with fail
        refine (ran_lit (.slice p7_ (nonL nonce long).length c8_) _ key (nonL nonce long) (xs (fun i => (ckOf key (nonL nonce long)).ks (64 * c.toNat + i)) (zerosN 64 ++ s0)) [(.slice none 0 0, atS (c)), (.slice (some ⟨w14_.heap.size, 0, none⟩) 64 64, intoS (zerosN 64)), (.slice pa n ca, intoS (s0))] _ HKL.out (HN9_.out.fresh HA46_.out) (nonL_len HNL.out long) (StepsL.lit (b := w34_.heap.size) [(.slice none 0 0, atS (c)), (.slice (some ⟨w14_.heap.size, 0, none⟩) 64 64, intoS (zerosN 64)), (.slice pa n ca, intoS (s0))] (by rw [← HB42_.out]; exact heap_alloc_new _ _) rfl (Nat.le_of_ble_eq_true rfl) ?_) (Nat.le_of_ble_eq_true rfl) ?_ (Ran.into2 _ c (zerosN 64) s0 (by rw [zerosN_len, ← HE.out]; have := HWI.out.2; have := HCD.out; omega)) (by rw [HXL.out]; have := HWI.out.1; omega)).mono ?_
        · intro q hq; simp only [List.mem_cons, List.not_mem_nil, or_false] at hq; rcases hq with rfl | rfl | rfl
          · exact SlB.nil _
          · exact HM21_.out.fresh HA47_.out
          · exact HS.out.fresh HA43_.out
        · intro q hq; simp only [List.mem_cons, List.not_mem_nil, or_false] at hq; rcases hq with rfl | rfl | rfl
          · exact okAt _
          · exact okInto (by rw [zerosN_len]; decide)
          · exact okInto (by rw [← HE.out]; have := HWI.out.1; omega)
        rintro e w48_ ⟨v49_, rfl, ho, hf⟩
        obtain ⟨p50_, c51_, hv⟩ := ho.slice
        rw [HXL.out] at hv
        subst hv
        have HO52_ := Lib.hid ho.sl
        have HA53_ : Hid (Fresh w w48_) := Lib.hid (HA43_.out.trans hf)
        have HA54_ : Hid (Fresh w2 w48_) := Lib.hid (HA44_.out.trans hf)
        have HA55_ : Hid (Fresh w2 w48_) := Lib.hid (HA45_.out.trans hf)
        have HA56_ : Hid (Fresh w6_ w48_) := Lib.hid (HA46_.out.trans hf)
        have HA57_ : Hid (Fresh w19_ w48_) := Lib.hid (HA47_.out.trans hf)
        clear ho hf
        have HA58_ : Hid (Fresh w48_ w48_) := Lib.hid (Keeps.refl _ _)
        go_wp2_with fail
        refine hK _ _ HA55_.out ?_
        clear hK K
        refine wa_quiet 12 (by kernel_rfl) rfl HA55_.out (fun K hK => ?_); go_simp; refine hK _ ?_; clear hK K
        refine wa_quiet 13 (by kernel_rfl) rfl HA55_.out (fun K hK => ?_); go_simp; refine hK _ ?_; clear hK K
        refine wa_quiet 15 (by kernel_rfl) rfl HA55_.out (fun K hK => ?_); go_simp; refine hK _ ?_; clear hK K
        refine wa_quiet 14 (by kernel_rfl) rfl HA55_.out (fun K hK => ?_); go_simp; refine hK _ ?_; clear hK K
        refine wa_quiet 16 (by kernel_rfl) rfl HA55_.out (fun K hK => ?_); go_simp; refine hK _ ?_; clear hK K
        refine wa_done (by kernel_rfl) ?_
        obtain ⟨gA, oA, cA, eA, -, -, -, -⟩ := HO52_.out.form (by rw [HXL.out]; omega)
        rw [HXL.out] at eA
        injection eA with eA1 eA2 eA3
        subst eA1 eA3
        go_wp2_with fail
        refine HK2.out _ _ ?_
        refine nx4_c _ w.heap.size _ _ _ (64 + n) n _ _ key nonce s0 long c d _ _ _ _ _ _ _ _ _ _ _ _ _ _ _ _ _ _ _ _ _ _ _ _ _ _ _ _ _ _ _ _ _ _ _ _ _ _ _ _ _ _ _ _ _ _ _ _ _ _ _ _ _ _ _ _ _ _ _ _ _ _ _ _ _ _ _ _ _ HKL.out HNL.out (HA54_.out.at HBK.out) (HA54_.out.at HBN.out) (HS.out.fresh HA53_.out) HE.out rfl HDE.out HCD.out HWI.out (HO52_.out.fresh HA58_.out) ?_
        intro w' hf
        exact ⟨rfl, HA53_.out.trans hf⟩
      · refine wa_loud rfl (fun K hK => ?_)
        go_wp2_with fail
        generalize hw15_ : w6_.alloc _ = w14_
        have HM16_ : Hid (SlB w14_ (.slice (some ⟨w6_.heap.size, 0, none⟩) 64 64) (zerosN 64)) := Lib.hid (by rw [← hw15_]; exact makeN_sl 64 _ (by decide))
        have HA18_ : Hid (Fresh w w14_) := Lib.hid ((by rw [← hw15_]; exact HA10_.out.alloc _))
        have HA19_ : Hid (Fresh w2 w14_) := Lib.hid ((by rw [← hw15_]; exact HA11_.out.alloc _))
        have HA20_ : Hid (Fresh w2 w14_) := Lib.hid ((by rw [← hw15_]; exact HA12_.out.alloc _))
        have HA21_ : Hid (Fresh w6_ w14_) := Lib.hid ((by rw [← hw15_]; exact HA13_.out.alloc _))
        clear hw15_
        have HA22_ : Hid (Fresh w14_ w14_) := Lib.hid (Keeps.refl _ _)
        refine hK _ _ HA20_.out ?_
        clear hK K
        refine wa_all [5] (by kernel_rfl) (by decide) (fun i hi => ?_)
        simp only [List.mem_cons, List.not_mem_nil, or_false] at hi
        subst hi
        refine wa_loud rfl (fun K hK => ?_)
        go_wp2_with fail
        refine (at_c (c) _).mono ?_
        rintro e w23_ ⟨rfl, hf⟩
        have HA24_ : Hid (Fresh w w23_) := Lib.hid (HA18_.out.trans hf)
        have HA25_ : Hid (Fresh w2 w23_) := Lib.hid (HA19_.out.trans hf)
        have HA26_ : Hid (Fresh w2 w23_) := Lib.hid (HA20_.out.trans hf)
        have HA27_ : Hid (Fresh w6_ w23_) := Lib.hid (HA21_.out.trans hf)
        have HA28_ : Hid (Fresh w14_ w23_) := Lib.hid (HA22_.out.trans hf)
        clear hf
        try simp only [stV, atS]
        go_wp2_with fail
        refine hK _ _ HA26_.out ?_
        clear hK K
        refine wa_all [7] (by kernel_rfl) (by decide) (fun i hi => ?_)
        simp only [List.mem_cons, List.not_mem_nil, or_false] at hi
        subst hi
        refine wa_loud rfl (fun K hK => ?_)
        go_wp2_with fail
        refine (into_c (.slice (some ⟨w6_.heap.size, 0, none⟩) 64 64) (zerosN 64) _ (HM16_.out.fresh HA28_.out)).mono ?_
        rintro e w29_ ⟨rfl, hf⟩
        have HA30_ : Hid (Fresh w w29_) := Lib.hid (HA24_.out.trans hf)
        have HA31_ : Hid (Fresh w2 w29_) := Lib.hid (HA25_.out.trans hf)
        have HA32_ : Hid (Fresh w2 w29_) := Lib.hid (HA26_.out.trans hf)
        have HA33_ : Hid (Fresh w6_ w29_) := Lib.hid (HA27_.out.trans hf)
        have HA34_ : Hid (Fresh w14_ w29_) := Lib.hid (HA28_.out.trans hf)
        clear hf
        try simp only [stV, intoS]
        go_wp2_with fail
        refine hK _ _ HA32_.out ?_
        clear hK K
        refine wa_all [9] (by kernel_rfl) (by decide) (fun i hi => ?_)
        simp only [List.mem_cons, List.not_mem_nil, or_false] at hi
        subst hi
        refine wa_loud rfl (fun K hK => ?_)
        go_wp2_with fail
        refine (into_c (.slice pa n ca) (s0) _ (HS.out.fresh HA30_.out)).mono ?_
        rintro e w35_ ⟨rfl, hf⟩
        have HA36_ : Hid (Fresh w w35_) := Lib.hid (HA30_.out.trans hf)
        have HA37_ : Hid (Fresh w2 w35_) := Lib.hid (HA31_.out.trans hf)
        have HA38_ : Hid (Fresh w2 w35_) := Lib.hid (HA32_.out.trans hf)
        have HA39_ : Hid (Fresh w6_ w35_) := Lib.hid (HA33_.out.trans hf)
        have HA40_ : Hid (Fresh w14_ w35_) := Lib.hid (HA34_.out.trans hf)
        clear hf
        try simp only [stV, intoS]
        go_wp2_with fail
        refine hK _ _ HA38_.out ?_
        clear hK K
        refine wa_all [10] (by kernel_rfl) (by decide) (fun i hi => ?_)
        simp only [List.mem_cons, List.not_mem_nil, or_false] at hi
        subst hi
        refine wa_loud rfl (fun K hK => ?_)
        go_wp2_with fail
        generalize hw42_ : w35_.alloc _ = w41_
        have HA44_ : Hid (Fresh w w41_) := Lib.hid ((by rw [← hw42_]; exact HA36_.out.alloc _))
        have HA45_ : Hid (Fresh w2 w41_) := Lib.hid ((by rw [← hw42_]; exact HA37_.out.alloc _))
        have HA46_ : Hid (Fresh w2 w41_) := Lib.hid ((by rw [← hw42_]; exact HA38_.out.alloc _))
        have HA47_ : Hid (Fresh w6_ w41_) := Lib.hid ((by rw [← hw42_]; exact HA39_.out.alloc _))
        have HA48_ : Hid (Fresh w14_ w41_) := Lib.hid ((by rw [← hw42_]; exact HA40_.out.alloc _))
        have HB43_ := Lib.hid hw42_
        clear hw42_
        refine hK _ _ HA46_.out ?_
        clear hK K
        refine wa_all [11] (by kernel_rfl) (by decide) (fun i hi => ?_)
        simp only [List.mem_cons, List.not_mem_nil, or_false] at hi
        subst hi
        refine wa_loud rfl (fun K hK => ?_)
        go_wp2_with fail
        refine (ran_lit (.slice p7_ (nonL nonce long).length c8_) _ key (nonL nonce long) (xs (fun i => (ckOf key (nonL nonce long)).ks (64 * c.toNat + i)) (zerosN 64 ++ s0)) [(.slice none 0 0, atS (c)), (.slice (some ⟨w6_.heap.size, 0, none⟩) 64 64, intoS (zerosN 64)), (.slice pa n ca, intoS (s0))] _ HKL.out (HN9_.out.fresh HA47_.out) (nonL_len HNL.out long) (StepsL.lit (b := w35_.heap.size) [(.slice none 0 0, atS (c)), (.slice (some ⟨w6_.heap.size, 0, none⟩) 64 64, intoS (zerosN 64)), (.slice pa n ca, intoS (s0))] (by rw [← HB43_.out]; exact heap_alloc_new _ _) rfl (Nat.le_of_ble_eq_true rfl) ?_) (Nat.le_of_ble_eq_true rfl) ?_ (Ran.into2 _ c (zerosN 64) s0 (by rw [zerosN_len, ← HE.out]; have := HWI.out.2; have := HCD.out; omega)) (by rw [HXL.out]; have := HWI.out.1; omega)).mono ?_
        · intro q hq; simp only [List.mem_cons, List.not_mem_nil, or_false] at hq; rcases hq with rfl | rfl | rfl
          · exact SlB.nil _
          · exact HM16_.out.fresh HA48_.out
          · exact HS.out.fresh HA44_.out
        · intro q hq; simp only [List.mem_cons, List.not_mem_nil, or_false] at hq; rcases hq with rfl | rfl | rfl
          · exact okAt _
          · exact okInto (by rw [zerosN_len]; decide)
          · exact okInto (by rw [← HE.out]; have := HWI.out.1; omega)
        rintro e w49_ ⟨v50_, rfl, ho, hf⟩
        obtain ⟨p51_, c52_, hv⟩ := ho.slice
        rw [HXL.out] at hv
        subst hv
        have HO53_ := Lib.hid ho.sl
        have HA54_ : Hid (Fresh w w49_) := Lib.hid (HA44_.out.trans hf)
        have HA55_ : Hid (Fresh w2 w49_) := Lib.hid (HA45_.out.trans hf)
        have HA56_ : Hid (Fresh w2 w49_) := Lib.hid (HA46_.out.trans hf)
        have HA57_ : Hid (Fresh w6_ w49_) := Lib.hid (HA47_.out.trans hf)
        have HA58_ : Hid (Fresh w14_ w49_) := Lib.hid (HA48_.out.trans hf)
        clear ho hf
        have HA59_ : Hid (Fresh w49_ w49_) := Lib.hid (Keeps.refl _ _)
        go_wp2_with fail
        refine hK _ _ HA56_.out ?_
        clear hK K
        refine wa_quiet 12 (by kernel_rfl) rfl HA56_.out (fun K hK => ?_); go_simp; refine hK _ ?_; clear hK K
        refine wa_quiet 13 (by kernel_rfl) rfl HA56_.out (fun K hK => ?_); go_simp; refine hK _ ?_; clear hK K
        refine wa_quiet 15 (by kernel_rfl) rfl HA56_.out (fun K hK => ?_); go_simp; refine hK _ ?_; clear hK K
        refine wa_quiet 14 (by kernel_rfl) rfl HA56_.out (fun K hK => ?_); go_simp; refine hK _ ?_; clear hK K
        refine wa_quiet 16 (by kernel_rfl) rfl HA56_.out (fun K hK => ?_); go_simp; refine hK _ ?_; clear hK K
        refine wa_done (by kernel_rfl) ?_
        obtain ⟨gA, oA, cA, eA, -, -, -, -⟩ := HO53_.out.form (by rw [HXL.out]; omega)
        rw [HXL.out] at eA
        injection eA with eA1 eA2 eA3
        subst eA1 eA3
        go_wp2_with fail
        refine HK2.out _ _ ?_
        refine nx4_c _ w.heap.size _ _ _ (64 + n) n _ _ key nonce s0 long c d _ _ _ _ _ _ _ _ _ _ _ _ _ _ _ _ _ _ _ _ _ _ _ _ _ _ _ _ _ _ _ _ _ _ _ _ _ _ _ _ _ _ _ _ _ _ _ _ _ _ _ _ _ _ _ _ _ _ _ _ _ _ _ _ _ _ _ _ _ HKL.out HNL.out (HA55_.out.at HBK.out) (HA55_.out.at HBN.out) (HS.out.fresh HA54_.out) HE.out rfl HDE.out HCD.out HWI.out (HO53_.out.fresh HA59_.out) ?_
        intro w' hf
        exact ⟨rfl, HA54_.out.trans hf⟩
    · refine wa_loud rfl (fun K hK => ?_)
      go_wp2_with fail
      generalize hw7_ : w2.alloc _ = w6_
      have HM8_ : Hid (SlB w6_.drew (.slice (some ⟨w2.heap.size, 0, none⟩) 64 64) (zerosN 64)) := Lib.hid (by rw [← hw7_]; exact makeN_sl 64 _ (by decide))
      have HA10_ : Hid (Fresh w w6_.drew) := Lib.hid ((by rw [← hw7_]; exact HA3_.out.alloc _))
      have HA11_ : Hid (Fresh w2 w6_.drew) := Lib.hid ((by rw [← hw7_]; exact HA4_.out.alloc _))
      have HA12_ : Hid (Fresh w2 w6_.drew) := Lib.hid ((by rw [← hw7_]; exact HA5_.out.alloc _))
      clear hw7_
      have HA13_ : Hid (Fresh w6_.drew w6_.drew) := Lib.hid (Keeps.refl _ _)
      refine hK _ _ HA12_.out ?_
      clear hK K
      refine wa_all [3] (by kernel_rfl) (by decide) (fun i hi => ?_)
      simp only [List.mem_cons, List.not_mem_nil, or_false] at hi
      subst hi
      refine wa_loud rfl (fun K hK => ?_)
      go_wp2_with fail
      refine (nonceOf_c nonce long _ HNL.out).mono ?_
      rintro e w14_ ⟨vN, rfl, hs, hf⟩
      obtain ⟨p15_, c16_, rfl⟩ := hs.slice
      have HN17_ := Lib.hid hs
      have HA18_ : Hid (Fresh w w14_) := Lib.hid (HA10_.out.trans hf)
      have HA19_ : Hid (Fresh w2 w14_) := Lib.hid (HA11_.out.trans hf)
      have HA20_ : Hid (Fresh w2 w14_) := Lib.hid (HA12_.out.trans hf)
      have HA21_ : Hid (Fresh w6_.drew w14_) := Lib.hid (HA13_.out.trans hf)
      clear hs hf
      have HA22_ : Hid (Fresh w14_ w14_) := Lib.hid (Keeps.refl _ _)
      go_wp2_with fail
      refine hK _ _ HA20_.out ?_
      clear hK K
      refine wa_all [5] (by kernel_rfl) (by decide) (fun i hi => ?_)
      simp only [List.mem_cons, List.not_mem_nil, or_false] at hi
      subst hi
      refine wa_loud rfl (fun K hK => ?_)
      go_wp2_with fail
      refine (at_c (c) _).mono ?_
      rintro e w23_ ⟨rfl, hf⟩
      have HA24_ : Hid (Fresh w w23_) := Lib.hid (HA18_.out.trans hf)
      have HA25_ : Hid (Fresh w2 w23_) := Lib.hid (HA19_.out.trans hf)
      have HA26_ : Hid (Fresh w2 w23_) := Lib.hid (HA20_.out.trans hf)
      have HA27_ : Hid (Fresh w6_.drew w23_) := Lib.hid (HA21_.out.trans hf)
      have HA28_ : Hid (Fresh w14_ w23_) := Lib.hid (HA22_.out.trans hf)
      clear hf
      try simp only [stV, atS]
      go_wp2_with fail
      refine hK _ _ HA26_.out ?_
      clear hK K
      refine wa_all [7] (by kernel_rfl) (by decide) (fun i hi => ?_)
      simp only [List.mem_cons, List.not_mem_nil, or_false] at hi
      subst hi
      refine wa_loud rfl (fun K hK => ?_)
      go_wp2_with fail
      refine (into_c (.slice (some ⟨w2.heap.size, 0, none⟩) 64 64) (zerosN 64) _ (HM8_.out.fresh HA27_.out)).mono ?_
      rintro e w29_ ⟨rfl, hf⟩
      have HA30_ : Hid (Fresh w w29_) := Lib.hid (HA24_.out.trans hf)
      have HA31_ : Hid (Fresh w2 w29_) := Lib.hid (HA25_.out.trans hf)
      have HA32_ : Hid (Fresh w2 w29_) := Lib.hid (HA26_.out.trans hf)
      have HA33_ : Hid (Fresh w6_.drew w29_) := Lib.hid (HA27_.out.trans hf)
      have HA34_ : Hid (Fresh w14_ w29_) := Lib.hid (HA28_.out.trans hf)
      clear hf
      try simp only [stV, intoS]
      go_wp2_with fail
      refine hK _ _ HA32_.out ?_
      clear hK K
      refine wa_all [9] (by kernel_rfl) (by decide) (fun i hi => ?_)
      simp only [List.mem_cons, List.not_mem_nil, or_false] at hi
      subst hi
      refine wa_loud rfl (fun K hK => ?_)
      go_wp2_with fail
      refine (into_c (.slice pa n ca) (s0) _ (HS.out.fresh HA30_.out)).mono ?_
      rintro e w35_ ⟨rfl, hf⟩
      have HA36_ : Hid (Fresh w w35_) := Lib.hid (HA30_.out.trans hf)
      have HA37_ : Hid (Fresh w2 w35_) := Lib.hid (HA31_.out.trans hf)
      have HA38_ : Hid (Fresh w2 w35_) := Lib.hid (HA32_.out.trans hf)
      have HA39_ : Hid (Fresh w6_.drew w35_) := Lib.hid (HA33_.out.trans hf)
      have HA40_ : Hid (Fresh w14_ w35_) := Lib.hid (HA34_.out.trans hf)
      clear hf
      try simp only [stV, intoS]
      go_wp2_with fail
      refine hK _ _ HA38_.out ?_
      clear hK K
      refine wa_all [10] (by kernel_rfl) (by decide) (fun i hi => ?_)
      simp only [List.mem_cons, List.not_mem_nil, or_false] at hi
      subst hi
      refine wa_loud rfl (fun K hK => ?_)
      go_wp2_with fail
      generalize hw42_ : w35_.alloc _ = w41_
      have HA44_ : Hid (Fresh w w41_) := Lib.hid ((by rw [← hw42_]; exact HA36_.out.alloc _))
      have HA45_ : Hid (Fresh w2 w41_) := Lib.hid ((by rw [← hw42_]; exact HA37_.out.alloc _))
      have HA46_ : Hid (Fresh w2 w41_) := Lib.hid ((by rw [← hw42_]; exact HA38_.out.alloc _))
      have HA47_ : Hid (Fresh w6_.drew w41_) := Lib.hid ((by rw [← hw42_]; exact HA39_.out.alloc _))
      have HA48_ : Hid (Fresh w14_ w41_) := Lib.hid ((by rw [← hw42_]; exact HA40_.out.alloc _))
      have HB43_ := Lib.hid hw42_
      clear hw42_
      refine hK _ _ HA46_.out ?_
      clear hK K
      refine wa_all [11] (by kernel_rfl) (by decide) (fun i hi => ?_)
      simp only [List.mem_cons, List.not_mem_nil, or_false] at hi
      subst hi
      refine wa_loud rfl (fun K hK => ?_)
      go_wp2_with fail
      refine (ran_lit (.slice p15_ (nonL nonce long).length c16_) _ key (nonL nonce long) (xs (fun i => (ckOf key (nonL nonce long)).ks (64 * c.toNat + i)) (zerosN 64 ++ s0)) [(.slice none 0 0, atS (c)), (.slice (some ⟨w2.heap.size, 0, none⟩) 64 64, intoS (zerosN 64)), (.slice pa n ca, intoS (s0))] _ HKL.out (HN17_.out.fresh HA48_.out) (nonL_len HNL.out long) (StepsL.lit (b := w35_.heap.size) [(.slice none 0 0, atS (c)), (.slice (some ⟨w2.heap.size, 0, none⟩) 64 64, intoS (zerosN 64)), (.slice pa n ca, intoS (s0))] (by rw [← HB43_.out]; exact heap_alloc_new _ _) rfl (Nat.le_of_ble_eq_true rfl) ?_) (Nat.le_of_ble_eq_true rfl) ?_ (Ran.into2 _ c (zerosN 64) s0 (by rw [zerosN_len, ← HE.out]; have := HWI.out.2; have := HCD.out; omega)) (by rw [HXL.out]; have := HWI.out.1; omega)).mono ?_
      · intro q hq; simp only [List.mem_cons, List.not_mem_nil, or_false] at hq; rcases hq with rfl | rfl | rfl
        · exact SlB.nil _
        · exact HM8_.out.fresh HA47_.out
        · exact HS.out.fresh HA44_.out
      · intro q hq; simp only [List.mem_cons, List.not_mem_nil, or_false] at hq; rcases hq with rfl | rfl | rfl
        · exact okAt _
        · exact okInto (by rw [zerosN_len]; decide)
        · exact okInto (by rw [← HE.out]; have := HWI.out.1; omega)
      rintro e w49_ ⟨v50_, rfl, ho, hf⟩
      obtain ⟨p51_, c52_, hv⟩ := ho.slice
      rw [HXL.out] at hv
      subst hv
      have HO53_ := Lib.hid ho.sl
      have HA54_ : Hid (Fresh w w49_) := Lib.hid (HA44_.out.trans hf)
      have HA55_ : Hid (Fresh w2 w49_) := Lib.hid (HA45_.out.trans hf)
      have HA56_ : Hid (Fresh w2 w49_) := Lib.hid (HA46_.out.trans hf)
      have HA57_ : Hid (Fresh w6_.drew w49_) := Lib.hid (HA47_.out.trans hf)
      have HA58_ : Hid (Fresh w14_ w49_) := Lib.hid (HA48_.out.trans hf)
      clear ho hf
      have HA59_ : Hid (Fresh w49_ w49_) := Lib.hid (Keeps.refl _ _)
      go_wp2_with fail
      refine hK _ _ HA56_.out ?_
      clear hK K
      refine wa_quiet 12 (by kernel_rfl) rfl HA56_.out (fun K hK => ?_); go_simp; refine hK _ ?_; clear hK K
      refine wa_quiet 13 (by kernel_rfl) rfl HA56_.out (fun K hK => ?_); go_simp; refine hK _ ?_; clear hK K
      refine wa_quiet 15 (by kernel_rfl) rfl HA56_.out (fun K hK => ?_); go_simp; refine hK _ ?_; clear hK K
      refine wa_quiet 14 (by kernel_rfl) rfl HA56_.out (fun K hK => ?_); go_simp; refine hK _ ?_; clear hK K
      refine wa_quiet 16 (by kernel_rfl) rfl HA56_.out (fun K hK => ?_); go_simp; refine hK _ ?_; clear hK K
      refine wa_done (by kernel_rfl) ?_
      obtain ⟨gA, oA, cA, eA, -, -, -, -⟩ := HO53_.out.form (by rw [HXL.out]; omega)
      rw [HXL.out] at eA
      injection eA with eA1 eA2 eA3
      subst eA1 eA3
      go_wp2_with fail
      refine HK2.out _ _ ?_
      refine nx4_c _ w.heap.size _ _ _ (64 + n) n _ _ key nonce s0 long c d _ _ _ _ _ _ _ _ _ _ _ _ _ _ _ _ _ _ _ _ _ _ _ _ _ _ _ _ _ _ _ _ _ _ _ _ _ _ _ _ _ _ _ _ _ _ _ _ _ _ _ _ _ _ _ _ _ _ _ _ _ _ _ _ _ _ _ _ _ HKL.out HNL.out (HA55_.out.at HBK.out) (HA55_.out.at HBN.out) (HS.out.fresh HA54_.out) HE.out rfl HDE.out HCD.out HWI.out (HO53_.out.fresh HA59_.out) ?_
      intro w' hf
      exact ⟨rfl, HA54_.out.trans hf⟩
end Go.Proofs.Ytaapglpnofmmlaa