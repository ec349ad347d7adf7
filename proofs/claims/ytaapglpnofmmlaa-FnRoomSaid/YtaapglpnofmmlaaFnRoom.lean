/-
  The walk of laws.FnRoom.
-/
import Derived.Test.YtaapglpnofmmlaaSpecX
import Derived.Deep.QuietTactic
namespace Go.Proofs.Ytaapglpnofmmlaa
open Go Go.RowKit
set_option linter.unusedVariables false
attribute [local irreducible] Cha.iter Cha.rounds Cha.dbl Cha.qr ckOf run doA doN CK.ks withinB xs
theorem strB_cat (a b : List UInt8) : strB a ++ strB b = strB (a ++ b) := by
  unfold strB
  apply ByteArray.ext
  simp [ByteArray.data_append]
theorem wrap_i8_small (r : Nat) (h : r ≤ 127) : IntKind.i8.wrap (r : Int) = (r : Int) := by
  have e : ((r : Int) % (2 ^ IntKind.i8.bits : Int)) = (r : Int) := by
    show (r : Int) % 256 = (r : Int)
    omega
  unfold IntKind.wrap
  simp only [e]
  rw [if_neg]
  intro hc
  have hc := (Bool.and_eq_true _ _ ▸ hc).2
  have h2 : (2 ^ (IntKind.i8.bits - 1) : Int) = 128 := rfl
  have h3 := of_decide_eq_true hc
  omega
theorem strB_size (l : List UInt8) : (strB l).size = l.length := by simp [strB, ByteArray.size]
set_option maxRecDepth 100000 in
set_option maxHeartbeats 4000000 in
theorem fnRoom_c (key nonce s0 : List UInt8) (long : Bool) (c : UInt32) (x : UInt8) (vs : Value) (w : World) (hk : key.length = 32) (hnl : nonce.length = 24) (hs : SlB w vs s0) (hl : s0.length ≤ 140737488351232) :
    Calls Try.prog 13 #[.agg (cells8 key), .agg (cells8 nonce), .bool long, .int .u32 (u32 c), vs, .int .u8 (u8 x)] w fun e w' => e = .returned (.bool true) ∧ Fresh w w' := by
  obtain ⟨pa, ca, rfl⟩ := hs.slice
  obtain ⟨n, hn⟩ : ∃ n, n = s0.length := ⟨_, rfl⟩
  rw [← hn] at hs hl ⊢
  have HS := Lib.hid hs
  have HE := Lib.hid hn
  clear hs hn
  have HKL := Lib.hid hk
  have HNL := Lib.hid hnl
  have h1 := cells8_one key
  have h2 := cells8_one nonce
  clear hk hnl
  obtain ⟨r, hr⟩ : ∃ r : Nat, r = x.toNat % 128 := ⟨_, rfl⟩
  have hr1 : r ≤ 127 := by omega
  have q0 : (u8 x).tmod 128 = (r : Int) := by unfold u8; rw [Int.tmod_eq_emod_of_nonneg (by omega)]; omega
  have q1 : IntKind.u8.wrap (r : Int) = (r : Int) := by rw [IntKind.wrap_u8]; omega
  have q2 : IntKind.i8.wrap (r : Int) = (r : Int) := wrap_i8_small r hr1
  have q3 : IntKind.i64.wrap (r : Int) = (r : Int) := by rw [IntKind.wrap_i64]; omega
  clear hr
  go_enter Try.func13, Try.ntmps13
  go_wp2_with fail
  have HBK := Lib.hid (heap_alloc2_old w (.cells (cells8 key) 27) (.cells (cells8 nonce) 28))
  have HBN := Lib.hid (heap_alloc2_new w (.cells (cells8 key) 27) (.cells (cells8 nonce) 28))
  have HF2 : Hid (Fresh w ((w.alloc (.cells (cells8 key) 27)).alloc (.cells (cells8 nonce) 28))) := Lib.hid (((Keeps.refl _ w).alloc _).alloc _)
  generalize ((w.alloc (.cells (cells8 key) 27)).alloc (.cells (cells8 nonce) 28)) = w2 at HBK HBN HF2 ⊢
  have HA1_ : Hid (Fresh w2 w2) := Lib.hid (Keeps.refl _ _)
  refine (within2_c c n w2 (by omega)).mono ?_
  rintro e w3 ⟨rfl, hw3⟩
  subst w3
  cases hwi : withinB c n with
  | false =>
    go_wp2_with fail
    go_ret
    exact ⟨rfl, HF2.out⟩
  | true =>
    have HWI := Lib.hid (within_true hwi)
    clear hwi
    have HXL : Hid (∀ z, (xs z s0).length = n) := Lib.hid (fun z => by rw [xs_len]; exact HE.out.symm)
    go_wp2_with fail
    refine wp_region_ord (fun w' => Fresh w2 w') [(0, true), (1, true), (2, true), (4, true), (6, true), (7, true), (8, true), (3, false), (5, false), (9, false), (10, false), (11, true), (12, true), (14, true), (13, true), (15, true)] (by kernel_rfl) (by kernel_rfl) ((Keeps.refl _ w2).drew) ?_
    have HA2_ : Hid (Fresh w2 w2) := Lib.hid (Keeps.refl _ _)
    have HA3_ : Hid (Fresh w w2.drew) := Lib.hid (HF2.out.drew)
    have HA4_ : Hid (Fresh w2 w2.drew) := Lib.hid (HA1_.out.drew)
    have HA5_ : Hid (Fresh w2 w2.drew) := Lib.hid (HA2_.out.drew)
    refine ord_load (.agg (cells8 key)) rfl (by rfl) (fun w' hw' => load32 _ rfl rfl HKL.out HBK.out (HA1_.out.trans hw')) ?_
    refine ord_load (.agg (cells8 nonce)) rfl (by rfl) (fun w' hw' => load24 _ rfl rfl HNL.out HBN.out (HA1_.out.trans hw')) ?_
    iterate 5 (refine ord_quiet rfl (fun K hK => ?_); go_simp; refine hK _ ?_; clear hK K)
    refine ord_loud rfl (fun K hK => ?_)
    go_wp2_with fail
    refine (nonceOf_c nonce long _ HNL.out).mono ?_
    rintro e w6_ ⟨vN, rfl, hs, hf⟩
    obtain ⟨p7_, c8_, rfl⟩ := hs.slice
    have HN9_ := Lib.hid hs
    have HA10_ : Hid (Fresh w w6_) := Lib.hid (HA3_.out.trans hf)
    have HA11_ : Hid (Fresh w2 w6_) := Lib.hid (HA4_.out.trans hf)
    have HA12_ : Hid (Fresh w2 w6_) := Lib.hid (HA5_.out.trans hf)
    clear hs hf
    have HA13_ : Hid (Fresh w6_ w6_) := Lib.hid (Keeps.refl _ _)
    go_wp2_with fail
    refine hK _ _ HA12_.out ?_
    clear hK K
    refine ord_loud rfl (fun K hK => ?_)
    go_wp2_with fail
    refine (at_c (c) _).mono ?_
    rintro e w14_ ⟨rfl, hf⟩
    have HA15_ : Hid (Fresh w w14_) := Lib.hid (HA10_.out.trans hf)
    have HA16_ : Hid (Fresh w2 w14_) := Lib.hid (HA11_.out.trans hf)
    have HA17_ : Hid (Fresh w2 w14_) := Lib.hid (HA12_.out.trans hf)
    have HA18_ : Hid (Fresh w6_ w14_) := Lib.hid (HA13_.out.trans hf)
    clear hf
    try simp only [stV, atS]
    go_wp2_with fail
    refine hK _ _ HA17_.out ?_
    clear hK K
    refine ord_loud rfl (fun K hK => ?_)
    go_wp2_with fail
    generalize hw20_ : w14_.alloc _ = w19_
    have HA22_ : Hid (Fresh w w19_) := Lib.hid ((by rw [← hw20_]; exact HA15_.out.alloc _))
    have HA23_ : Hid (Fresh w2 w19_) := Lib.hid ((by rw [← hw20_]; exact HA16_.out.alloc _))
    have HA24_ : Hid (Fresh w2 w19_) := Lib.hid ((by rw [← hw20_]; exact HA17_.out.alloc _))
    have HA25_ : Hid (Fresh w6_ w19_) := Lib.hid ((by rw [← hw20_]; exact HA18_.out.alloc _))
    have HB21_ := Lib.hid hw20_
    clear hw20_
    refine hK _ _ HA24_.out ?_
    clear hK K
    refine ord_loud rfl (fun K hK => ?_)
    go_wp2_with fail
    refine (ran_lit (.slice p7_ (nonL nonce long).length c8_) _ key (nonL nonce long) (xs (fun i => (ckOf key (nonL nonce long)).ks (64 * c.toNat + i)) s0 ++ fillB r) [(.slice none 0 0, atS (c)), (.slice pa n ca, ⟨0, 0, s0, (r : Int)⟩)] _ HKL.out (HN9_.out.fresh HA25_.out) (nonL_len HNL.out long) (StepsL.lit (b := w14_.heap.size) [(.slice none 0 0, atS (c)), (.slice pa n ca, ⟨0, 0, s0, (r : Int)⟩)] (by rw [← HB21_.out]; exact heap_alloc_new _ _) rfl (Nat.le_of_ble_eq_true rfl) ?_) (Nat.le_of_ble_eq_true rfl) ?_ (Ran.room _ c s0 r (by rw [← HE.out]; exact HWI.out.2)) (by rw [List.length_append, HXL.out, fillB_len]; omega)).mono ?_
    · intro q hq; simp only [List.mem_cons, List.not_mem_nil, or_false] at hq; rcases hq with rfl | rfl
      · exact SlB.nil _
      · exact HS.out.fresh HA22_.out
    · intro q hq; simp only [List.mem_cons, List.not_mem_nil, or_false] at hq; rcases hq with rfl | rfl
      · exact okAt _
      · exact okSt (by rw [← HE.out]; omega) (by omega) (by omega)
    rintro e w26_ ⟨v27_, rfl, ho, hf⟩
    obtain ⟨p28_, c29_, hv⟩ := ho.slice
    rw [List.length_append, HXL.out, fillB_len] at hv
    subst hv
    have HO30_ := Lib.hid ho.sl
    have HA31_ : Hid (Fresh w w26_) := Lib.hid (HA22_.out.trans hf)
    have HA32_ : Hid (Fresh w2 w26_) := Lib.hid (HA23_.out.trans hf)
    have HA33_ : Hid (Fresh w2 w26_) := Lib.hid (HA24_.out.trans hf)
    have HA34_ : Hid (Fresh w6_ w26_) := Lib.hid (HA25_.out.trans hf)
    clear ho hf
    have HA35_ : Hid (Fresh w26_ w26_) := Lib.hid (Keeps.refl _ _)
    go_wp2_with fail
    refine hK _ _ HA33_.out ?_
    clear hK K
    iterate 5 (refine ord_quiet rfl (fun K hK => ?_); go_simp; refine hK _ ?_; clear hK K)
    refine ord_last ?_
    go_wp2_with fail
    refine wp_region_ord (fun w' => Fresh w26_ w') [(0, true), (1, true), (2, true), (4, true), (6, true), (3, false), (5, false), (7, false), (8, false), (9, false), (10, true), (11, true), (13, true), (12, true), (14, true)] (by kernel_rfl) (by kernel_rfl) ((Keeps.refl _ w26_).drew) ?_
    have HA36_ : Hid (Fresh w26_ w26_) := Lib.hid (Keeps.refl _ _)
    have HA37_ : Hid (Fresh w w26_.drew) := Lib.hid (HA31_.out.drew)
    have HA38_ : Hid (Fresh w2 w26_.drew) := Lib.hid (HA32_.out.drew)
    have HA39_ : Hid (Fresh w26_ w26_.drew) := Lib.hid (HA35_.out.drew)
    have HA40_ : Hid (Fresh w26_ w26_.drew) := Lib.hid (HA36_.out.drew)
    refine ord_load (.agg (cells8 key)) rfl (by rfl) (fun w' hw' => load32 _ rfl rfl HKL.out HBK.out (HA32_.out.trans hw')) ?_
    refine ord_load (.agg (cells8 nonce)) rfl (by rfl) (fun w' hw' => load24 _ rfl rfl HNL.out HBN.out (HA32_.out.trans hw')) ?_
    iterate 3 (refine ord_quiet rfl (fun K hK => ?_); go_simp; refine hK _ ?_; clear hK K)
    refine ord_loud rfl (fun K hK => ?_)
    go_wp2_with fail
    refine (nonceOf_c nonce long _ HNL.out).mono ?_
    rintro e w41_ ⟨vN, rfl, hs, hf⟩
    obtain ⟨p42_, c43_, rfl⟩ := hs.slice
    have HN44_ := Lib.hid hs
    have HA45_ : Hid (Fresh w w41_) := Lib.hid (HA37_.out.trans hf)
    have HA46_ : Hid (Fresh w2 w41_) := Lib.hid (HA38_.out.trans hf)
    have HA47_ : Hid (Fresh w26_ w41_) := Lib.hid (HA39_.out.trans hf)
    have HA48_ : Hid (Fresh w26_ w41_) := Lib.hid (HA40_.out.trans hf)
    clear hs hf
    have HA49_ : Hid (Fresh w41_ w41_) := Lib.hid (Keeps.refl _ _)
    go_wp2_with fail
    refine hK _ _ HA48_.out ?_
    clear hK K
    refine ord_loud rfl (fun K hK => ?_)
    go_wp2_with fail
    refine (at_c (c) _).mono ?_
    rintro e w50_ ⟨rfl, hf⟩
    have HA51_ : Hid (Fresh w w50_) := Lib.hid (HA45_.out.trans hf)
    have HA52_ : Hid (Fresh w2 w50_) := Lib.hid (HA46_.out.trans hf)
    have HA53_ : Hid (Fresh w26_ w50_) := Lib.hid (HA47_.out.trans hf)
    have HA54_ : Hid (Fresh w26_ w50_) := Lib.hid (HA48_.out.trans hf)
    have HA55_ : Hid (Fresh w41_ w50_) := Lib.hid (HA49_.out.trans hf)
    clear hf
    try simp only [stV, atS]
    go_wp2_with fail
    refine hK _ _ HA54_.out ?_
    clear hK K
    refine ord_loud rfl (fun K hK => ?_)
    go_wp2_with fail
    refine (into_c (.slice pa n ca) (s0) _ (HS.out.fresh HA51_.out)).mono ?_
    rintro e w56_ ⟨rfl, hf⟩
    have HA57_ : Hid (Fresh w w56_) := Lib.hid (HA51_.out.trans hf)
    have HA58_ : Hid (Fresh w2 w56_) := Lib.hid (HA52_.out.trans hf)
    have HA59_ : Hid (Fresh w26_ w56_) := Lib.hid (HA53_.out.trans hf)
    have HA60_ : Hid (Fresh w26_ w56_) := Lib.hid (HA54_.out.trans hf)
    have HA61_ : Hid (Fresh w41_ w56_) := Lib.hid (HA55_.out.trans hf)
    clear hf
    try simp only [stV, intoS]
    go_wp2_with fail
    refine hK _ _ HA60_.out ?_
    clear hK K
    refine ord_loud rfl (fun K hK => ?_)
    go_wp2_with fail
    generalize hw63_ : w56_.alloc _ = w62_
    have HA65_ : Hid (Fresh w w62_) := Lib.hid ((by rw [← hw63_]; exact HA57_.out.alloc _))
    have HA66_ : Hid (Fresh w2 w62_) := Lib.hid ((by rw [← hw63_]; exact HA58_.out.alloc _))
    have HA67_ : Hid (Fresh w26_ w62_) := Lib.hid ((by rw [← hw63_]; exact HA59_.out.alloc _))
    have HA68_ : Hid (Fresh w26_ w62_) := Lib.hid ((by rw [← hw63_]; exact HA60_.out.alloc _))
    have HA69_ : Hid (Fresh w41_ w62_) := Lib.hid ((by rw [← hw63_]; exact HA61_.out.alloc _))
    have HB64_ := Lib.hid hw63_
    clear hw63_
    refine hK _ _ HA68_.out ?_
    clear hK K
    refine ord_loud rfl (fun K hK => ?_)
    go_wp2_with fail
    refine (ran_lit (.slice p42_ (nonL nonce long).length c43_) _ key (nonL nonce long) (xs (fun i => (ckOf key (nonL nonce long)).ks (64 * c.toNat + i)) s0) [(.slice none 0 0, atS (c)), (.slice pa n ca, intoS (s0))] _ HKL.out (HN44_.out.fresh HA69_.out) (nonL_len HNL.out long) (StepsL.lit (b := w56_.heap.size) [(.slice none 0 0, atS (c)), (.slice pa n ca, intoS (s0))] (by rw [← HB64_.out]; exact heap_alloc_new _ _) rfl (Nat.le_of_ble_eq_true rfl) ?_) (Nat.le_of_ble_eq_true rfl) ?_ (Ran.one _ c s0 (by rw [← HE.out]; exact HWI.out.2)) (by rw [HXL.out]; omega)).mono ?_
    · intro q hq; simp only [List.mem_cons, List.not_mem_nil, or_false] at hq; rcases hq with rfl | rfl
      · exact SlB.nil _
      · exact HS.out.fresh HA65_.out
    · intro q hq; simp only [List.mem_cons, List.not_mem_nil, or_false] at hq; rcases hq with rfl | rfl
      · exact okAt _
      · exact okInto (by rw [← HE.out]; omega)
    rintro e w70_ ⟨v71_, rfl, ho, hf⟩
    obtain ⟨p72_, c73_, hv⟩ := ho.slice
    rw [HXL.out] at hv
    subst hv
    have HO74_ := Lib.hid ho.sl
    have HA75_ : Hid (Fresh w w70_) := Lib.hid (HA65_.out.trans hf)
    have HA76_ : Hid (Fresh w2 w70_) := Lib.hid (HA66_.out.trans hf)
    have HA77_ : Hid (Fresh w26_ w70_) := Lib.hid (HA67_.out.trans hf)
    have HA78_ : Hid (Fresh w26_ w70_) := Lib.hid (HA68_.out.trans hf)
    have HA79_ : Hid (Fresh w41_ w70_) := Lib.hid (HA69_.out.trans hf)
    clear ho hf
    have HA80_ : Hid (Fresh w70_ w70_) := Lib.hid (Keeps.refl _ _)
    go_wp2_with fail
    refine hK _ _ HA78_.out ?_
    clear hK K
    iterate 5 (refine ord_quiet rfl (fun K hK => ?_); go_simp; refine hK _ ?_; clear hK K)
    refine ord_last ?_
    have hcsz : ¬ 9223372036854775807 < (strB (xs (fun i => (ckOf key (nonL nonce long)).ks (64 * c.toNat + i)) s0)).size + (strB (fillB r)).size := by rw [strB_size, strB_size, HXL.out, fillB_len]; omega
    have hcat := strB_cat (xs (fun i => (ckOf key (nonL nonce long)).ks (64 * c.toNat + i)) s0) (fillB r)
    go_wp2_with fail
    refine wp_region_ord (fun w' => Fresh w70_ w') [(0, true), (1, true), (2, true), (3, true), (4, true), (5, true), (6, true), (7, true), (8, true), (9, true), (10, true), (11, false), (12, false), (13, true), (14, true), (15, true), (16, true)] (by kernel_rfl) (by kernel_rfl) ((Keeps.refl _ w70_).drew) ?_
    have HA81_ : Hid (Fresh w70_ w70_) := Lib.hid (Keeps.refl _ _)
    have HA82_ : Hid (Fresh w w70_.drew) := Lib.hid (HA75_.out.drew)
    have HA83_ : Hid (Fresh w2 w70_.drew) := Lib.hid (HA76_.out.drew)
    have HA84_ : Hid (Fresh w26_ w70_.drew) := Lib.hid (HA77_.out.drew)
    have HA85_ : Hid (Fresh w70_ w70_.drew) := Lib.hid (HA80_.out.drew)
    have HA86_ : Hid (Fresh w70_ w70_.drew) := Lib.hid (HA81_.out.drew)
    iterate 6 (refine ord_quiet rfl (fun K hK => ?_); go_simp; refine hK _ ?_; clear hK K)
    refine ord_load (.string (strB (xs (fun i => (ckOf key (nonL nonce long)).ks (64 * c.toNat + i)) s0 ++ fillB r))) rfl (by rfl) (fun w' hw' => ?_) ?_
    · have hr := run_strB w' _ _ (HO30_.out.fresh (HA77_.out.trans hw'))
      go_simp
    iterate 1 (refine ord_quiet rfl (fun K hK => ?_); go_simp; refine hK _ ?_; clear hK K)
    refine ord_load (.string (strB (xs (fun i => (ckOf key (nonL nonce long)).ks (64 * c.toNat + i)) s0))) rfl (by rfl) (fun w' hw' => ?_) ?_
    · have hr := run_strB w' _ _ (HO74_.out.fresh (HA80_.out.trans hw'))
      go_simp
    iterate 2 (refine ord_quiet rfl (fun K hK => ?_); go_simp; refine hK _ ?_; clear hK K)
    refine ord_loud rfl (fun K hK => ?_)
    go_wp2_with fail
    refine (filledS_c r _ (by omega)).mono ?_
    rintro e w87_ ⟨vF, rfl, ho, hf⟩
    obtain ⟨pF, cF, rfl⟩ := ho.slice
    have hrF := run_strB _ _ _ ho.sl
    rw [fillB_len] at hrF ⊢
    have HA88_ : Hid (Fresh w w87_) := Lib.hid (HA82_.out.trans hf)
    have HA89_ : Hid (Fresh w2 w87_) := Lib.hid (HA83_.out.trans hf)
    have HA90_ : Hid (Fresh w26_ w87_) := Lib.hid (HA84_.out.trans hf)
    have HA91_ : Hid (Fresh w70_ w87_) := Lib.hid (HA85_.out.trans hf)
    have HA92_ : Hid (Fresh w70_ w87_) := Lib.hid (HA86_.out.trans hf)
    clear hf ho
    go_wp2_with fail
    refine hK _ _ HA92_.out ?_
    clear hK K
    refine ord_loud rfl (fun K hK => ?_)
    go_wp2_with fail
    refine hK _ _ HA92_.out ?_
    clear hK K
    iterate 4 (refine ord_quiet rfl (fun K hK => ?_); go_simp; refine hK _ ?_; clear hK K)
    refine ord_last ?_
    go_wp2_with fail
    go_ret
    exact ⟨rfl, HA88_.out⟩
end Go.Proofs.Ytaapglpnofmmlaa
