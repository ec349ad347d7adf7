/-
  The walk of laws.FnPlace.
-/
import Derived.Test.YtaapglpnofmmlaaLawR
import Derived.Deep.QuietTactic
namespace Go.Proofs.Ytaapglpnofmmlaa
open Go Go.RowKit
set_option linter.unusedVariables false
attribute [local irreducible] Cha.iter Cha.rounds Cha.dbl Cha.qr ckOf run doA doN CK.ks withinB xs
set_option maxRecDepth 100000 in
set_option maxHeartbeats 4000000 in
theorem fnPlace_c (key nonce x y : List UInt8) (long : Bool) (c : UInt32) (vx vy : Value) (w : World) (hk : key.length = 32) (hnl : nonce.length = 24) (hsx : SlB w vx x) (hlx : x.length ≤ 140737488351232) (hsy : SlB w vy y) (hly : y.length ≤ 140737488351232) :
    Calls Try.prog 12 #[.agg (cells8 key), .agg (cells8 nonce), .bool long, .int .u32 (u32 c), vx, vy] w fun e w' => e = .returned (.bool true) ∧ Fresh w w' := by
  obtain ⟨pax, cax, rfl⟩ := hsx.slice
  obtain ⟨nx, hnx⟩ : ∃ n, n = x.length := ⟨_, rfl⟩
  rw [← hnx] at hsx hlx ⊢
  have HSx := Lib.hid hsx
  have HEx := Lib.hid hnx
  clear hsx hnx
  obtain ⟨pay, cay, rfl⟩ := hsy.slice
  obtain ⟨ny, hny⟩ : ∃ n, n = y.length := ⟨_, rfl⟩
  rw [← hny] at hsy hly ⊢
  have HSy := Lib.hid hsy
  have HEy := Lib.hid hny
  clear hsy hny
  have HKL := Lib.hid hk
  have HNL := Lib.hid hnl
  have h1 := cells8_one key
  have h2 := cells8_one nonce
  clear hk hnl
  obtain ⟨m, hm⟩ : ∃ m, m = nx + ny := ⟨_, rfl⟩
  have hmi : (nx : Int) + (ny : Int) = (m : Int) := by omega
  have HM := Lib.hid hm
  clear hm
  go_enter Try.func12, Try.ntmps12
  go_wp2_with fail
  have HBK := Lib.hid (heap_alloc2_old w (.cells (cells8 key) 27) (.cells (cells8 nonce) 28))
  have HBN := Lib.hid (heap_alloc2_new w (.cells (cells8 key) 27) (.cells (cells8 nonce) 28))
  have HF2 : Hid (Fresh w ((w.alloc (.cells (cells8 key) 27)).alloc (.cells (cells8 nonce) 28))) := Lib.hid (((Keeps.refl _ w).alloc _).alloc _)
  generalize ((w.alloc (.cells (cells8 key) 27)).alloc (.cells (cells8 nonce) 28)) = w2 at HBK HBN HF2 ⊢
  have HA1_ : Hid (Fresh w2 w2) := Lib.hid (Keeps.refl _ _)
  refine (within2_c c m w2 (by have := HM.out; omega)).mono ?_
  rintro e w3 ⟨rfl, hw3⟩
  subst w3
  cases hwi : withinB c m with
  | false =>
    go_wp2_with fail
    go_ret
    exact ⟨rfl, HF2.out⟩
  | true =>
    have HWI := Lib.hid (within_true hwi)
    clear hwi
    have HXL : Hid (∀ z, (xs z (x ++ y)).length = m) := Lib.hid (fun z => by rw [xs_len, List.length_append, ← HEx.out, ← HEy.out]; exact HM.out.symm)
    have HBD : Hid (64 * c.toNat + (x.length + y.length) ≤ endK) := Lib.hid (by rw [← HEx.out, ← HEy.out, ← HM.out]; exact HWI.out.2)
    go_wp2_with fail
    refine wp_region_ord (fun w' => Fresh w2 w') [(0, true), (1, true), (2, true), (4, true), (6, true), (7, true), (8, true), (9, true), (3, false), (5, false), (10, false), (11, false), (12, true), (13, true), (15, true), (14, true), (16, true)] (by kernel_rfl) (by kernel_rfl) ((Keeps.refl _ w2).drew) ?_
    have HA2_ : Hid (Fresh w2 w2) := Lib.hid (Keeps.refl _ _)
    have HA3_ : Hid (Fresh w w2.drew) := Lib.hid (HF2.out.drew)
    have HA4_ : Hid (Fresh w2 w2.drew) := Lib.hid (HA1_.out.drew)
    have HA5_ : Hid (Fresh w2 w2.drew) := Lib.hid (HA2_.out.drew)
    refine ord_load (.agg (cells8 key)) rfl (by rfl) (fun w' hw' => load32 _ rfl rfl HKL.out HBK.out (HA1_.out.trans hw')) ?_
    refine ord_load (.agg (cells8 nonce)) rfl (by rfl) (fun w' hw' => load24 _ rfl rfl HNL.out HBN.out (HA1_.out.trans hw')) ?_
    iterate 6 (refine ord_quiet rfl (fun K hK => ?_); go_simp; refine hK _ ?_; clear hK K)
    refine ord_loud rfl (fun K hK => ?_)
    go_wp2_with fail
    refine (nonceOf_c nonce long _ HNL.out).mono ?_
    rintro e w6_ ⟨vN, rfl, hs, hf⟩
    obtain ⟨p7_, c8_, rfl⟩ := hs.slice
    have HN9_ := Lib.hid hs
    have HA10_ : Hid (Fresh w w6_) := Lib.hid (HA3_.out.trans hf)
    have HA11_ : Hid (Fresh w2 w6_) := Lib.hid (HA4_.out.trans hf)
    have HA12_ : Hid (Fresh w2 w6_) := Lib.hid (HA5_.out.trans hf)
    clear hs hf
    have HA13_ : Hid (Fresh w6_ w6_) := Lib.hid (Keeps.refl _ _)
    go_wp2_with fail
    refine hK _ _ HA12_.out ?_
    clear hK K
    refine ord_loud rfl (fun K hK => ?_)
    go_wp2_with fail
    refine (at_c (c) _).mono ?_
    rintro e w14_ ⟨rfl, hf⟩
    have HA15_ : Hid (Fresh w w14_) := Lib.hid (HA10_.out.trans hf)
    have HA16_ : Hid (Fresh w2 w14_) := Lib.hid (HA11_.out.trans hf)
    have HA17_ : Hid (Fresh w2 w14_) := Lib.hid (HA12_.out.trans hf)
    have HA18_ : Hid (Fresh w6_ w14_) := Lib.hid (HA13_.out.trans hf)
    clear hf
    try simp only [stV, atS]
    go_wp2_with fail
    refine hK _ _ HA17_.out ?_
    clear hK K
    refine ord_loud rfl (fun K hK => ?_)
    go_wp2_with fail
    generalize hw20_ : w14_.alloc _ = w19_
    have HA22_ : Hid (Fresh w w19_) := Lib.hid ((by rw [← hw20_]; exact HA15_.out.alloc _))
    have HA23_ : Hid (Fresh w2 w19_) := Lib.hid ((by rw [← hw20_]; exact HA16_.out.alloc _))
    have HA24_ : Hid (Fresh w2 w19_) := Lib.hid ((by rw [← hw20_]; exact HA17_.out.alloc _))
    have HA25_ : Hid (Fresh w6_ w19_) := Lib.hid ((by rw [← hw20_]; exact HA18_.out.alloc _))
    have HB21_ := Lib.hid hw20_
    clear hw20_
    refine hK _ _ HA24_.out ?_
    clear hK K
    refine ord_loud rfl (fun K hK => ?_)
    go_wp2_with fail
    refine (ran_lit (.slice p7_ (nonL nonce long).length c8_) _ key (nonL nonce long) (xs (fun i => (ckOf key (nonL nonce long)).ks (64 * c.toNat + i)) (x ++ y)) [(.slice none 0 0, atS (c)), (.slice pax nx cax, placeS (x)), (.slice pay ny cay, placeS (y))] _ HKL.out (HN9_.out.fresh HA25_.out) (nonL_len HNL.out long) (StepsL.lit (b := w14_.heap.size) [(.slice none 0 0, atS (c)), (.slice pax nx cax, placeS (x)), (.slice pay ny cay, placeS (y))] (by rw [← HB21_.out]; exact heap_alloc_new _ _) rfl (Nat.le_of_ble_eq_true rfl) ?_) (Nat.le_of_ble_eq_true rfl) ?_ (Ran.place2 _ c x y HBD.out) (by rw [HXL.out]; have := HWI.out.1; omega)).mono ?_
    · intro q hq; simp only [List.mem_cons, List.not_mem_nil, or_false] at hq; rcases hq with rfl | rfl | rfl
      · exact SlB.nil _
      · exact HSx.out.fresh HA22_.out
      · exact HSy.out.fresh HA22_.out
    · intro q hq; simp only [List.mem_cons, List.not_mem_nil, or_false] at hq; rcases hq with rfl | rfl | rfl
      · exact okAt _
      · exact okPlace (by rw [← HEx.out]; omega)
      · exact okPlace (by rw [← HEy.out]; omega)
    rintro e w26_ ⟨v27_, rfl, ho, hf⟩
    obtain ⟨p28_, c29_, hv⟩ := ho.slice
    rw [HXL.out] at hv
    subst hv
    have HO30_ := Lib.hid ho.sl
    have HA31_ : Hid (Fresh w w26_) := Lib.hid (HA22_.out.trans hf)
    have HA32_ : Hid (Fresh w2 w26_) := Lib.hid (HA23_.out.trans hf)
    have HA33_ : Hid (Fresh w2 w26_) := Lib.hid (HA24_.out.trans hf)
    have HA34_ : Hid (Fresh w6_ w26_) := Lib.hid (HA25_.out.trans hf)
    clear ho hf
    have HA35_ : Hid (Fresh w26_ w26_) := Lib.hid (Keeps.refl _ _)
    go_wp2_with fail
    refine hK _ _ HA33_.out ?_
    clear hK K
    iterate 5 (refine ord_quiet rfl (fun K hK => ?_); go_simp; refine hK _ ?_; clear hK K)
    refine ord_last ?_
    go_wp2_with fail
    refine wp_region_ord (fun w' => Fresh w26_ w') [(0, true), (1, true), (2, true), (4, true), (6, true), (8, true), (3, false), (5, false), (7, false), (9, false), (10, false), (11, false), (12, true), (13, true), (15, true), (14, true), (16, true)] (by kernel_rfl) (by kernel_rfl) ((Keeps.refl _ w26_).drew) ?_
    have HA36_ : Hid (Fresh w26_ w26_) := Lib.hid (Keeps.refl _ _)
    have HA37_ : Hid (Fresh w w26_.drew) := Lib.hid (HA31_.out.drew)
    have HA38_ : Hid (Fresh w2 w26_.drew) := Lib.hid (HA32_.out.drew)
    have HA39_ : Hid (Fresh w26_ w26_.drew) := Lib.hid (HA35_.out.drew)
    have HA40_ : Hid (Fresh w26_ w26_.drew) := Lib.hid (HA36_.out.drew)
    refine ord_load (.agg (cells8 key)) rfl (by rfl) (fun w' hw' => load32 _ rfl rfl HKL.out HBK.out (HA32_.out.trans hw')) ?_
    refine ord_load (.agg (cells8 nonce)) rfl (by rfl) (fun w' hw' => load24 _ rfl rfl HNL.out HBN.out (HA32_.out.trans hw')) ?_
    iterate 4 (refine ord_quiet rfl (fun K hK => ?_); go_simp; refine hK _ ?_; clear hK K)
    refine ord_loud rfl (fun K hK => ?_)
    go_wp2_with fail
    refine (nonceOf_c nonce long _ HNL.out).mono ?_
    rintro e w41_ ⟨vN, rfl, hs, hf⟩
    obtain ⟨p42_, c43_, rfl⟩ := hs.slice
    have HN44_ := Lib.hid hs
    have HA45_ : Hid (Fresh w w41_) := Lib.hid (HA37_.out.trans hf)
    have HA46_ : Hid (Fresh w2 w41_) := Lib.hid (HA38_.out.trans hf)
    have HA47_ : Hid (Fresh w26_ w41_) := Lib.hid (HA39_.out.trans hf)
    have HA48_ : Hid (Fresh w26_ w41_) := Lib.hid (HA40_.out.trans hf)
    clear hs hf
    have HA49_ : Hid (Fresh w41_ w41_) := Lib.hid (Keeps.refl _ _)
    go_wp2_with fail
    refine hK _ _ HA48_.out ?_
    clear hK K
    refine ord_loud rfl (fun K hK => ?_)
    go_wp2_with fail
    refine (at_c (c) _).mono ?_
    rintro e w50_ ⟨rfl, hf⟩
    have HA51_ : Hid (Fresh w w50_) := Lib.hid (HA45_.out.trans hf)
    have HA52_ : Hid (Fresh w2 w50_) := Lib.hid (HA46_.out.trans hf)
    have HA53_ : Hid (Fresh w26_ w50_) := Lib.hid (HA47_.out.trans hf)
    have HA54_ : Hid (Fresh w26_ w50_) := Lib.hid (HA48_.out.trans hf)
    have HA55_ : Hid (Fresh w41_ w50_) := Lib.hid (HA49_.out.trans hf)
    clear hf
    try simp only [stV, atS]
    go_wp2_with fail
    refine hK _ _ HA54_.out ?_
    clear hK K
    refine ord_loud rfl (fun K hK => ?_)
    go_wp2_with fail
    refine (into_c (.slice pax nx cax) (x) _ (HSx.out.fresh HA51_.out)).mono ?_
    rintro e w56_ ⟨rfl, hf⟩
    have HA57_ : Hid (Fresh w w56_) := Lib.hid (HA51_.out.trans hf)
    have HA58_ : Hid (Fresh w2 w56_) := Lib.hid (HA52_.out.trans hf)
    have HA59_ : Hid (Fresh w26_ w56_) := Lib.hid (HA53_.out.trans hf)
    have HA60_ : Hid (Fresh w26_ w56_) := Lib.hid (HA54_.out.trans hf)
    have HA61_ : Hid (Fresh w41_ w56_) := Lib.hid (HA55_.out.trans hf)
    clear hf
    try simp only [stV, intoS]
    go_wp2_with fail
    refine hK _ _ HA60_.out ?_
    clear hK K
    refine ord_loud rfl (fun K hK => ?_)
    go_wp2_with fail
    refine (into_c (.slice pay ny cay) (y) _ (HSy.out.fresh HA57_.out)).mono ?_
    rintro e w62_ ⟨rfl, hf⟩
    have HA63_ : Hid (Fresh w w62_) := Lib.hid (HA57_.out.trans hf)
    have HA64_ : Hid (Fresh w2 w62_) := Lib.hid (HA58_.out.trans hf)
    have HA65_ : Hid (Fresh w26_ w62_) := Lib.hid (HA59_.out.trans hf)
    have HA66_ : Hid (Fresh w26_ w62_) := Lib.hid (HA60_.out.trans hf)
    have HA67_ : Hid (Fresh w41_ w62_) := Lib.hid (HA61_.out.trans hf)
    clear hf
    try simp only [stV, intoS]
    go_wp2_with fail
    refine hK _ _ HA66_.out ?_
    clear hK K
    refine ord_loud rfl (fun K hK => ?_)
    go_wp2_with fail
    generalize hw69_ : w62_.alloc _ = w68_
    have HA71_ : Hid (Fresh w w68_) := Lib.hid ((by rw [← hw69_]; exact HA63_.out.alloc _))
    have HA72_ : Hid (Fresh w2 w68_) := Lib.hid ((by rw [← hw69_]; exact HA64_.out.alloc _))
    have HA73_ : Hid (Fresh w26_ w68_) := Lib.hid ((by rw [← hw69_]; exact HA65_.out.alloc _))
    have HA74_ : Hid (Fresh w26_ w68_) := Lib.hid ((by rw [← hw69_]; exact HA66_.out.alloc _))
    have HA75_ : Hid (Fresh w41_ w68_) := Lib.hid ((by rw [← hw69_]; exact HA67_.out.alloc _))
    have HB70_ := Lib.hid hw69_
    clear hw69_
    refine hK _ _ HA74_.out ?_
    clear hK K
    refine ord_loud rfl (fun K hK => ?_)
    go_wp2_with fail
    refine (ran_lit (.slice p42_ (nonL nonce long).length c43_) _ key (nonL nonce long) (xs (fun i => (ckOf key (nonL nonce long)).ks (64 * c.toNat + i)) (x ++ y)) [(.slice none 0 0, atS (c)), (.slice pax nx cax, intoS (x)), (.slice pay ny cay, intoS (y))] _ HKL.out (HN44_.out.fresh HA75_.out) (nonL_len HNL.out long) (StepsL.lit (b := w62_.heap.size) [(.slice none 0 0, atS (c)), (.slice pax nx cax, intoS (x)), (.slice pay ny cay, intoS (y))] (by rw [← HB70_.out]; exact heap_alloc_new _ _) rfl (Nat.le_of_ble_eq_true rfl) ?_) (Nat.le_of_ble_eq_true rfl) ?_ (Ran.into2 _ c x y HBD.out) (by rw [HXL.out]; have := HWI.out.1; omega)).mono ?_
    · intro q hq; simp only [List.mem_cons, List.not_mem_nil, or_false] at hq; rcases hq with rfl | rfl | rfl
      · exact SlB.nil _
      · exact HSx.out.fresh HA71_.out
      · exact HSy.out.fresh HA71_.out
    · intro q hq; simp only [List.mem_cons, List.not_mem_nil, or_false] at hq; rcases hq with rfl | rfl | rfl
      · exact okAt _
      · exact okInto (by rw [← HEx.out]; omega)
      · exact okInto (by rw [← HEy.out]; omega)
    rintro e w76_ ⟨v77_, rfl, ho, hf⟩
    obtain ⟨p78_, c79_, hv⟩ := ho.slice
    rw [HXL.out] at hv
    subst hv
    have HO80_ := Lib.hid ho.sl
    have HA81_ : Hid (Fresh w w76_) := Lib.hid (HA71_.out.trans hf)
    have HA82_ : Hid (Fresh w2 w76_) := Lib.hid (HA72_.out.trans hf)
    have HA83_ : Hid (Fresh w26_ w76_) := Lib.hid (HA73_.out.trans hf)
    have HA84_ : Hid (Fresh w26_ w76_) := Lib.hid (HA74_.out.trans hf)
    have HA85_ : Hid (Fresh w41_ w76_) := Lib.hid (HA75_.out.trans hf)
    clear ho hf
    have HA86_ : Hid (Fresh w76_ w76_) := Lib.hid (Keeps.refl _ _)
    go_wp2_with fail
    refine hK _ _ HA84_.out ?_
    clear hK K
    iterate 5 (refine ord_quiet rfl (fun K hK => ?_); go_simp; refine hK _ ?_; clear hK K)
    refine ord_last ?_
    have hr1 := run_strB _ _ _ (HO80_.out.fresh HA86_.out)
    have hr2 := run_strB _ _ _ (HO30_.out.fresh HA83_.out)
    go_wp2_with fail
    go_ret
    exact ⟨rfl, HA81_.out⟩
end Go.Proofs.Ytaapglpnofmmlaa
