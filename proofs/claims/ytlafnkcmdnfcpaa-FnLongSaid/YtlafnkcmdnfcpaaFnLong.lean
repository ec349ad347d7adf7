/-
  The walk of laws.FnLong.
-/
import Derived.Test.YtlafnkcmdnfcpaaLong9
import Derived.Test.YtlafnkcmdnfcpaaDerive2
import Derived.Test.YtlafnkcmdnfcpaaSlPart
import Derived.Test.YtlafnkcmdnfcpaaCopy2
import Derived.Deep.QuietTactic
namespace Go.Proofs.Ytlafnkcmdnfcpaa
open Go Go.RowKit
set_option linter.unusedVariables false
attribute [local irreducible] Cha.iter Cha.rounds Cha.dbl Cha.qr ckOf run doA doN CK.ks withinB xs
set_option maxRecDepth 100000 in
set_option maxHeartbeats 4000000 in
theorem fnLong_c (key nonce s0 : List UInt8) (c : UInt32) (vs : Value) (w : World) (hk : key.length = 32) (hnl : nonce.length = 24) (hs : SlB w vs s0) (hl : s0.length ≤ 140737488351232) :
    Calls Try.prog 12 #[.agg (cells8 key), .agg (cells8 nonce), .int .u32 (u32 c), vs] w fun e w' => e = .returned (.bool true) ∧ Fresh w w' := by
  obtain ⟨pa, ca, rfl⟩ := hs.slice
  obtain ⟨n, hn⟩ : ∃ n, n = s0.length := ⟨_, rfl⟩
  rw [← hn] at hs hl ⊢
  have HS := Lib.hid hs
  have HE := Lib.hid hn
  clear hs hn
  have HKL := Lib.hid hk
  have HNL := Lib.hid hnl
  have h1 := cells8_one key
  have h2 := cells8_one nonce
  clear hk hnl
  go_enter Try.func12, Try.ntmps12
  refine wp_seq_hold (fun K0 HK0 => ?_)
  go_wp2_with fail
  have HBK := Lib.hid (heap_alloc2_old w (.cells (cells8 key) 22) (.cells (cells8 nonce) 39))
  have HBN := Lib.hid (heap_alloc2_new w (.cells (cells8 key) 22) (.cells (cells8 nonce) 39))
  have HF2 : Hid (Fresh w ((w.alloc (.cells (cells8 key) 22)).alloc (.cells (cells8 nonce) 39))) := Lib.hid (((Keeps.refl _ w).alloc _).alloc _)
  generalize ((w.alloc (.cells (cells8 key) 22)).alloc (.cells (cells8 nonce) 39)) = w2 at HBK HBN HF2 ⊢
  refine HK0.out _ _ ?_
  clear HK0
  refine wp_seq_hold (fun K1 HK1 => ?_)
  go_wp2_with fail
  have HA1_ : Hid (Fresh w2 w2) := Lib.hid (Keeps.refl _ _)
  refine (within2_c c n w2 (by omega)).mono ?_
  rintro e w3 ⟨rfl, hw3⟩
  subst w3
  cases hwi : withinB c n with
  | false =>
    go_wp2_with fail
    go_ret
    exact ⟨rfl, HF2.out⟩
  | true =>
    have HWI := Lib.hid (within_true hwi)
    clear hwi
    have HXL : Hid (∀ z, (xs z s0).length = n) := Lib.hid (fun z => by rw [xs_len]; exact HE.out.symm)
    go_wp2_with fail
    refine HK1.out _ _ ?_
    clear HK1
    refine wp_seq_hold (fun K3 HK3 => ?_)
    go_wp2_with fail
    have HHL : Hid ((hashL key (nonce.take 16)).length = 32) := Lib.hid (hashL_len _ _)
    have HTK : Hid ((nonce.take 16).length = 16) := Lib.hid (by rw [List.length_take, HNL.out]; rfl)
    refine wp_region_ord (fun w' => Fresh w2 w') [(0, true), (1, true), (2, false), (3, true), (4, true), (6, true), (5, true), (7, true)] (by kernel_rfl) (by kernel_rfl) ((Keeps.refl _ w2).drew) ?_
    have HA2_ : Hid (Fresh w2 w2) := Lib.hid (Keeps.refl _ _)
    have HA3_ : Hid (Fresh w w2.drew) := Lib.hid (HF2.out.drew)
    have HA4_ : Hid (Fresh w2 w2.drew) := Lib.hid (HA1_.out.drew)
    have HA5_ : Hid (Fresh w2 w2.drew) := Lib.hid (HA2_.out.drew)
    iterate 2 (refine ord_quiet rfl (fun K hK => ?_); go_simp; refine hK _ ?_; clear hK K)
    refine ord_loud rfl (fun K hK => ?_)
    go_wp2_with fail
    refine (derive_good (.slice (some ⟨w.heap.size, 0, none⟩) 32 32) (.slice (some ⟨w.heap.size + 1, 0, none⟩) 16 24) key (nonce.take 16) _ (SlB.all32 (HA4_.out.at HBK.out) HKL.out (by decide)) (by have := SlB.pre (k := 16) (HA4_.out.at HBN.out) (by rw [HNL.out]; decide) (by rw [HNL.out]; decide); rwa [HNL.out] at this) HKL.out HTK.out).mono ?_
    rintro e w6_ ⟨vH, rfl, ho, hf⟩
    obtain ⟨pH, cH, hv⟩ := ho.slice
    rw [HHL.out] at hv
    subst hv
    have HOH := Lib.hid ho
    have HA7_ : Hid (Fresh w w6_) := Lib.hid (HA3_.out.trans hf)
    have HA8_ : Hid (Fresh w2 w6_) := Lib.hid (HA4_.out.trans hf)
    have HA9_ : Hid (Fresh w2 w6_) := Lib.hid (HA5_.out.trans hf)
    clear hf ho
    have HA10_ : Hid (Fresh w6_ w6_) := Lib.hid (Keeps.refl _ _)
    go_wp2_with fail
    refine hK _ _ HA9_.out ?_
    clear hK K
    iterate 5 (refine ord_quiet rfl (fun K hK => ?_); go_simp; refine hK _ ?_; clear hK K)
    refine ord_last ?_
    go_wp2_with fail
    refine HK3.out _ _ ?_
    clear HK3
    refine wp_seq_hold (fun K4 HK4 => ?_)
    go_wp2_with fail
    refine HK4.out _ _ ?_
    clear HK4
    refine wp_seq_hold (fun K6 HK6 => ?_)
    go_wp2_with (refine wpList_store_row rfl 22 (.tmp 11) (.tmp 34) rfl w6_.heap.size (vals8 (List.replicate 32 0)).toArray rfl rfl 22 _ (heap_alloc_new w6_ _) info32C rfl (cells8_one _) ?_; (try simp only [Act.put]); generalize hwS : World.setRow _ _ _ = wS; have HBS : Hid (wS.heap[w6_.heap.size]? = some (.cells (vals8 (List.replicate 32 0)).toArray 22 (0, 0))) := Lib.hid (by rw [← hwS]; exact row_heap (heap_alloc_new w6_ _)); have HFS : Hid (Fresh w6_ wS) := Lib.hid (by rw [← hwS]; exact ((Keeps.refl _ w6_).alloc _).setRow (Or.inr (Nat.le_refl _)) _); clear hwS)
    refine HK6.out _ _ ?_
    clear HK6
    refine wp_seq_hold (fun K7 HK7 => ?_)
    go_wp2_with (refine wpList_copyB rfl (.tmp 35) (.tmp 36) 24 24 rfl 5 (by kernel_rfl) (by kernel_rfl) w6_.heap.size 0 32 32 _ (hashL key (nonce.take 16)) rfl rfl (HOH.out.sl.fresh HFS.out) (vals8 (List.replicate 32 0)) 22 HBS.out (by rw [HHL.out]; decide) ?_; intro w5 HG HK5)
    refine HK7.out _ _ ?_
    clear HK7
    have HBO : Hid (w5.heap[w6_.heap.size]? = some (.cells (cells8 (hashL key (nonce.take 16))) 22 (0, 0))) := Lib.hid (by
      have h := HG.out
      rw [List.take_of_length_le (by rw [HHL.out]; exact Nat.le_refl _)] at h
      rw [h]
      unfold splice
      rw [List.take_zero, List.nil_append, List.drop_eq_nil_of_le (by rw [vals8_len, vals8_len, HHL.out]; decide), List.append_nil]
      rfl)
    have hszHA11_ := HA7_.out.size
    have HA11_ : Hid (Fresh w w5) := Lib.hid (Fresh.then (HA7_.out.trans HFS.out) HK5.out (fun q hq e => by omega))
    have hszHA12_ := HA8_.out.size
    have HA12_ : Hid (Fresh w2 w5) := Lib.hid (Fresh.then (HA8_.out.trans HFS.out) HK5.out (fun q hq e => by omega))
    obtain ⟨gO, hgO⟩ : ∃ g, g = w6_.heap.size := ⟨_, rfl⟩
    rw [← hgO] at HBO ⊢
    clear HG HK5 HFS HBS HOH hgO
    have HNS : Hid (SlB w5 (.slice (some ⟨w.heap.size + 1, 0, none⟩) 24 24) nonce) := Lib.hid (SlB.all32 (HA12_.out.at HBN.out) HNL.out (by decide))
    have HA13_ : Hid (Fresh w5 w5) := Lib.hid (Keeps.refl _ _)
    have HA14_ : Hid (Fresh w5 w5) := Lib.hid (Keeps.refl _ _)
    refine wp_seq_hold (fun K8 HK8 => ?_)
    go_wp2_with fail
    refine wp_region_ord (fun w' => Fresh w5 w') [(0, true), (1, true), (2, true), (4, true), (3, false), (5, false), (6, false), (7, false), (8, true), (9, true), (11, true), (10, true), (12, true)] (by kernel_rfl) (by kernel_rfl) ((Keeps.refl _ w5).drew) ?_
    have HA15_ : Hid (Fresh w5 w5) := Lib.hid (Keeps.refl _ _)
    have HA16_ : Hid (Fresh w w5.drew) := Lib.hid (HA11_.out.drew)
    have HA17_ : Hid (Fresh w2 w5.drew) := Lib.hid (HA12_.out.drew)
    have HA18_ : Hid (Fresh w5 w5.drew) := Lib.hid (HA13_.out.drew)
    have HA19_ : Hid (Fresh w5 w5.drew) := Lib.hid (HA14_.out.drew)
    have HA20_ : Hid (Fresh w5 w5.drew) := Lib.hid (HA15_.out.drew)
    refine ord_load (.agg (cells8 key)) rfl (by rfl) (fun w' hw' => load32 _ rfl rfl HKL.out HBK.out (HA12_.out.trans hw')) ?_
    iterate 3 (refine ord_quiet rfl (fun K hK => ?_); go_simp; refine hK _ ?_; clear hK K)
    refine ord_loud rfl (fun K hK => ?_)
    go_wp2_with fail
    refine (at_c (c) _).mono ?_
    rintro e w21_ ⟨rfl, hf⟩
    have HA22_ : Hid (Fresh w w21_) := Lib.hid (HA16_.out.trans hf)
    have HA23_ : Hid (Fresh w2 w21_) := Lib.hid (HA17_.out.trans hf)
    have HA24_ : Hid (Fresh w5 w21_) := Lib.hid (HA18_.out.trans hf)
    have HA25_ : Hid (Fresh w5 w21_) := Lib.hid (HA19_.out.trans hf)
    have HA26_ : Hid (Fresh w5 w21_) := Lib.hid (HA20_.out.trans hf)
    clear hf
    try simp only [stV, atS]
    go_wp2_with fail
    refine hK _ _ HA26_.out ?_
    clear hK K
    refine ord_loud rfl (fun K hK => ?_)
    go_wp2_with fail
    refine (into_c (.slice pa n ca) (s0) _ (HS.out.fresh HA22_.out)).mono ?_
    rintro e w27_ ⟨rfl, hf⟩
    have HA28_ : Hid (Fresh w w27_) := Lib.hid (HA22_.out.trans hf)
    have HA29_ : Hid (Fresh w2 w27_) := Lib.hid (HA23_.out.trans hf)
    have HA30_ : Hid (Fresh w5 w27_) := Lib.hid (HA24_.out.trans hf)
    have HA31_ : Hid (Fresh w5 w27_) := Lib.hid (HA25_.out.trans hf)
    have HA32_ : Hid (Fresh w5 w27_) := Lib.hid (HA26_.out.trans hf)
    clear hf
    try simp only [stV, intoS]
    go_wp2_with fail
    refine hK _ _ HA32_.out ?_
    clear hK K
    refine ord_loud rfl (fun K hK => ?_)
    go_wp2_with fail
    generalize hw34_ : w27_.alloc _ = w33_
    have HA36_ : Hid (Fresh w w33_) := Lib.hid ((by rw [← hw34_]; exact HA28_.out.alloc _))
    have HA37_ : Hid (Fresh w2 w33_) := Lib.hid ((by rw [← hw34_]; exact HA29_.out.alloc _))
    have HA38_ : Hid (Fresh w5 w33_) := Lib.hid ((by rw [← hw34_]; exact HA30_.out.alloc _))
    have HA39_ : Hid (Fresh w5 w33_) := Lib.hid ((by rw [← hw34_]; exact HA31_.out.alloc _))
    have HA40_ : Hid (Fresh w5 w33_) := Lib.hid ((by rw [← hw34_]; exact HA32_.out.alloc _))
    have HB35_ := Lib.hid hw34_
    clear hw34_
    refine hK _ _ HA40_.out ?_
    clear hK K
    refine ord_loud rfl (fun K hK => ?_)
    go_wp2_with fail
    refine (ran_lit (.slice (some ⟨w.heap.size + 1, 0, none⟩) 24 24) _ key nonce (xs (fun i => (ckOf key nonce).ks (64 * c.toNat + i)) s0) [(.slice none 0 0, atS (c)), (.slice pa n ca, intoS (s0))] _ HKL.out (HNS.out.fresh HA38_.out) (Or.inr HNL.out) (StepsL.lit (b := w27_.heap.size) [(.slice none 0 0, atS (c)), (.slice pa n ca, intoS (s0))] (by rw [← HB35_.out]; exact heap_alloc_new _ _) rfl (Nat.le_of_ble_eq_true rfl) ?_) (Nat.le_of_ble_eq_true rfl) ?_ (Ran.one _ c s0 (by rw [← HE.out]; exact HWI.out.2)) (by rw [HXL.out]; have := HWI.out.1; omega)).mono ?_
    · intro q hq; simp only [List.mem_cons, List.not_mem_nil, or_false] at hq; rcases hq with rfl | rfl
      · exact SlB.nil _
      · exact HS.out.fresh HA36_.out
    · intro q hq; simp only [List.mem_cons, List.not_mem_nil, or_false] at hq; rcases hq with rfl | rfl
      · exact okAt _
      · exact okInto (by rw [← HE.out]; have := HWI.out.1; omega)
    rintro e w41_ ⟨v42_, rfl, ho, hf⟩
    obtain ⟨p43_, c44_, hv⟩ := ho.slice
    rw [HXL.out] at hv
    subst hv
    have HO45_ := Lib.hid ho.sl
    have HA46_ : Hid (Fresh w w41_) := Lib.hid (HA36_.out.trans hf)
    have HA47_ : Hid (Fresh w2 w41_) := Lib.hid (HA37_.out.trans hf)
    have HA48_ : Hid (Fresh w5 w41_) := Lib.hid (HA38_.out.trans hf)
    have HA49_ : Hid (Fresh w5 w41_) := Lib.hid (HA39_.out.trans hf)
    have HA50_ : Hid (Fresh w5 w41_) := Lib.hid (HA40_.out.trans hf)
    clear ho hf
    have HA51_ : Hid (Fresh w41_ w41_) := Lib.hid (Keeps.refl _ _)
    go_wp2_with fail
    refine hK _ _ HA50_.out ?_
    clear hK K
    iterate 5 (refine ord_quiet rfl (fun K hK => ?_); go_simp; refine hK _ ?_; clear hK K)
    refine ord_last ?_
    go_wp2_with fail
    refine HK8.out _ _ ?_
    refine lg9_c _ (w.heap.size + 1) gO n _ _ _ _ (hashL key (nonce.take 16)) nonce s0 (xs (fun i => (ckOf key nonce).ks (64 * c.toNat + i)) s0) c _ _ _ _ _ _ _ _ _ _ _ _ _ _ _ _ _ _ _ _ _ _ _ _ _ _ _ _ _ _ _ _ _ _ _ _ _ _ _ _ _ _ _ _ _ _ _ _ _ _ _ _ _ _ _ _ _ _ _ _ _ _ _ _ _ _ _ _ _ _ _ _ _ _ _ HHL.out HNL.out (HA49_.out.at HBO.out) (HA47_.out.at HBN.out) (HS.out.fresh HA46_.out) HE.out HWI.out (HO45_.out.fresh HA51_.out) ?_ ?_
    · rw [ckOf_24 HNL.out, ckOf_12 (by rw [List.length_append, List.length_drop, HNL.out]; rfl)]
    · intro w' hf
      exact ⟨rfl, HA46_.out.trans hf⟩
end Go.Proofs.Ytlafnkcmdnfcpaa