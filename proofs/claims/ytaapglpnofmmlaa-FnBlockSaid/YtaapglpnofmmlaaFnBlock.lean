/-
  The walk of laws.FnBlock.
-/
import Derived.Test.YtaapglpnofmmlaaMakeN
import Derived.Test.YtaapglpnofmmlaaBlock
import Derived.Deep.QuietTactic
namespace Go.Proofs.Ytaapglpnofmmlaa
open Go Go.RowKit
set_option linter.unusedVariables false
attribute [local irreducible] Cha.iter Cha.rounds Cha.dbl Cha.qr ckOf run doA doN CK.ks withinB xs blkB
set_option maxRecDepth 100000 in
set_option maxHeartbeats 4000000 in
theorem fnBlock_c (key nonce : List UInt8) (c : UInt32) (w : World) (hk : key.length = 32) (hnl : nonce.length = 12) :
    Calls Try.prog 7 #[.agg (cells8 key), .agg (cells8 nonce), .int .u32 (u32 c)] w fun e w' => e = .returned (.bool true) ∧ Fresh w w' := by
  have HKL := Lib.hid hk
  have HNL := Lib.hid hnl
  have h1 := cells8_one key
  have h2 := cells8_one nonce
  clear hk hnl
  have hmk := make64
  go_enter Try.func7, Try.ntmps7
  go_wp2_with fail
  have HBK := Lib.hid (heap_alloc2_old w (.cells (cells8 key) 27) (.cells (cells8 nonce) 41))
  have HBN := Lib.hid (heap_alloc2_new w (.cells (cells8 key) 27) (.cells (cells8 nonce) 41))
  have HF2 : Hid (Fresh w ((w.alloc (.cells (cells8 key) 27)).alloc (.cells (cells8 nonce) 41))) := Lib.hid (((Keeps.refl _ w).alloc _).alloc _)
  generalize ((w.alloc (.cells (cells8 key) 27)).alloc (.cells (cells8 nonce) 41)) = w2 at HBK HBN HF2 ⊢
  have HA1_ : Hid (Fresh w2 w2) := Lib.hid (Keeps.refl _ _)
  refine wp_region_ord (fun w' => Fresh w2 w') [(0, true), (1, true), (2, true), (3, true), (4, false), (5, true), (6, false), (7, false), (8, true), (9, true), (11, true), (10, true), (12, true)] (by kernel_rfl) (by kernel_rfl) ((Keeps.refl _ w2).drew) ?_
  have HA2_ : Hid (Fresh w2 w2) := Lib.hid (Keeps.refl _ _)
  have HA3_ : Hid (Fresh w w2.drew) := Lib.hid (HF2.out.drew)
  have HA4_ : Hid (Fresh w2 w2.drew) := Lib.hid (HA1_.out.drew)
  have HA5_ : Hid (Fresh w2 w2.drew) := Lib.hid (HA2_.out.drew)
  iterate 4 (refine ord_quiet rfl (fun K hK => ?_); go_simp; refine hK _ ?_; clear hK K)
  refine ord_loud rfl (fun K hK => ?_)
  go_wp2_with fail
  generalize hw7_ : w2.alloc _ = w6_
  have HM8_ : Hid (SlB w6_.drew (.slice (some ⟨w2.heap.size, 0, none⟩) 64 64) (zerosN 64)) := Lib.hid (by rw [← hw7_]; exact makeN_sl 64 _ (by decide))
  have HA10_ : Hid (Fresh w w6_.drew) := Lib.hid ((by rw [← hw7_]; exact HA3_.out.alloc _))
  have HA11_ : Hid (Fresh w2 w6_.drew) := Lib.hid ((by rw [← hw7_]; exact HA4_.out.alloc _))
  have HA12_ : Hid (Fresh w2 w6_.drew) := Lib.hid ((by rw [← hw7_]; exact HA5_.out.alloc _))
  clear hw7_
  have HA13_ : Hid (Fresh w6_.drew w6_.drew) := Lib.hid (Keeps.refl _ _)
  refine hK _ _ HA12_.out ?_
  clear hK K
  iterate 1 (refine ord_quiet rfl (fun K hK => ?_); go_simp; refine hK _ ?_; clear hK K)
  refine ord_loud rfl (fun K hK => ?_)
  go_wp2_with fail
  generalize hw15_ : w6_.alloc _ = w14_
  have HA17_ : Hid (Fresh w w14_.drew) := Lib.hid ((by rw [← hw15_]; exact HA10_.out.alloc _))
  have HA18_ : Hid (Fresh w2 w14_.drew) := Lib.hid ((by rw [← hw15_]; exact HA11_.out.alloc _))
  have HA19_ : Hid (Fresh w2 w14_.drew) := Lib.hid ((by rw [← hw15_]; exact HA12_.out.alloc _))
  have HA20_ : Hid (Fresh w6_.drew w14_.drew) := Lib.hid ((by rw [← hw15_]; exact HA13_.out.alloc _))
  have HB16_ := Lib.hid hw15_
  clear hw15_
  refine hK _ _ HA19_.out ?_
  clear hK K
  refine ord_loud rfl (fun K hK => ?_)
  go_wp2_with fail
  refine (Run_good (.slice (some ⟨w.heap.size, 0, none⟩) 32 32) (.slice (some ⟨w.heap.size + 1, 0, none⟩) 12 12) _ key nonce [(.slice none 0 0, atS (c)), (.slice (some ⟨w2.heap.size, 0, none⟩) 64 64, intoS (zerosN 64))] _ (SlB.all32 (HA18_.out.at HBK.out) HKL.out (by decide)) (SlB.all32 (HA18_.out.at HBN.out) HNL.out (by decide)) HKL.out (Or.inl HNL.out) (StepsL.lit (b := w6_.heap.size) [(.slice none 0 0, atS (c)), (.slice (some ⟨w2.heap.size, 0, none⟩) 64 64, intoS (zerosN 64))] (by rw [← HB16_.out]; exact heap_alloc_new _ _) rfl (Nat.le_of_ble_eq_true rfl) ?_) (Nat.le_of_ble_eq_true rfl) ?_).mono ?_
  · intro q hq; simp only [List.mem_cons, List.not_mem_nil, or_false] at hq; rcases hq with rfl | rfl
    · exact SlB.nil _
    · exact HM8_.out.fresh HA20_.out
  · intro q hq; simp only [List.mem_cons, List.not_mem_nil, or_false] at hq; rcases hq with rfl | rfl
    · exact okAt _
    · exact okInto (by rw [zerosN_len]; decide)
  rintro e w21_ ⟨v, ps, rfl, ho, hp, hf⟩
  have HA22_ : Hid (Fresh w w21_) := Lib.hid (HA17_.out.trans hf)
  have HA23_ : Hid (Fresh w2 w21_) := Lib.hid (HA18_.out.trans hf)
  have HA24_ : Hid (Fresh w2 w21_) := Lib.hid (HA19_.out.trans hf)
  have HA25_ : Hid (Fresh w6_.drew w21_) := Lib.hid (HA20_.out.trans hf)
  have HA26_ : Hid (Fresh w21_ w21_) := Lib.hid (Keeps.refl _ _)
  have hp2 := hp.trans (ran_one (ckOf key nonce) c (zerosN 64) (by rw [zerosN_len]; have := c.toNat_lt; unfold endK; omega))
  rw [blk_xs key nonce c HNL.out] at hp2
  obtain ⟨gO, cO, vO, rfl, hcO, hce, hsO⟩ := ho.two hp2
  obtain ⟨pB, cB, rfl⟩ := hsO.slice
  rw [blkB_len] at hce hsO
  have HCE := Lib.hid hce
  have HSO := Lib.hid hsO
  clear ho hp hp2 hf hce hsO
  go_wp2_with fail
  refine hK _ _ HA24_.out ?_
  clear hK K
  iterate 5 (refine ord_quiet rfl (fun K hK => ?_); go_simp; refine hK _ ?_; clear hK K)
  refine ord_last ?_
  go_wp2_with fail
  refine wp_region_ord (fun w' => Fresh w21_ w') [(0, true), (1, true), (2, true), (3, true), (4, true), (5, true), (6, true), (7, true), (8, true), (9, true), (10, true), (11, true), (12, true), (13, true), (14, true), (15, false), (16, false), (17, true), (18, true), (19, true)] (by kernel_rfl) (by kernel_rfl) ((Keeps.refl _ w21_).drew) ?_
  have HA27_ : Hid (Fresh w21_ w21_) := Lib.hid (Keeps.refl _ _)
  have HA28_ : Hid (Fresh w w21_.drew) := Lib.hid (HA22_.out.drew)
  have HA29_ : Hid (Fresh w2 w21_.drew) := Lib.hid (HA23_.out.drew)
  have HA30_ : Hid (Fresh w6_.drew w21_.drew) := Lib.hid (HA25_.out.drew)
  have HA31_ : Hid (Fresh w21_ w21_.drew) := Lib.hid (HA26_.out.drew)
  have HA32_ : Hid (Fresh w21_ w21_.drew) := Lib.hid (HA27_.out.drew)
  iterate 10 (refine ord_quiet rfl (fun K hK => ?_); go_simp; refine hK _ ?_; clear hK K)
  refine ord_load (.slice pB 64 cB) rfl (by rfl) (fun w' hw' => ?_) ?_
  · have hc := Keeps.cellAt hw' (HA26_.out.cellAt HCE.out (fun x => x)) (fun x => x)
    go_simp
  refine ord_load (.string (strB (blkB ((ck12 key nonce).st c)))) rfl (by rfl) (fun w' hw' => ?_) ?_
  · have hr := run_strB w' _ _ (HSO.out.fresh (HA26_.out.trans hw'))
    go_simp
  iterate 3 (refine ord_quiet rfl (fun K hK => ?_); go_simp; refine hK _ ?_; clear hK K)
  refine ord_loud rfl (fun K hK => ?_)
  go_wp2_with fail
  refine (block_c w.heap.size 0 32 _ key nonce c _ HKL.out HNL.out (fun i hi => by rw [cell_block (HA29_.out.at HBK.out), Nat.zero_add]; exact cells8_get hi) (SlB.all32 (HA29_.out.at HBN.out) HNL.out (by decide))).mono ?_
  rintro e w33_ ⟨vF, rfl, ho, hf⟩
  obtain ⟨pF, cF, rfl⟩ := ho.slice
  have hrF := run_strB _ _ _ ho.sl
  rw [blkB_len] at hrF ⊢
  have HA34_ : Hid (Fresh w w33_) := Lib.hid (HA28_.out.trans hf)
  have HA35_ : Hid (Fresh w2 w33_) := Lib.hid (HA29_.out.trans hf)
  have HA36_ : Hid (Fresh w6_.drew w33_) := Lib.hid (HA30_.out.trans hf)
  have HA37_ : Hid (Fresh w21_ w33_) := Lib.hid (HA31_.out.trans hf)
  have HA38_ : Hid (Fresh w21_ w33_) := Lib.hid (HA32_.out.trans hf)
  clear hf ho
  go_wp2_with fail
  refine hK _ _ HA38_.out ?_
  clear hK K
  refine ord_loud rfl (fun K hK => ?_)
  go_wp2_with fail
  refine hK _ _ HA38_.out ?_
  clear hK K
  iterate 3 (refine ord_quiet rfl (fun K hK => ?_); go_simp; refine hK _ ?_; clear hK K)
  refine ord_last ?_
  go_wp2_with fail
  go_ret
  exact ⟨rfl, HA34_.out⟩
end Go.Proofs.Ytaapglpnofmmlaa
