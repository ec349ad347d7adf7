/-
  The walk of laws.FnLong: its last script, on every way.
-/
import Derived.Test.YtlafnkcmdnfcpaaLawR
import Derived.Test.YtlafnkcmdnfcpaaHeld
import Derived.Test.YtlafnkcmdnfcpaaAppF
import Derived.Test.YtlafnkcmdnfcpaaSlPart
import Derived.Deep.QuietTactic
namespace Go.Proofs.Ytlafnkcmdnfcpaa
open Go Go.RowKit
set_option linter.unusedVariables false
attribute [local irreducible] Cha.iter Cha.rounds Cha.dbl Cha.qr ckOf run doA doN CK.ks withinB xs
noncomputable def lgBody : Code := Try.f12.body.getD .skip
noncomputable def lg9 : Code := rgt (rgt (rgt (rgt (rgt (rgt (rgt lgBody))))))
theorem make4 (w : World) : (Instr.makeSlice 24 (.int .i64 4) (.int .i64 4)).run Try.prog w = .ok (.slice (some ⟨w.heap.size, 0, none⟩) 4 4) (w.alloc (.cells (cells8 [0, 0, 0, 0]) 5)) := by kernel_rfl
theorem own4 (w : World) (base : Nat) (hb : base ≤ w.heap.size) : OwnB 5 (w.alloc (.cells (cells8 [0, 0, 0, 0]) 5)) base (.slice (some ⟨w.heap.size, 0, none⟩) 4 4) [0, 0, 0, 0] :=
  ⟨rfl, Or.inr ⟨w.heap.size, 4, _, rfl, hb, heap_alloc_new w _, Nat.le_refl _, by decide, rfl, rfl⟩⟩
set_option maxRecDepth 100000 in
set_option maxHeartbeats 4000000 in
theorem lg9_c (R : Ending → World → Prop) (bn bo n ca cA : Nat) (pa pA : Option Addr) (other nonce s0 A : List UInt8) (c : UInt32) (r0 r1 r4 r6 r7 r8 r9 r10 r14 r15 r16 r17 r18 r19 r20 r21 r22 r23 r24 r25 r26 r27 r28 r29 r30 r31 r32 r33 r34 r35 r36 r37 r38 r39 r40 r41 r42 r43 r44 r45 r46 r47 r48 r49 r50 r51 r52 r53 r54 r55 r56 r57 r58 r59 r60 r61 r62 r63 r64 r65 r66 r67 r68 r69 r70 r71 r72 r73 r74 r75 r76 r77 r78 r79 : Value) (w : World) (hk : other.length = 32) (hnl : nonce.length = 24)
    (hbo : w.heap[bo]? = some (.cells (cells8 other) 22 (0, 0))) (hbn : w.heap[bn]? = some (.cells (cells8 nonce) 39 (0, 0)))
    (hs : SlB w (.slice pa n ca) s0) (he : n = s0.length) (hin : n ≤ 1048576 ∧ 64 * c.toNat + n ≤ endK) (hA : SlB w (.slice pA n cA) A)
    (hAe : A = xs (fun i => (ckOf other ([0, 0, 0, 0] ++ nonce.drop 16)).ks (64 * c.toNat + i)) s0)
    (h : ∀ w', Fresh w w' → R (.returned (.bool true)) w') : Code.wp Try.prog lg9 (bodyPost Try.prog Try.f12 R) ⟨#[r0, r1, .int .u32 (u32 c), .slice pa n ca, r4, .pointer (some ⟨bn, 0, none⟩), r6, r7, r8, r9, r10, .pointer (some ⟨bo, 0, none⟩), .slice pA n cA, .bool true, r14, r15, r16, r17, r18, r19, r20, r21, r22, r23, r24, r25, r26, r27, r28, r29, r30, r31, r32, r33, r34, r35, r36, r37, r38, r39, r40, r41, r42, r43, r44, r45, r46, r47, r48, r49, r50, r51, r52, r53, r54, r55, r56, r57, r58, r59, r60, r61, r62, r63, r64, r65, r66, r67, r68, r69, r70, r71, r72, r73, r74, r75, r76, r77, r78, r79], []⟩ w := by
  conv => arg 2; whnf
  dsimp only
  have hmk := make4
  have HKL := Lib.hid hk
  have HNL := Lib.hid hnl
  have h1 := cells8_one other
  have h2 := cells8_one nonce
  have HBO := Lib.hid hbo
  have HBN := Lib.hid hbn
  have HS := Lib.hid hs
  have HE := Lib.hid he
  have HWI := Lib.hid hin
  have HA0 := Lib.hid hA
  have HAE := Lib.hid hAe
  have HH := Lib.hid h
  have HXL : Hid (∀ z, (xs z s0).length = n) := Lib.hid (fun z => by rw [xs_len]; exact he.symm)
  have HDL : Hid ((nonce.drop 16).length = 8) := Lib.hid (by rw [List.length_drop, hnl])
  have HN12 : Hid (([0, 0, 0, 0] ++ nonce.drop 16).length = 12) := Lib.hid (by rw [List.length_append, List.length_drop, hnl]; rfl)
  have HSD := Lib.hid (SlB.at32 (k := 16) hbn (by rw [hnl]; decide) (by rw [hnl]; decide))
  rw [hnl] at HSD
  clear hk hnl hbo hbn hs he hin hA hAe h
  have HF0 : Hid (Fresh w w) := Lib.hid (Keeps.refl _ w)
  apply wp_seq
  refine wp_region_wa (fun w' => Fresh w w') 15 rfl (by kernel_rfl) ?_
  have HA1_ : Hid (Fresh w w) := Lib.hid (Keeps.refl _ _)
  have HA2_ : Hid (Fresh w w.drew) := Lib.hid (HF0.out.drew)
  have HA3_ : Hid (Fresh w w.drew) := Lib.hid (HF0.out.drew)
  have HA4_ : Hid (Fresh w w.drew) := Lib.hid (HA1_.out.drew)
  refine wa_load 0 (.agg (cells8 other)) (by kernel_rfl) rfl HA4_.out (by rfl) (fun w' hw' => load32 _ rfl rfl HKL.out HBO.out (HF0.out.trans hw')) ?_
  refine wa_quiet 2 (by kernel_rfl) rfl HA4_.out (fun K hK => ?_); go_simp; refine hK _ ?_; clear hK K
  refine wa_quiet 4 (by kernel_rfl) rfl HA4_.out (fun K hK => ?_); go_simp; refine hK _ ?_; clear hK K
  refine wa_quiet 6 (by kernel_rfl) rfl HA4_.out (fun K hK => ?_); go_simp; refine hK _ ?_; clear hK K
  refine wa_all [1] (by kernel_rfl) (by decide) (fun i hi => ?_)
  simp only [List.mem_cons, List.not_mem_nil, or_false] at hi
  subst hi
  refine wa_loud rfl (fun K hK => ?_)
  go_wp2_with fail
  generalize hw6_ : w.alloc _ = w5_
  have hszm0 : w.heap.size ≤ w.heap.size := HA2_.out.size
  have HOM : Hid (OwnB 5 w5_.drew w.heap.size (.slice (some ⟨w.heap.size, 0, none⟩) 4 4) [0, 0, 0, 0]) := Lib.hid (by rw [← hw6_]; exact own4 w _ hszm0)
  have HA7_ : Hid (Fresh w w5_.drew) := Lib.hid ((by rw [← hw6_]; exact (HA2_.out.alloc _)))
  have HA8_ : Hid (Fresh w w5_.drew) := Lib.hid ((by rw [← hw6_]; exact (HA3_.out.alloc _)))
  have HA9_ : Hid (Fresh w w5_.drew) := Lib.hid ((by rw [← hw6_]; exact (HA4_.out.alloc _)))
  have HA10_ : Hid (Fresh w5_.drew w5_.drew) := Lib.hid (Keeps.refl _ _)
  clear hw6_
  refine hK _ _ HA9_.out ?_
  clear hK K
  refine wa_all [3] (by kernel_rfl) (by decide) (fun i hi => ?_)
  simp only [List.mem_cons, List.not_mem_nil, or_false] at hi
  subst hi
  refine wa_loud rfl (fun K hK => ?_)
  refine wpList_appF rfl (.tmp 51) (.tmp 52) rfl w.heap.size _ _ _ [0, 0, 0, 0] (nonce.drop 16) rfl rfl (HOM.out.kept HA10_.out (fun _ _ x => x)) (HSD.out.fresh HA7_.out) (by rw [HDL.out]; decide) HA7_.out.size ?_
  intro v9 w11_ HA1 hf
  have HA12_ : Hid (Fresh w w11_) := Lib.hid (HA7_.out.trans hf)
  have HA13_ : Hid (Fresh w w11_) := Lib.hid (HA8_.out.trans hf)
  have HA14_ : Hid (Fresh w w11_) := Lib.hid (HA9_.out.trans hf)
  have HA15_ : Hid (Fresh w5_.drew w11_) := Lib.hid (HA10_.out.trans hf)
  obtain ⟨pv, cv, hv⟩ := HA1.out.slice
  rw [HN12.out] at hv
  subst hv
  have HS9 := Lib.hid HA1.out.sl
  clear hf
  refine wpList_nil (hK _ _ HA14_.out ?_)
  clear hK K
  have HA16_ : Hid (Fresh w11_ w11_) := Lib.hid (Keeps.refl _ _)
  refine wa_all [5] (by kernel_rfl) (by decide) (fun i hi => ?_)
  simp only [List.mem_cons, List.not_mem_nil, or_false] at hi
  subst hi
  refine wa_loud rfl (fun K hK => ?_)
  go_wp2_with fail
  refine (at_c (c) _).mono ?_
  rintro e w17_ ⟨rfl, hf⟩
  have HA18_ : Hid (Fresh w w17_) := Lib.hid (HA12_.out.trans hf)
  have HA19_ : Hid (Fresh w w17_) := Lib.hid (HA13_.out.trans hf)
  have HA20_ : Hid (Fresh w w17_) := Lib.hid (HA14_.out.trans hf)
  have HA21_ : Hid (Fresh w5_.drew w17_) := Lib.hid (HA15_.out.trans hf)
  have HA22_ : Hid (Fresh w11_ w17_) := Lib.hid (HA16_.out.trans hf)
  clear hf
  try simp only [stV, atS]
  go_wp2_with fail
  refine hK _ _ HA20_.out ?_
  clear hK K
  refine wa_all [7] (by kernel_rfl) (by decide) (fun i hi => ?_)
  simp only [List.mem_cons, List.not_mem_nil, or_false] at hi
  subst hi
  refine wa_loud rfl (fun K hK => ?_)
  go_wp2_with fail
  refine (into_c (.slice pa n ca) (s0) _ (HS.out.fresh HA18_.out)).mono ?_
  rintro e w23_ ⟨rfl, hf⟩
  have HA24_ : Hid (Fresh w w23_) := Lib.hid (HA18_.out.trans hf)
  have HA25_ : Hid (Fresh w w23_) := Lib.hid (HA19_.out.trans hf)
  have HA26_ : Hid (Fresh w w23_) := Lib.hid (HA20_.out.trans hf)
  have HA27_ : Hid (Fresh w5_.drew w23_) := Lib.hid (HA21_.out.trans hf)
  have HA28_ : Hid (Fresh w11_ w23_) := Lib.hid (HA22_.out.trans hf)
  clear hf
  try simp only [stV, intoS]
  go_wp2_with fail
  refine hK _ _ HA26_.out ?_
  clear hK K
  refine wa_all [8] (by kernel_rfl) (by decide) (fun i hi => ?_)
  simp only [List.mem_cons, List.not_mem_nil, or_false] at hi
  subst hi
  refine wa_loud rfl (fun K hK => ?_)
  go_wp2_with fail
  generalize hw30_ : w23_.alloc _ = w29_
  have HA32_ : Hid (Fresh w w29_) := Lib.hid ((by rw [← hw30_]; exact HA24_.out.alloc _))
  have HA33_ : Hid (Fresh w w29_) := Lib.hid ((by rw [← hw30_]; exact HA25_.out.alloc _))
  have HA34_ : Hid (Fresh w w29_) := Lib.hid ((by rw [← hw30_]; exact HA26_.out.alloc _))
  have HA35_ : Hid (Fresh w5_.drew w29_) := Lib.hid ((by rw [← hw30_]; exact HA27_.out.alloc _))
  have HA36_ : Hid (Fresh w11_ w29_) := Lib.hid ((by rw [← hw30_]; exact HA28_.out.alloc _))
  have HB31_ := Lib.hid hw30_
  clear hw30_
  refine hK _ _ HA34_.out ?_
  clear hK K
  refine wa_all [9] (by kernel_rfl) (by decide) (fun i hi => ?_)
  simp only [List.mem_cons, List.not_mem_nil, or_false] at hi
  subst hi
  refine wa_loud rfl (fun K hK => ?_)
  go_wp2_with fail
  refine (ran_lit (.slice pv 12 cv) _ other ([0, 0, 0, 0] ++ nonce.drop 16) (xs (fun i => (ckOf other ([0, 0, 0, 0] ++ nonce.drop 16)).ks (64 * c.toNat + i)) s0) [(.slice none 0 0, atS (c)), (.slice pa n ca, intoS (s0))] _ HKL.out (HS9.out.fresh HA36_.out) (Or.inl HN12.out) (StepsL.lit (b := w23_.heap.size) [(.slice none 0 0, atS (c)), (.slice pa n ca, intoS (s0))] (by rw [← HB31_.out]; exact heap_alloc_new _ _) rfl (Nat.le_of_ble_eq_true rfl) ?_) (Nat.le_of_ble_eq_true rfl) ?_ (Ran.one _ c s0 (by rw [← HE.out]; exact HWI.out.2)) (by rw [HXL.out]; have := HWI.out.1; omega)).mono ?_
  · intro q hq; simp only [List.mem_cons, List.not_mem_nil, or_false] at hq; rcases hq with rfl | rfl
    · exact SlB.nil _
    · exact HS.out.fresh HA32_.out
  · intro q hq; simp only [List.mem_cons, List.not_mem_nil, or_false] at hq; rcases hq with rfl | rfl
    · exact okAt _
    · exact okInto (by rw [← HE.out]; have := HWI.out.1; omega)
  rintro e w37_ ⟨v38_, rfl, ho, hf⟩
  obtain ⟨p39_, c40_, hv⟩ := ho.slice
  rw [HXL.out] at hv
  subst hv
  have HO41_ := Lib.hid ho.sl
  have HA42_ : Hid (Fresh w w37_) := Lib.hid (HA32_.out.trans hf)
  have HA43_ : Hid (Fresh w w37_) := Lib.hid (HA33_.out.trans hf)
  have HA44_ : Hid (Fresh w w37_) := Lib.hid (HA34_.out.trans hf)
  have HA45_ : Hid (Fresh w5_.drew w37_) := Lib.hid (HA35_.out.trans hf)
  have HA46_ : Hid (Fresh w11_ w37_) := Lib.hid (HA36_.out.trans hf)
  clear ho hf
  have HA47_ : Hid (Fresh w37_ w37_) := Lib.hid (Keeps.refl _ _)
  go_wp2_with fail
  refine hK _ _ HA44_.out ?_
  clear hK K
  refine wa_quiet 10 (by kernel_rfl) rfl HA44_.out (fun K hK => ?_); go_simp; refine hK _ ?_; clear hK K
  refine wa_quiet 11 (by kernel_rfl) rfl HA44_.out (fun K hK => ?_); go_simp; refine hK _ ?_; clear hK K
  refine wa_quiet 13 (by kernel_rfl) rfl HA44_.out (fun K hK => ?_); go_simp; refine hK _ ?_; clear hK K
  refine wa_quiet 12 (by kernel_rfl) rfl HA44_.out (fun K hK => ?_); go_simp; refine hK _ ?_; clear hK K
  refine wa_quiet 14 (by kernel_rfl) rfl HA44_.out (fun K hK => ?_); go_simp; refine hK _ ?_; clear hK K
  refine wa_done (by kernel_rfl) ?_
  have hr1 := run_strB _ _ _ (HO41_.out.fresh HA47_.out)
  have hr2 := run_strB _ _ _ (HA0.out.fresh HA42_.out)
  rw [HAE.out] at hr2
  go_wp2_with fail
  exact HH.out _ HA42_.out
end Go.Proofs.Ytlafnkcmdnfcpaa
