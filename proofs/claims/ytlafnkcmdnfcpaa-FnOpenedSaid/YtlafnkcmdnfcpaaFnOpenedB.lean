/-
  What the proof of laws.FnOpened rests on (many texts in one): FnOpened, ArgAll.
-/
import Derived.Test.YtlafnkcmdnfcpaaFnOpenedA
import Derived.Deep.QuietTactic
import Derived.Test.YtlafnkcmdnfcpaaStr
import Derived.ProofKit
import Derived.OpenShut
import Derived.ChangeOld
import Derived.Below
import Derived.SizedLaws
namespace Go.Proofs.Ytlafnkcmdnfcpaa
section
open Go Go.RowKit
set_option linter.unusedVariables false
attribute [local irreducible] Cha.iter Cha.rounds Cha.dbl Cha.qr ckOf run doA doN CK.ks withinB xs tagK boundL padL sealL onceL blkB ksL
noncomputable def foBody : Code := Try.f5.body.getD .skip
noncomputable def fo4 : Code := rgt (rgt (rgt foBody))
theorem within_lit (c : UInt32) (A : Int) (hA : A = u32 c) (n : Nat) (w : World) (hn : n ≤ 281474976710656) : Calls Try.prog 13 #[.int .u32 A, .int .i64 (n : Int)] w fun e w' => e = .returned (.bool (withinB c n)) ∧ w' = w := by
  subst hA
  exact within2_c c n w hn
theorem pow_bit (n : Nat) (h : n < 8) : ∃ y : UInt8, y ≠ 0 ∧ (2 : Int) ^ n % 256 = u8 y := by
  have h8 : n = 0 ∨ n = 1 ∨ n = 2 ∨ n = 3 ∨ n = 4 ∨ n = 5 ∨ n = 6 ∨ n = 7 := by omega
  rcases h8 with rfl | rfl | rfl | rfl | rfl | rfl | rfl | rfl
  · exact ⟨1, by decide, by decide⟩
  · exact ⟨2, by decide, by decide⟩
  · exact ⟨4, by decide, by decide⟩
  · exact ⟨8, by decide, by decide⟩
  · exact ⟨16, by decide, by decide⟩
  · exact ⟨32, by decide, by decide⟩
  · exact ⟨64, by decide, by decide⟩
  · exact ⟨128, by decide, by decide⟩
theorem turned_ne (l : List UInt8) (k : Nat) (y : UInt8) (hk : k < l.length) (hy : y ≠ 0) : l.set k (l.getD k 0 ^^^ y) ≠ l := by
  intro e
  have h := congrArg (fun l => l.getD k 0) e
  simp only [List.getD, List.getElem?_set_self hk, Option.getD_some, List.getElem?_eq_getElem hk] at h
  have h2 : l[k] ^^^ (l[k] ^^^ y) = l[k] ^^^ l[k] := by rw [h]
  rw [← UInt8.xor_assoc, UInt8.xor_self, UInt8.zero_xor] at h2
  exact hy h2
set_option maxRecDepth 100000 in
set_option maxHeartbeats 4000000 in
theorem fo4_c (R : Ending → World → Prop) (bk g1 n ca cm cbe : Nat) (pa pm pbe : Option Addr) (key nonce a m : List UInt8) (long : Bool) (x : UInt8) (KK : CK) (r0 r1 r8 r9 r10 r11 r12 r15 r16 r17 r18 r19 r20 r21 r22 r23 r24 r25 r26 r27 r28 r29 r30 r31 r32 r33 r34 r35 r36 r37 r38 r39 r40 r41 r42 r43 r44 r45 r46 r47 r48 r49 r50 r51 r52 r53 r54 r55 r56 r57 r58 r59 r60 r61 r62 r63 r64 r65 r66 r67 r68 r69 r70 r71 r72 r73 r74 r75 r76 r77 r78 r79 r80 r81 r82 r83 : Value) (w2 w : World) (hk : key.length = 32) (hnl : nonce.length = 24) (hKK : KK = ckOf key (nonL nonce long))
    (hbk : w2.heap[bk]? = some (.cells (cells8 key) 22 (0, 0))) (hbn : w2.heap[bk + 1]? = some (.cells (cells8 nonce) 39 (0, 0)))
    (hbe : SlB w2 (.slice pbe a.length cbe) a) (hm : SlB w2 (.slice pm n cm) m) (la : a.length ≤ 140737488351232) (hn : n = m.length) (lm : n ≤ 1048576) (hF : Fresh w2 w) (hg : w2.heap.size ≤ g1) (hS1 : SlB w (.slice pa n ca) (sealL KK m)) (hne : ∀ q, (Value.slice pa n ca).ownBlock = some q → ¬ q = g1)
    (h1 : w.heap[g1]? = some (.cells (cells8 (tagK (onceL KK) (boundL a (sealL KK m)))) 27 (0, 0))) (h : ∀ w', Fresh w2 w' → R (.returned (.bool true)) w') :
    Code.wp Try.prog fo4 (bodyPost Try.prog Try.f5 R) ⟨#[r0, r1, .bool long, .slice pbe a.length cbe, .slice pm n cm, .int .u8 (Go.Proofs.Ytlafnkcmdnfcpaa.u8 x), .pointer (some ⟨bk, 0, none⟩), .pointer (some ⟨bk + 1, 0, none⟩), r8, r9, r10, r11, r12, .slice pa n ca, .pointer (some ⟨g1, 0, none⟩), r15, r16, r17, r18, r19, r20, r21, r22, r23, r24, r25, r26, r27, r28, r29, r30, r31, r32, r33, r34, r35, r36, r37, r38, r39, r40, r41, r42, r43, r44, r45, r46, r47, r48, r49, r50, r51, r52, r53, r54, r55, r56, r57, r58, r59, r60, r61, r62, r63, r64, r65, r66, r67, r68, r69, r70, r71, r72, r73, r74, r75, r76, r77, r78, r79, r80, r81, r82, r83], []⟩ w := by
  conv => arg 2; whnf
  dsimp only
  have HKL := Lib.hid hk
  have HNL := Lib.hid hnl
  have HKE := Lib.hid hKK
  have h1k := cells8_one key
  have h2n := cells8_one nonce
  have HBK := Lib.hid hbk
  have HBN := Lib.hid hbn
  have HBE := Lib.hid hbe
  have HMS := Lib.hid hm
  have HLA := Lib.hid la
  have HS1 := Lib.hid hS1
  have HNEQ := Lib.hid hne
  have HLT1 : Hid (g1 < w.heap.size) := Lib.hid (lt_of_block h1)
  have H1 := Lib.hid h1
  have HH := Lib.hid h
  have HE := Lib.hid hn
  have HLM := Lib.hid lm
  have HG1 := Lib.hid hg
  have HSL : Hid ((sealL KK m).length = n) := Lib.hid (by rw [sealL_len]; exact hn.symm)
  have HTL : Hid ((tagK (onceL KK) (boundL a (sealL KK m))).length = 16) := Lib.hid (tagK_length _ _)
  have HTS : Hid ((cells8 (tagK (onceL KK) (boundL a (sealL KK m)))).size = 16) := Lib.hid (by rw [cells8_size, tagK_length])
  have HF0 := Lib.hid hF
  have h1t := cells8_one (tagK (onceL KK) (boundL a (sealL KK m)))
  clear hk hnl hKK hbk hbn hbe hm la hS1 hne h1 h hn lm hF hg
  refine wp_seq_hold (fun K4 HK4 => ?_)
  go_wp2_with fail
  have HA1_ : Hid (Fresh w w) := Lib.hid (Keeps.refl _ _)
  refine wp_region_ord (fun w' => Fresh w w') [(0, true), (1, true), (2, true), (4, true), (5, true), (6, true), (3, false), (7, false), (8, true), (9, true), (10, true), (11, true), (12, true)] (by kernel_rfl) (by kernel_rfl) ((Keeps.refl _ w).drew) ?_
  have HA2_ : Hid (Fresh w w) := Lib.hid (Keeps.refl _ _)
  have HA3_ : Hid (Fresh w2 w.drew) := Lib.hid (HF0.out.drew)
  have HA4_ : Hid (Fresh w w.drew) := Lib.hid (HA1_.out.drew)
  have HA5_ : Hid (Fresh w w.drew) := Lib.hid (HA2_.out.drew)
  refine ord_load (.agg (cells8 key)) rfl (by rfl) (fun w' hw' => load32 _ rfl rfl HKL.out HBK.out (HF0.out.trans hw')) ?_
  refine ord_load (.agg (cells8 nonce)) rfl (by rfl) (fun w' hw' => load24 _ rfl rfl HNL.out HBN.out (HF0.out.trans hw')) ?_
  iterate 3 (refine ord_quiet rfl (fun K hK => ?_); go_simp; refine hK _ ?_; clear hK K)
  refine ord_load (.agg (cells8 (tagK (onceL KK) (boundL a (sealL KK m))))) rfl (by rfl) (fun w' hw' => exec_load_row _ _ rfl g1 rfl _ _ _ (Fresh.at (HA1_.out.trans hw') H1.out) Try.underlying27 rfl (by rw [HTS.out]; exact info16B)) ?_
  refine ord_loud rfl (fun K hK => ?_)
  go_wp2_with fail
  refine (nonceOf_c nonce long _ HNL.out).mono ?_
  rintro e w6_ ⟨vN, rfl, hs, hf⟩
  obtain ⟨p7_, c8_, rfl⟩ := hs.slice
  have HN9_ := Lib.hid hs
  have HA10_ : Hid (Fresh w2 w6_) := Lib.hid (HA3_.out.trans hf)
  have HA11_ : Hid (Fresh w w6_) := Lib.hid (HA4_.out.trans hf)
  have HA12_ : Hid (Fresh w w6_) := Lib.hid (HA5_.out.trans hf)
  clear hs hf
  have HA13_ : Hid (Fresh w6_ w6_) := Lib.hid (Keeps.refl _ _)
  go_wp2_with fail
  refine hK _ _ HA12_.out ?_
  clear hK K
  refine ord_loud rfl (fun K hK => ?_)
  go_wp2_with fail
  refine (open_c (.slice p7_ (nonL nonce long).length c8_) (.slice pbe a.length cbe) (.slice pa n ca) key (nonL nonce long) a (sealL KK m) (tagK (onceL KK) (boundL a (sealL KK m))) _ HKL.out (nonL_len HNL.out long) (HN9_.out.fresh HA13_.out) (HBE.out.fresh HA10_.out) (HS1.out.fresh HA11_.out) HTL.out HLA.out (by rw [HSL.out]; exact HLM.out) true (by rw [← HKE.out]; exact (decide_eq_true rfl).symm)).mono ?_
  rintro e w14_ ⟨v, rfl, hsl, ⟨pgt, ngt, cgt, rfl⟩, hlt, hf⟩
  have HA15_ : Hid (Fresh w2 w14_) := Lib.hid (HA10_.out.trans hf)
  have HA16_ : Hid (Fresh w w14_) := Lib.hid (HA11_.out.trans hf)
  have HA17_ : Hid (Fresh w w14_) := Lib.hid (HA12_.out.trans hf)
  have HA18_ : Hid (Fresh w6_ w14_) := Lib.hid (HA13_.out.trans hf)
  have HA19_ : Hid (Fresh w14_ w14_) := Lib.hid (Keeps.refl _ _)
  rw [← HKE.out, seal_twice] at hsl
  have HGS := Lib.hid (hsl rfl)
  have HGL := Lib.hid hlt
  have HWC : Hid (w.heap.size ≤ w6_.heap.size) := Lib.hid (HA11_.out.size)
  have hszw := HF0.out.size
  clear hsl hlt hf
  go_wp2_with fail
  refine hK _ _ HA17_.out ?_
  clear hK K
  iterate 5 (refine ord_quiet rfl (fun K hK => ?_); go_simp; refine hK _ ?_; clear hK K)
  refine ord_last ?_
  go_wp2_with fail
  refine HK4.out _ _ ?_
  clear HK4
  have HB4 := Lib.hid (HA16_.out.at H1.out)
  obtain ⟨n8, hn8⟩ : ∃ n, n = x.toNat / 8 := ⟨_, rfl⟩
  obtain ⟨k, hk⟩ : ∃ k, k = n8 % 16 := ⟨_, rfl⟩
  obtain ⟨sh, hsh⟩ : ∃ s, s = x.toNat % 8 := ⟨_, rfl⟩
  have hx := x.toNat_lt
  have hn32 : n8 < 32 := by omega
  have hk16 : k < 16 := by omega
  have hs8 : sh < 8 := by omega
  have q0 : IntKind.u8.wrap ((Go.Proofs.Ytlafnkcmdnfcpaa.u8 x).tdiv 8) = (n8 : Int) := by
    rw [IntKind.wrap_u8]; unfold Go.Proofs.Ytlafnkcmdnfcpaa.u8; rw [Int.tdiv_eq_ediv_of_nonneg (by omega)]; omega
  have q1 : IntKind.u8.wrap ((n8 : Int).tmod 16) = (k : Int) := by
    rw [IntKind.wrap_u8, Int.tmod_eq_emod_of_nonneg (by omega)]; omega
  have q1' : (n8 : Int).tmod 16 = (k : Int) := by
    rw [Int.tmod_eq_emod_of_nonneg (by omega)]; omega
  have q2 : IntKind.u8.wrap ((Go.Proofs.Ytlafnkcmdnfcpaa.u8 x).tmod 8) = (sh : Int) := by
    rw [IntKind.wrap_u8]; unfold Go.Proofs.Ytlafnkcmdnfcpaa.u8; rw [Int.tmod_eq_emod_of_nonneg (by omega)]; omega
  have q2' : (Go.Proofs.Ytlafnkcmdnfcpaa.u8 x).tmod 8 = (sh : Int) := by
    unfold Go.Proofs.Ytlafnkcmdnfcpaa.u8; rw [Int.tmod_eq_emod_of_nonneg (by omega)]; omega
  obtain ⟨y, hy, q3⟩ := pow_bit sh hs8
  obtain ⟨t, ht⟩ : ∃ t, t = (tagK (onceL KK) (boundL a (sealL KK m))).getD k 0 := ⟨_, rfl⟩
  have hck : w14_.cell? ⟨g1, k, none⟩ = some (.int .u8 (Go.Proofs.Ytlafnkcmdnfcpaa.u8 t)) := by rw [ht, cell_block HB4.out]; exact cells8_get (by rw [tagK_length]; exact hk16)
  have hfk : w14_.frozen? ⟨g1, k, none⟩ = false := free_block HB4.out k
  obtain ⟨T, hT⟩ : ∃ T, T = (tagK (onceL KK) (boundL a (sealL KK m))).set k (t ^^^ y) := ⟨_, rfl⟩
  have HUL : Hid (T.length = 16) := Lib.hid (by rw [hT, List.length_set, tagK_length])
  have HTN : Hid (T ≠ (tagK (onceL KK) (boundL a (sealL KK m)))) := Lib.hid (by rw [hT, ht]; exact turned_ne _ k y (by rw [tagK_length]; exact hk16) hy)
  have HB5 : Hid ((w14_.setCell ⟨g1, k, none⟩ (.int .u8 (Go.Proofs.Ytlafnkcmdnfcpaa.u8 (t ^^^ y)))).heap[g1]? = some (.cells (cells8 T) 27 (0, 0))) := Lib.hid (by rw [hT, ← cells8_set]; exact block_set HB4.out)
  have HKP : Hid (Keeps (fun q => q = g1) w14_ (w14_.setCell ⟨g1, k, none⟩ (.int .u8 (Go.Proofs.Ytlafnkcmdnfcpaa.u8 (t ^^^ y))))) := Lib.hid ((Keeps.refl _ w14_).own _)
  have HUS := Lib.hid (show (cells8 T).size = 16 by rw [cells8_size, HUL.out])
  have h1T := cells8_one T
  clear hn8 hk hsh hx ht hT hy
  refine wp_seq_hold (fun K5 HK5 => ?_)
  go_wp2_with fail
  refine HK5.out _ _ ?_
  clear HK5
  have HF5 : Hid (Fresh w2 (w14_.setCell ⟨g1, k, none⟩ (.int .u8 (Go.Proofs.Ytlafnkcmdnfcpaa.u8 (t ^^^ y))))) := Lib.hid (Fresh.then HA15_.out HKP.out (fun q hq e => by have := HG1.out; omega))
  have HS5 : Hid (SlB (w14_.setCell ⟨g1, k, none⟩ (.int .u8 (Go.Proofs.Ytlafnkcmdnfcpaa.u8 (t ^^^ y)))) (.slice pa n ca) (sealL KK m)) := Lib.hid ((HS1.out.fresh HA16_.out).keeps HKP.out (fun q e _ => HNEQ.out q e))
  have HG5 : Hid (SlB (w14_.setCell ⟨g1, k, none⟩ (.int .u8 (Go.Proofs.Ytlafnkcmdnfcpaa.u8 (t ^^^ y)))) (.slice pgt ngt cgt) m) := Lib.hid ((HGS.out.fresh HA19_.out).keeps HKP.out (fun q e _ h => by have h1 := HGL.out q e; have h2 := HLT1.out; have h3 := HWC.out; omega))
  generalize (w14_.setCell ⟨g1, k, none⟩ (.int .u8 (Go.Proofs.Ytlafnkcmdnfcpaa.u8 (t ^^^ y)))) = w9 at HB5 HKP HF5 HS5 HG5 ⊢
  clear HB4 HKP HGS hck hfk q0 q1 q1' q2 q2' q3
  have HA201_ : Hid (Fresh w9 w9) := Lib.hid (Keeps.refl _ _)
  refine wp_seq_hold (fun K6 HK6 => ?_)
  go_wp2_with fail
  refine wp_region_ord (fun w' => Fresh w9 w') [(0, true), (1, true), (2, true), (4, true), (5, true), (6, true), (3, false), (7, false), (8, true), (9, true), (10, true), (11, true), (12, true)] (by kernel_rfl) (by kernel_rfl) ((Keeps.refl _ w9).drew) ?_
  have HA202_ : Hid (Fresh w9 w9) := Lib.hid (Keeps.refl _ _)
  have HA203_ : Hid (Fresh w2 w9.drew) := Lib.hid (HF5.out.drew)
  have HA204_ : Hid (Fresh w9 w9.drew) := Lib.hid (HA201_.out.drew)
  have HA205_ : Hid (Fresh w9 w9.drew) := Lib.hid (HA202_.out.drew)
  refine ord_load (.agg (cells8 key)) rfl (by rfl) (fun w' hw' => load32 _ rfl rfl HKL.out HBK.out (HF5.out.trans hw')) ?_
  refine ord_load (.agg (cells8 nonce)) rfl (by rfl) (fun w' hw' => load24 _ rfl rfl HNL.out HBN.out (HF5.out.trans hw')) ?_
  iterate 3 (refine ord_quiet rfl (fun K hK => ?_); go_simp; refine hK _ ?_; clear hK K)
  refine ord_load (.agg (cells8 T)) rfl (by rfl) (fun w' hw' => exec_load_row _ _ rfl g1 rfl _ _ _ (Fresh.at (HA201_.out.trans hw') HB5.out) Try.underlying27 rfl (by rw [HUS.out]; exact info16B)) ?_
  refine ord_loud rfl (fun K hK => ?_)
  go_wp2_with fail
  refine (nonceOf_c nonce long _ HNL.out).mono ?_
  rintro e w206_ ⟨vN, rfl, hs, hf⟩
  obtain ⟨p207_, c208_, rfl⟩ := hs.slice
  have HN209_ := Lib.hid hs
  have HA210_ : Hid (Fresh w2 w206_) := Lib.hid (HA203_.out.trans hf)
  have HA211_ : Hid (Fresh w9 w206_) := Lib.hid (HA204_.out.trans hf)
  have HA212_ : Hid (Fresh w9 w206_) := Lib.hid (HA205_.out.trans hf)
  clear hs hf
  have HA213_ : Hid (Fresh w206_ w206_) := Lib.hid (Keeps.refl _ _)
  go_wp2_with fail
  refine hK _ _ HA212_.out ?_
  clear hK K
  refine ord_loud rfl (fun K hK => ?_)
  go_wp2_with fail
  refine (open_c (.slice p207_ (nonL nonce long).length c208_) (.slice pbe a.length cbe) (.slice pa n ca) key (nonL nonce long) a (sealL KK m) T _ HKL.out (nonL_len HNL.out long) (HN209_.out.fresh HA213_.out) (HBE.out.fresh HA210_.out) (HS5.out.fresh HA211_.out) HUL.out HLA.out (by rw [HSL.out]; exact HLM.out) false (by rw [← HKE.out]; exact (decide_eq_false HTN.out).symm)).mono ?_
  rintro e w214_ ⟨v, rfl, hsl, ⟨pgf, ngf, cgf, rfl⟩, hlt, hf⟩
  have HA215_ : Hid (Fresh w2 w214_) := Lib.hid (HA210_.out.trans hf)
  have HA216_ : Hid (Fresh w9 w214_) := Lib.hid (HA211_.out.trans hf)
  have HA217_ : Hid (Fresh w9 w214_) := Lib.hid (HA212_.out.trans hf)
  have HA218_ : Hid (Fresh w206_ w214_) := Lib.hid (HA213_.out.trans hf)
  have HA219_ : Hid (Fresh w214_ w214_) := Lib.hid (Keeps.refl _ _)
  clear hsl hlt hf
  go_wp2_with fail
  refine hK _ _ HA217_.out ?_
  clear hK K
  iterate 5 (refine ord_quiet rfl (fun K hK => ?_); go_simp; refine hK _ ?_; clear hK K)
  refine ord_last ?_
  go_wp2_with fail
  refine HK6.out _ _ ?_
  clear HK6
  have hng : ngt = m.length := by obtain ⟨p9, c9, h9⟩ := HG5.out.slice; injection h9 with h9a h9b h9c
  rw [← HE.out] at hng
  subst hng
  have hr1 := run_strB _ _ _ (HG5.out.fresh HA216_.out)
  have hr2 := run_strB _ _ _ (HMS.out.fresh HA215_.out)
  go_wp2_with fail
  exact HH.out _ HA215_.out
set_option maxRecDepth 100000 in
set_option maxHeartbeats 4000000 in
theorem fnOpened_c (key nonce a m : List UInt8) (long : Bool) (x : UInt8) (va vm : Value) (w : World) (hk : key.length = 32) (hnl : nonce.length = 24) (ha : SlB w va a) (la : a.length ≤ 140737488351232) (hm : SlB w vm m) (lmm : m.length ≤ 140737488351232) :
    Calls Try.prog 5 #[.agg (cells8 key), .agg (cells8 nonce), .bool long, va, vm, .int .u8 (Go.Proofs.Ytlafnkcmdnfcpaa.u8 x)] w fun e w' => e = .returned (.bool true) ∧ Fresh w w' := by
  obtain ⟨pbe, cbe, rfl⟩ := ha.slice
  obtain ⟨pm, cm, rfl⟩ := hm.slice
  obtain ⟨n, hn⟩ : ∃ n, n = m.length := ⟨_, rfl⟩
  rw [← hn] at hm lmm ⊢
  obtain ⟨KK, hKK⟩ : ∃ K, K = ckOf key (nonL nonce long) := ⟨_, rfl⟩
  have HKE := Lib.hid hKK
  have HBE := Lib.hid ha
  have HMS := Lib.hid hm
  have HLA := Lib.hid la
  have HE := Lib.hid hn
  have HSL : Hid ((sealL KK m).length = n) := Lib.hid (by rw [sealL_len]; exact hn.symm)
  have HTL : Hid ((cells8 (tagK (onceL KK) (boundL a (sealL KK m)))).size = 16) := Lib.hid (by rw [cells8_size, tagK_length])
  clear ha hm la hn hKK
  have HKL := Lib.hid hk
  have HNL := Lib.hid hnl
  have h1 := cells8_one key
  have h2 := cells8_one nonce
  clear hk hnl
  go_enter Try.func5, Try.ntmps5
  refine wp_seq_hold (fun K0 HK0 => ?_)
  go_wp2_with fail
  have HBK := Lib.hid (heap_alloc2_old w (.cells (cells8 key) 22) (.cells (cells8 nonce) 39))
  have HBN := Lib.hid (heap_alloc2_new w (.cells (cells8 key) 22) (.cells (cells8 nonce) 39))
  have HF2 : Hid (Fresh w ((w.alloc (.cells (cells8 key) 22)).alloc (.cells (cells8 nonce) 39))) := Lib.hid (((Keeps.refl _ w).alloc _).alloc _)
  generalize ((w.alloc (.cells (cells8 key) 22)).alloc (.cells (cells8 nonce) 39)) = w2 at HBK HBN HF2 ⊢
  refine HK0.out _ _ ?_
  clear HK0
  refine wp_seq_hold (fun K1 HK1 => ?_)
  go_wp2_with fail
  refine (within_lit 1 1 rfl n w2 (by omega)).mono ?_
  rintro e w3 ⟨rfl, hw3⟩
  subst w3
  cases hwi : withinB 1 n with
  | false =>
    go_wp2_with fail
    go_ret
    exact ⟨rfl, HF2.out⟩
  | true =>
    have HWI := Lib.hid (within_true hwi)
    clear hwi
    go_wp2_with fail
    refine HK1.out _ _ ?_
    clear HK1
    refine wp_seq_hold (fun K2 HK2 => ?_)
    go_wp2_with fail
    have HA1_ : Hid (Fresh w2 w2) := Lib.hid (Keeps.refl _ _)
    refine wp_region_wa (fun w' => Fresh w2 w') 13 rfl (by kernel_rfl) ?_
    have HA2_ : Hid (Fresh w2 w2) := Lib.hid (Keeps.refl _ _)
    have HA3_ : Hid (Fresh w w2.drew) := Lib.hid (HF2.out.drew)
    have HA4_ : Hid (Fresh w2 w2.drew) := Lib.hid (HA1_.out.drew)
    have HA5_ : Hid (Fresh w2 w2.drew) := Lib.hid (HA2_.out.drew)
    refine wa_load 0 (.agg (cells8 key)) (by kernel_rfl) rfl HA5_.out (by rfl) (fun w' hw' => load32 _ rfl rfl HKL.out HBK.out (HA1_.out.trans hw')) ?_
    refine wa_load 1 (.agg (cells8 nonce)) (by kernel_rfl) rfl HA5_.out (by rfl) (fun w' hw' => load24 _ rfl rfl HNL.out HBN.out (HA1_.out.trans hw')) ?_
    refine wa_quiet 2 (by kernel_rfl) rfl HA5_.out (fun K hK => ?_); go_simp; refine hK _ ?_; clear hK K
    refine wa_quiet 4 (by kernel_rfl) rfl HA5_.out (fun K hK => ?_); go_simp; refine hK _ ?_; clear hK K
    refine wa_quiet 5 (by kernel_rfl) rfl HA5_.out (fun K hK => ?_); go_simp; refine hK _ ?_; clear hK K
    refine wa_all [3, 10] (by kernel_rfl) (by decide) (fun i hi => ?_)
    simp only [List.mem_cons, List.not_mem_nil, or_false] at hi
    rcases hi with rfl | rfl
    · refine wa_loud rfl (fun K hK => ?_)
      go_wp2_with fail
      refine (nonceOf_c nonce long _ HNL.out).mono ?_
      rintro e w6_ ⟨vN, rfl, hs, hf⟩
      obtain ⟨p7_, c8_, rfl⟩ := hs.slice
      have HN9_ := Lib.hid hs
      have HA10_ : Hid (Fresh w w6_) := Lib.hid (HA3_.out.trans hf)
      have HA11_ : Hid (Fresh w2 w6_) := Lib.hid (HA4_.out.trans hf)
      have HA12_ : Hid (Fresh w2 w6_) := Lib.hid (HA5_.out.trans hf)
      clear hs hf
      have HA13_ : Hid (Fresh w6_ w6_) := Lib.hid (Keeps.refl _ _)
      go_wp2_with fail
      refine hK _ _ HA12_.out ?_
      clear hK K
      refine wa_all [6, 10] (by kernel_rfl) (by decide) (fun i hi => ?_)
      simp only [List.mem_cons, List.not_mem_nil, or_false] at hi
      rcases hi with rfl | rfl
      · refine wa_loud rfl (fun K hK => ?_)
        go_wp2_with fail
        refine (seal_c (.slice p7_ (nonL nonce long).length c8_) (.slice pbe a.length cbe) (.slice pm n cm) key (nonL nonce long) a m _ HKL.out (nonL_len HNL.out long) (HN9_.out.fresh HA13_.out) (HBE.out.fresh HA10_.out) (HMS.out.fresh HA10_.out) HLA.out (by rw [← HE.out]; exact HWI.out.1)).mono ?_
        rintro e w14_ ⟨v, rfl, ho, hf⟩
        rw [← HKE.out] at ho ⊢
        obtain ⟨p15_, c16_, hv⟩ := ho.slice
        rw [HSL.out] at hv
        subst hv
        have HO17_ := Lib.hid ho
        have hszc := hf.size
        have HA18_ : Hid (Fresh w w14_) := Lib.hid (HA10_.out.trans hf)
        have HA19_ : Hid (Fresh w2 w14_) := Lib.hid (HA11_.out.trans hf)
        have HA20_ : Hid (Fresh w2 w14_) := Lib.hid (HA12_.out.trans hf)
        have HA21_ : Hid (Fresh w6_ w14_) := Lib.hid (HA13_.out.trans hf)
        clear ho hf
        have HA22_ : Hid (Fresh w14_ w14_) := Lib.hid (Keeps.refl _ _)
        go_wp2_with fail
        refine hK _ _ HA20_.out ?_
        clear hK K
        refine wa_quiet 7 (by kernel_rfl) rfl HA20_.out (fun K hK => ?_); go_simp; refine hK _ ?_; clear hK K
        refine wa_quiet 8 (by kernel_rfl) rfl HA20_.out (fun K hK => ?_); go_simp; refine hK _ ?_; clear hK K
        refine wa_quiet 9 (by kernel_rfl) rfl HA20_.out (fun K hK => ?_); go_simp; refine hK _ ?_; clear hK K
        refine wa_all [10] (by kernel_rfl) (by decide) (fun i hi => ?_)
        simp only [List.mem_cons, List.not_mem_nil, or_false] at hi
        subst hi
        refine wa_loud rfl (fun K hK => ?_)
        go_wp2_with fail
        have hsz26_ := HA20_.out.size
        generalize hw24_ : w14_.alloc _ = w23_
        have HL25_ : Hid (w23_.heap[w14_.heap.size]? = some (.cells (cells8 (List.replicate 16 0)) 27 (0, 0))) := Lib.hid (by rw [← hw24_]; exact heap_alloc_new w14_ _)
        have hsz26_b : w14_.heap.size < w23_.heap.size := lt_of_block HL25_.out
        have HA27_ : Hid (Fresh w w23_) := Lib.hid ((by rw [← hw24_]; exact (HA18_.out.alloc _)))
        have HA28_ : Hid (Fresh w2 w23_) := Lib.hid ((by rw [← hw24_]; exact (HA19_.out.alloc _)))
        have HA29_ : Hid (Fresh w2 w23_) := Lib.hid ((by rw [← hw24_]; exact (HA20_.out.alloc _)))
        have HA30_ : Hid (Fresh w6_ w23_) := Lib.hid ((by rw [← hw24_]; exact (HA21_.out.alloc _)))
        have HA31_ : Hid (Fresh w14_ w23_) := Lib.hid ((by rw [← hw24_]; exact (HA22_.out.alloc _)))
        clear hw24_
        have HA32_ : Hid (Fresh w23_ w23_) := Lib.hid (Keeps.refl _ _)
        refine hK _ _ HA29_.out ?_
        clear hK K
        refine wa_quiet 11 (by kernel_rfl) rfl HA29_.out (fun K hK => ?_); go_simp; refine hK _ ?_; clear hK K
        refine wa_all [12] (by kernel_rfl) (by decide) (fun i hi => ?_)
        simp only [List.mem_cons, List.not_mem_nil, or_false] at hi
        subst hi
        refine wa_loud rfl (fun K hK => ?_)
        have HNEB : Hid (∀ q, (Value.slice p15_ n c16_).ownBlock = some q → ¬ q = w14_.heap.size) := Lib.hid (fun q e h => by have := HO17_.out.lt q e; omega)
        have HBA := Lib.hid (HA32_.out.at HL25_.out)
        have HKC := Lib.hid (OwnB.kept' (HO17_.out.kept HA31_.out (fun _ _ x => x)) ((Keeps.refl (fun q => q = w14_.heap.size) w23_).setRow (p := w14_.heap.size) (Or.inl rfl) (cells8 (tagK (onceL KK) (boundL a (sealL KK m))))) (fun q e e2 => by have := HO17_.out.lt q e; omega)).sl
        have HRT := Lib.hid (row_heap (cs := cells8 (tagK (onceL KK) (boundL a (sealL KK m)))) HBA.out)
        have HA34_ : Hid (Fresh w (w23_.setRow (w14_.heap.size) (cells8 (tagK (onceL KK) (boundL a (sealL KK m)))))) := Lib.hid (HA27_.out.setRow (Or.inr (by have := HF2.out.size; omega)) _)
        have HA35_ : Hid (Fresh w2 (w23_.setRow (w14_.heap.size) (cells8 (tagK (onceL KK) (boundL a (sealL KK m)))))) := Lib.hid (HA28_.out.setRow (Or.inr (by have := HA1_.out.size; omega)) _)
        refine wpList_store_row rfl 27 (.tmp 14) (.tmp 32) rfl (w14_.heap.size) (cells8 (tagK (onceL KK) (boundL a (sealL KK m)))) rfl rfl 27 _ HBA.out (by rw [HTL.out]; exact info16B) (by rw [HTL.out]; rfl) (cells8_one _) ?_
        refine wpList_nil (hK _ _ (HA29_.out.setRow (Or.inr (by omega)) _) ?_)
        clear hK K
        generalize w23_.setRow (w14_.heap.size) (cells8 (tagK (onceL KK) (boundL a (sealL KK m)))) = w33_ at HKC HRT HA34_ HA35_ ⊢
        refine wa_done (by kernel_rfl) ?_
        go_wp2_with fail
        refine HK2.out _ _ ?_
        refine fo4_c _ w.heap.size (w14_.heap.size) n _ _ _ _ _ _ key nonce a m long x KK _ _ _ _ _ _ _ _ _ _ _ _ _ _ _ _ _ _ _ _ _ _ _ _ _ _ _ _ _ _ _ _ _ _ _ _ _ _ _ _ _ _ _ _ _ _ _ _ _ _ _ _ _ _ _ _ _ _ _ _ _ _ _ _ _ _ _ _ _ _ _ _ _ _ _ _ w2 _ HKL.out HNL.out HKE.out HBK.out HBN.out (HBE.out.fresh HF2.out) (HMS.out.fresh HF2.out) HLA.out HE.out HWI.out.1 HA35_.out (by omega) HKC.out HNEB.out HRT.out ?_
        intro w' hf
        exact ⟨rfl, HF2.out.trans hf⟩
      · refine wa_loud rfl (fun K hK => ?_)
        go_wp2_with fail
        have hsz17_ := HA12_.out.size
        generalize hw15_ : w6_.alloc _ = w14_
        have HL16_ : Hid (w14_.heap[w6_.heap.size]? = some (.cells (cells8 (List.replicate 16 0)) 27 (0, 0))) := Lib.hid (by rw [← hw15_]; exact heap_alloc_new w6_ _)
        have hsz17_b : w6_.heap.size < w14_.heap.size := lt_of_block HL16_.out
        have HA18_ : Hid (Fresh w w14_) := Lib.hid ((by rw [← hw15_]; exact (HA10_.out.alloc _)))
        have HA19_ : Hid (Fresh w2 w14_) := Lib.hid ((by rw [← hw15_]; exact (HA11_.out.alloc _)))
        have HA20_ : Hid (Fresh w2 w14_) := Lib.hid ((by rw [← hw15_]; exact (HA12_.out.alloc _)))
        have HA21_ : Hid (Fresh w6_ w14_) := Lib.hid ((by rw [← hw15_]; exact (HA13_.out.alloc _)))
        clear hw15_
        have HA22_ : Hid (Fresh w14_ w14_) := Lib.hid (Keeps.refl _ _)
        refine hK _ _ HA20_.out ?_
        clear hK K
        refine wa_all [6] (by kernel_rfl) (by decide) (fun i hi => ?_)
        simp only [List.mem_cons, List.not_mem_nil, or_false] at hi
        subst hi
        refine wa_loud rfl (fun K hK => ?_)
        go_wp2_with fail
        have hszal := HA22_.out.size
        refine (seal_c (.slice p7_ (nonL nonce long).length c8_) (.slice pbe a.length cbe) (.slice pm n cm) key (nonL nonce long) a m _ HKL.out (nonL_len HNL.out long) (HN9_.out.fresh HA21_.out) (HBE.out.fresh HA18_.out) (HMS.out.fresh HA18_.out) HLA.out (by rw [← HE.out]; exact HWI.out.1)).mono ?_
        rintro e w23_ ⟨v, rfl, ho, hf⟩
        rw [← HKE.out] at ho ⊢
        obtain ⟨p24_, c25_, hv⟩ := ho.slice
        rw [HSL.out] at hv
        subst hv
        have HO26_ := Lib.hid ho
        have hszc := hf.size
        have HA27_ : Hid (Fresh w w23_) := Lib.hid (HA18_.out.trans hf)
        have HA28_ : Hid (Fresh w2 w23_) := Lib.hid (HA19_.out.trans hf)
        have HA29_ : Hid (Fresh w2 w23_) := Lib.hid (HA20_.out.trans hf)
        have HA30_ : Hid (Fresh w6_ w23_) := Lib.hid (HA21_.out.trans hf)
        have HA31_ : Hid (Fresh w14_ w23_) := Lib.hid (HA22_.out.trans hf)
        clear ho hf
        have HA32_ : Hid (Fresh w23_ w23_) := Lib.hid (Keeps.refl _ _)
        go_wp2_with fail
        refine hK _ _ HA29_.out ?_
        clear hK K
        refine wa_quiet 7 (by kernel_rfl) rfl HA29_.out (fun K hK => ?_); go_simp; refine hK _ ?_; clear hK K
        refine wa_quiet 8 (by kernel_rfl) rfl HA29_.out (fun K hK => ?_); go_simp; refine hK _ ?_; clear hK K
        refine wa_quiet 9 (by kernel_rfl) rfl HA29_.out (fun K hK => ?_); go_simp; refine hK _ ?_; clear hK K
        refine wa_quiet 11 (by kernel_rfl) rfl HA29_.out (fun K hK => ?_); go_simp; refine hK _ ?_; clear hK K
        refine wa_all [12] (by kernel_rfl) (by decide) (fun i hi => ?_)
        simp only [List.mem_cons, List.not_mem_nil, or_false] at hi
        subst hi
        refine wa_loud rfl (fun K hK => ?_)
        have HNEB : Hid (∀ q, (Value.slice p24_ n c25_).ownBlock = some q → ¬ q = w6_.heap.size) := Lib.hid (fun q e h => by have := HO26_.out.lt q e; omega)
        have HBA := Lib.hid (HA31_.out.at HL16_.out)
        have HKC := Lib.hid (OwnB.kept' (HO26_.out.kept HA32_.out (fun _ _ x => x)) ((Keeps.refl (fun q => q = w6_.heap.size) w23_).setRow (p := w6_.heap.size) (Or.inl rfl) (cells8 (tagK (onceL KK) (boundL a (sealL KK m))))) (fun q e e2 => by have := HO26_.out.lt q e; omega)).sl
        have HRT := Lib.hid (row_heap (cs := cells8 (tagK (onceL KK) (boundL a (sealL KK m)))) HBA.out)
        have HA34_ : Hid (Fresh w (w23_.setRow (w6_.heap.size) (cells8 (tagK (onceL KK) (boundL a (sealL KK m)))))) := Lib.hid (HA27_.out.setRow (Or.inr (by have := HF2.out.size; omega)) _)
        have HA35_ : Hid (Fresh w2 (w23_.setRow (w6_.heap.size) (cells8 (tagK (onceL KK) (boundL a (sealL KK m)))))) := Lib.hid (HA28_.out.setRow (Or.inr (by have := HA1_.out.size; omega)) _)
        refine wpList_store_row rfl 27 (.tmp 14) (.tmp 32) rfl (w6_.heap.size) (cells8 (tagK (onceL KK) (boundL a (sealL KK m)))) rfl rfl 27 _ HBA.out (by rw [HTL.out]; exact info16B) (by rw [HTL.out]; rfl) (cells8_one _) ?_
        refine wpList_nil (hK _ _ (HA29_.out.setRow (Or.inr (by omega)) _) ?_)
        clear hK K
        generalize w23_.setRow (w6_.heap.size) (cells8 (tagK (onceL KK) (boundL a (sealL KK m)))) = w33_ at HKC HRT HA34_ HA35_ ⊢
        refine wa_done (by kernel_rfl) ?_
        go_wp2_with fail
        refine HK2.out _ _ ?_
        refine fo4_c _ w.heap.size (w6_.heap.size) n _ _ _ _ _ _ key nonce a m long x KK _ _ _ _ _ _ _ _ _ _ _ _ _ _ _ _ _ _ _ _ _ _ _ _ _ _ _ _ _ _ _ _ _ _ _ _ _ _ _ _ _ _ _ _ _ _ _ _ _ _ _ _ _ _ _ _ _ _ _ _ _ _ _ _ _ _ _ _ _ _ _ _ _ _ _ _ w2 _ HKL.out HNL.out HKE.out HBK.out HBN.out (HBE.out.fresh HF2.out) (HMS.out.fresh HF2.out) HLA.out HE.out HWI.out.1 HA35_.out (by omega) HKC.out HNEB.out HRT.out ?_
        intro w' hf
        exact ⟨rfl, HF2.out.trans hf⟩
    · refine wa_loud rfl (fun K hK => ?_)
      go_wp2_with fail
      have hsz9_ := HA5_.out.size
      generalize hw7_ : w2.alloc _ = w6_
      have HL8_ : Hid (w6_.drew.heap[w2.heap.size]? = some (.cells (cells8 (List.replicate 16 0)) 27 (0, 0))) := Lib.hid (by rw [← hw7_]; exact heap_alloc_new w2 _)
      have hsz9_b : w2.heap.size < w6_.drew.heap.size := lt_of_block HL8_.out
      have HA10_ : Hid (Fresh w w6_.drew) := Lib.hid ((by rw [← hw7_]; exact (HA3_.out.alloc _)))
      have HA11_ : Hid (Fresh w2 w6_.drew) := Lib.hid ((by rw [← hw7_]; exact (HA4_.out.alloc _)))
      have HA12_ : Hid (Fresh w2 w6_.drew) := Lib.hid ((by rw [← hw7_]; exact (HA5_.out.alloc _)))
      clear hw7_
      have HA13_ : Hid (Fresh w6_.drew w6_.drew) := Lib.hid (Keeps.refl _ _)
      refine hK _ _ HA12_.out ?_
      clear hK K
      refine wa_all [3] (by kernel_rfl) (by decide) (fun i hi => ?_)
      simp only [List.mem_cons, List.not_mem_nil, or_false] at hi
      subst hi
      refine wa_loud rfl (fun K hK => ?_)
      go_wp2_with fail
      refine (nonceOf_c nonce long _ HNL.out).mono ?_
      rintro e w14_ ⟨vN, rfl, hs, hf⟩
      obtain ⟨p15_, c16_, rfl⟩ := hs.slice
      have HN17_ := Lib.hid hs
      have HA18_ : Hid (Fresh w w14_) := Lib.hid (HA10_.out.trans hf)
      have HA19_ : Hid (Fresh w2 w14_) := Lib.hid (HA11_.out.trans hf)
      have HA20_ : Hid (Fresh w2 w14_) := Lib.hid (HA12_.out.trans hf)
      have HA21_ : Hid (Fresh w6_.drew w14_) := Lib.hid (HA13_.out.trans hf)
      clear hs hf
      have HA22_ : Hid (Fresh w14_ w14_) := Lib.hid (Keeps.refl _ _)
      go_wp2_with fail
      refine hK _ _ HA20_.out ?_
      clear hK K
      refine wa_all [6] (by kernel_rfl) (by decide) (fun i hi => ?_)
      simp only [List.mem_cons, List.not_mem_nil, or_false] at hi
      subst hi
      refine wa_loud rfl (fun K hK => ?_)
      go_wp2_with fail
      have hszal := HA21_.out.size
      refine (seal_c (.slice p15_ (nonL nonce long).length c16_) (.slice pbe a.length cbe) (.slice pm n cm) key (nonL nonce long) a m _ HKL.out (nonL_len HNL.out long) (HN17_.out.fresh HA22_.out) (HBE.out.fresh HA18_.out) (HMS.out.fresh HA18_.out) HLA.out (by rw [← HE.out]; exact HWI.out.1)).mono ?_
      rintro e w23_ ⟨v, rfl, ho, hf⟩
      rw [← HKE.out] at ho ⊢
      obtain ⟨p24_, c25_, hv⟩ := ho.slice
      rw [HSL.out] at hv
      subst hv
      have HO26_ := Lib.hid ho
      have hszc := hf.size
      have HA27_ : Hid (Fresh w w23_) := Lib.hid (HA18_.out.trans hf)
      have HA28_ : Hid (Fresh w2 w23_) := Lib.hid (HA19_.out.trans hf)
      have HA29_ : Hid (Fresh w2 w23_) := Lib.hid (HA20_.out.trans hf)
      have HA30_ : Hid (Fresh w6_.drew w23_) := Lib.hid (HA21_.out.trans hf)
      have HA31_ : Hid (Fresh w14_ w23_) := Lib.hid (HA22_.out.trans hf)
      clear ho hf
      have HA32_ : Hid (Fresh w23_ w23_) := Lib.hid (Keeps.refl _ _)
      go_wp2_with fail
      refine hK _ _ HA29_.out ?_
      clear hK K
      refine wa_quiet 7 (by kernel_rfl) rfl HA29_.out (fun K hK => ?_); go_simp; refine hK _ ?_; clear hK K
      refine wa_quiet 8 (by kernel_rfl) rfl HA29_.out (fun K hK => ?_); go_simp; refine hK _ ?_; clear hK K
      refine wa_quiet 9 (by kernel_rfl) rfl HA29_.out (fun K hK => ?_); go_simp; refine hK _ ?_; clear hK K
      refine wa_quiet 11 (by kernel_rfl) rfl HA29_.out (fun K hK => ?_); go_simp; refine hK _ ?_; clear hK K
      refine wa_all [12] (by kernel_rfl) (by decide) (fun i hi => ?_)
      simp only [List.mem_cons, List.not_mem_nil, or_false] at hi
      subst hi
      refine wa_loud rfl (fun K hK => ?_)
      have HNEB : Hid (∀ q, (Value.slice p24_ n c25_).ownBlock = some q → ¬ q = w2.heap.size) := Lib.hid (fun q e h => by have := HO26_.out.lt q e; omega)
      have HBA := Lib.hid (HA30_.out.at HL8_.out)
      have HKC := Lib.hid (OwnB.kept' (HO26_.out.kept HA32_.out (fun _ _ x => x)) ((Keeps.refl (fun q => q = w2.heap.size) w23_).setRow (p := w2.heap.size) (Or.inl rfl) (cells8 (tagK (onceL KK) (boundL a (sealL KK m))))) (fun q e e2 => by have := HO26_.out.lt q e; omega)).sl
      have HRT := Lib.hid (row_heap (cs := cells8 (tagK (onceL KK) (boundL a (sealL KK m)))) HBA.out)
      have HA34_ : Hid (Fresh w (w23_.setRow (w2.heap.size) (cells8 (tagK (onceL KK) (boundL a (sealL KK m)))))) := Lib.hid (HA27_.out.setRow (Or.inr (by have := HF2.out.size; omega)) _)
      have HA35_ : Hid (Fresh w2 (w23_.setRow (w2.heap.size) (cells8 (tagK (onceL KK) (boundL a (sealL KK m)))))) := Lib.hid (HA28_.out.setRow (Or.inr (by have := HA1_.out.size; omega)) _)
      refine wpList_store_row rfl 27 (.tmp 14) (.tmp 32) rfl (w2.heap.size) (cells8 (tagK (onceL KK) (boundL a (sealL KK m)))) rfl rfl 27 _ HBA.out (by rw [HTL.out]; exact info16B) (by rw [HTL.out]; rfl) (cells8_one _) ?_
      refine wpList_nil (hK _ _ (HA29_.out.setRow (Or.inr (by omega)) _) ?_)
      clear hK K
      generalize w23_.setRow (w2.heap.size) (cells8 (tagK (onceL KK) (boundL a (sealL KK m)))) = w33_ at HKC HRT HA34_ HA35_ ⊢
      refine wa_done (by kernel_rfl) ?_
      go_wp2_with fail
      refine HK2.out _ _ ?_
      refine fo4_c _ w.heap.size (w2.heap.size) n _ _ _ _ _ _ key nonce a m long x KK _ _ _ _ _ _ _ _ _ _ _ _ _ _ _ _ _ _ _ _ _ _ _ _ _ _ _ _ _ _ _ _ _ _ _ _ _ _ _ _ _ _ _ _ _ _ _ _ _ _ _ _ _ _ _ _ _ _ _ _ _ _ _ _ _ _ _ _ _ _ _ _ _ _ _ _ w2 _ HKL.out HNL.out HKE.out HBK.out HBN.out (HBE.out.fresh HF2.out) (HMS.out.fresh HF2.out) HLA.out HE.out HWI.out.1 HA35_.out (by omega) HKC.out HNEB.out HRT.out ?_
      intro w' hf
      exact ⟨rfl, HF2.out.trans hf⟩
end
section
section
open Go Go.RowKit Go.ChangeShapes Go.WideShapes Go.ChangeAt
theorem own : ownKnob Try.prog.godebug = none := by kernel_rfl
theorem laidOut : laidOutB Try.prog = true := by kernel_rfl
theorem cellsByte : Try.prog.cellsOf 5 = 1 := by kernel_rfl
theorem bytesByte : Try.prog.bytesOf 5 = 1 := by kernel_rfl
theorem u8_ofInt {n : Int} (h : (Lit.int .u8 n).wf = true) : u8 (UInt8.ofNat n.toNat) = n := by
  have hx : 0 ≤ n ∧ n ≤ 255 := by simpa [Lit.wf, IntKind.min, IntKind.max, IntKind.signed, IntKind.bits] using h
  unfold u8
  rw [UInt8.toNat_ofNat']
  omega
/-- the bytes of a list of numbers -/
def bytesOfInts (zs : List Int) : List UInt8 := zs.map fun n => UInt8.ofNat n.toNat
/-- a slice of bytes that came in reads as bytes; its capacity is told by its datum -/
theorem open_bytes {H : Type} {enc : TypeId × Value → H} {W : World} {base : Nat} {held : Bool} {a : Option Addr} {n c : Nat} {d : DataW H} {p : List MemPlace}
    (h : DataW.Trod enc Try.prog W base (fun _ => true) held 24 (.slice a n c) d p) :
    ∃ l : List UInt8, SlB W (.slice a n c) l ∧ l.length = n ∧ ((n = 0 ∧ c = 0) ∨ ∃ elems spare, d = .slice elems spare ∧ elems.length + spare.length = c ∧ n ≤ c) := by
  obtain ⟨fuel, hf⟩ := h
  rcases open_ints Try.underlying24 Try.underlying5 cellsByte hf with ⟨hcs, _⟩ | ⟨x, l, cc, zs, hcs, _, hl, hm, hz, hx, hcell, hwz⟩
  · simp [Value.cells] at hcs
    obtain ⟨rfl, rfl, rfl⟩ := hcs
    exact ⟨[], SlB.nil W, rfl, Or.inl ⟨rfl, rfl⟩⟩
  · simp [Value.cells] at hcs
    obtain ⟨rfl, rfl, rfl⟩ := hcs
    have hz' : zs.length = c := by simpa using hz
    refine ⟨bytesOfInts (zs.take n), ?_, ?_, Or.inr ?_⟩
    · refine Or.inr ⟨x, c, ?_, ?_, hm, ?_⟩
      · simp [bytesOfInts, hz', Nat.min_eq_left hl]
      · simp [bytesOfInts]; omega
      · intro j u hu
        have hj : j < n := by
          have := (List.getElem?_eq_some_iff.1 hu).1
          rw [vals8_len] at this
          simp [bytesOfInts] at this
          omega
        rw [hcell j (by omega)]
        simp only [vals8, bytesOfInts, List.map_map, List.getElem?_map, List.getElem?_take, hj, if_true] at hu
        have hjz : j < zs.length := by omega
        rw [List.getElem?_eq_getElem hjz] at hu
        simp only [Option.map_some, Option.some.injEq, Function.comp] at hu
        rw [← hu, u8_ofInt (hwz _ (List.getElem_mem hjz))]
        simp [List.getD, List.getElem?_eq_getElem hjz]
    · simp [bytesOfInts, hz', Nat.min_eq_left hl]
    · simp only [Prod.mk.injEq] at hx
      obtain ⟨hd, _⟩ := hx
      exact ⟨_, _, hd, by simp [lits]; omega, hl⟩
end
section
open Go Go.RowKit Go.ChangeShapes Go.WideShapes Go.ChangeAt
/-- an array of bytes that came in -/
theorem open_arr {P : Program} {H : Type} {enc : TypeId × Value → H} {W : World} {base : Nat} {held : Bool} {T e8 : TypeId} {n : Nat} {v : Value} {d : DataW H} {p : List MemPlace}
    (hu : P.underlying T = some (.array n e8)) (h8 : P.underlying e8 = some (.int .u8)) (hce : P.cellsOf e8 = 1) (hc : P.cellsOf T = n) (hok : Value.okWide P W .any base T v)
    (h : DataW.Trod enc P W 0 (fun _ => true) held T v d p) : ∃ l : List UInt8, l.length = n ∧ v = .agg (cells8 l) := by
  obtain ⟨cs, rfl, hsz, _⟩ : ∃ cs, v = .agg cs ∧ cs.size = P.cellsOf T ∧ Row.okWide P W .any base T cs := by
    simpa [Value.okWide, hu] using hok
  rw [hc] at hsz
  obtain ⟨fuel, hf⟩ := h
  obtain ⟨xs, m, -, -, -, hxl, hx⟩ := DataW.trod_array hu hf
  have hcells : (Value.agg cs).cells.toList = cs.toList := rfl
  rw [hcells, hce] at hx
  have hcell : ∀ i, (hi : i < cs.toList.length) → ∃ z, cs.toList[i] = .int .u8 z ∧ (Lit.int .u8 z).wf = true := by
    intro i hi
    have hi' : i < n := by rw [← hsz]; simpa using hi
    have h1 := hx i hi'
    rw [Nat.mul_one, List.drop_eq_getElem_cons hi, List.take_succ_cons, List.take_zero, List.getElem?_eq_getElem (by omega)] at h1
    obtain ⟨x0, e0, -, w0⟩ := DataW.trod_int h8 h1
    simp only [List.cons.injEq, and_true] at e0
    exact ⟨x0, e0, w0⟩
  refine ⟨cs.toList.map fun c => match c with | .int _ z => UInt8.ofNat z.toNat | _ => 0, by simpa using hsz, ?_⟩
  congr 1
  unfold cells8
  rw [List.map_map]
  apply Array.toList_inj.1
  apply List.ext_getElem
  · simp
  · intro i h1 h2
    obtain ⟨z, e, hw⟩ := hcell i h1
    simp only [List.getElem_map, Function.comp, e]
    rw [u8_ofInt hw]
end
section
open Go Go.RowKit Go.ChangeShapes Go.WideShapes Go.ChangeAt
theorem open_u8 {P : Program} {H : Type} {enc : TypeId × Value → H} {W : World} {base base' : Nat} {sp : Nat → Bool} {held : Bool} {T : TypeId} {v : Value} {d : DataW H} {p : List MemPlace} (hu : P.underlying T = some (.int .u8))
    (h : DataW.Trod enc P W base' sp held T v d p) (hok : Value.okWide P W .any base T v) : ∃ x : UInt8, v = .int .u8 (u8 x) := by
  obtain ⟨n, rfl, -, -, hw⟩ := open_int hu hok h
  exact ⟨UInt8.ofNat n.toNat, by rw [u8_ofInt hw]⟩
theorem u32_ofInt {n : Int} (h : (Lit.int .u32 n).wf = true) : u32 (UInt32.ofNat n.toNat) = n := by
  have hx : 0 ≤ n ∧ n ≤ 4294967295 := by simpa [Lit.wf, IntKind.min, IntKind.max, IntKind.signed, IntKind.bits] using h
  unfold u32
  rw [UInt32.toNat_ofNat']
  omega
theorem open_u32 {P : Program} {H : Type} {enc : TypeId × Value → H} {W : World} {base base' : Nat} {sp : Nat → Bool} {held : Bool} {T : TypeId} {v : Value} {d : DataW H} {p : List MemPlace} (hu : P.underlying T = some (.int .u32))
    (h : DataW.Trod enc P W base' sp held T v d p) (hok : Value.okWide P W .any base T v) : ∃ x : UInt32, v = .int .u32 (u32 x) := by
  obtain ⟨n, rfl, -, -, hw⟩ := open_int hu hok h
  exact ⟨UInt32.ofNat n.toNat, by rw [u32_ofInt hw]⟩
end
end
end Go.Proofs.Ytlafnkcmdnfcpaa
