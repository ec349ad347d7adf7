/-
  The walk of laws.FnLess.
-/
import Derived.Test.YtaapglpnofmmlaaLess5
import Derived.Deep.QuietTactic
namespace Go.Proofs.Ytaapglpnofmmlaa
open Go Go.RowKit
set_option linter.unusedVariables false
attribute [local irreducible] Cha.iter Cha.rounds Cha.dbl Cha.qr ckOf run doA doN CK.ks withinB xs
set_option maxRecDepth 100000 in
set_option maxHeartbeats 4000000 in
theorem fnLess_c (key nonce : List UInt8) (long : Bool) (c b2 : UInt32) (b x : UInt8) (w : World) (hk : key.length = 32) (hnl : nonce.length = 24) :
    Calls Try.prog 10 #[.agg (cells8 key), .agg (cells8 nonce), .bool long, .int .u32 (u32 c), .int .u8 (u8 b), .int .u32 (u32 b2), .int .u8 (u8 x)] w fun e w' => e = .returned (.bool true) ∧ Fresh w w' := by
  have HKL := Lib.hid hk
  have HNL := Lib.hid hnl
  have h1 := cells8_one key
  have h2 := cells8_one nonce
  clear hk hnl
  obtain ⟨N, hN⟩ : ∃ N, N = c.toNat + b.toNat := ⟨_, rfl⟩
  have hc := c.toNat_lt
  have hb := b.toNat_lt
  have hb2 := b2.toNat_lt
  have e0 : u32 c + u8 b = (N : Int) := by unfold u32 u8; omega
  have e2 : IntKind.i64.wrap (u32 c) = u32 c := by unfold u32; rw [IntKind.wrap_i64]; omega
  have e3 : IntKind.i64.wrap (u8 b) = u8 b := by unfold u8; rw [IntKind.wrap_i64]; omega
  have e4 : IntKind.i64.wrap (u32 b2) = u32 b2 := by unfold u32; rw [IntKind.wrap_i64]; omega
  have e1 : IntKind.i64.wrap (N : Int) = (N : Int) := by rw [IntKind.wrap_i64]; omega
  have HN := Lib.hid hN
  go_enter Try.func10, Try.ntmps10
  refine wp_seq_hold (fun K0 HK0 => ?_)
  go_wp2_with fail
  have HBK := Lib.hid (heap_alloc2_old w (.cells (cells8 key) 27) (.cells (cells8 nonce) 28))
  have HBN := Lib.hid (heap_alloc2_new w (.cells (cells8 key) 27) (.cells (cells8 nonce) 28))
  have HF2 : Hid (Fresh w ((w.alloc (.cells (cells8 key) 27)).alloc (.cells (cells8 nonce) 28))) := Lib.hid (((Keeps.refl _ w).alloc _).alloc _)
  generalize ((w.alloc (.cells (cells8 key) 27)).alloc (.cells (cells8 nonce) 28)) = w2 at HBK HBN HF2 ⊢
  refine HK0.out _ _ ?_
  clear HK0
  refine wp_seq_hold (fun K1 HK1 => ?_)
  clear hc hb hN
  go_wp2_with fail
  refine HK1.out _ _ ?_
  clear HK1
  by_cases hz : N = 0
  · subst hz
    go_wp2_with fail
    go_ret
    exact ⟨rfl, HF2.out⟩
  have z1 : ¬ (N : Int) = 0 := by omega
  by_cases hbig : 4294967296 ≤ N
  · have z2 : (4294967296 : Int) ≤ N := by omega
    go_wp2_with fail
    go_ret
    exact ⟨rfl, HF2.out⟩
  have z2 : ¬ (4294967296 : Int) ≤ N := by omega
  obtain ⟨M, hM⟩ : ∃ M, N = M + 1 := ⟨N - 1, by omega⟩
  have f0 : (N : Int) - 1 = (M : Int) := by omega
  have f1 : IntKind.i64.wrap (M : Int) = (M : Int) := by rw [IntKind.wrap_i64]; omega
  have f2 : IntKind.i64.wrap ((M : Int) - u32 b2) = (M : Int) - u32 b2 := by rw [IntKind.wrap_i64]; unfold u32; omega
  obtain ⟨d, hd⟩ : ∃ d : UInt32, d = UInt32.ofNat (M - b2.toNat) := ⟨_, rfl⟩
  have hdn : d.toNat = M - b2.toNat := by rw [hd, UInt32.toNat_ofNat']; omega
  have HD : Hid (c.toNat + b.toNat ≤ 4294967295 ∧ d.toNat < c.toNat + b.toNat) := Lib.hid (by rw [← HN.out]; omega)
  have f5 : IntKind.u32.wrap (u32 d) = u32 d := by unfold u32; rw [IntKind.wrap_u32]; have := d.toNat_lt; omega
  have HSEG : Hid (∀ (r0 r1 r5 r9 r10 r11 r12 r13 r14 r15 r17 r18 r19 r20 r21 r22 r23 r24 r25 r26 r27 r28 r29 r30 r31 r32 r33 r34 r35 r36 r37 r38 r39 r40 r41 r42 r43 r44 r45 r46 r47 r48 r49 r50 r51 r52 r53 r54 r55 r56 r57 r58 r59 r60 r61 r62 r63 r64 r65 r66 r67 r68 r69 r70 r71 r72 r73 r74 r75 r76 r77 r78 r79 r80 r81 r82 r83 r84 r85 r86 r87 r88 r89 r90 r91 r92 : Value), Code.wp Try.prog ls5 (bodyPost Try.prog Try.f10 (fun e w' => e = .returned (.bool true) ∧ Fresh w w')) ⟨#[r0, r1, .bool long, .int .u32 (u32 c), .int .u8 (u8 b), r5, .int .u8 (u8 x), .pointer (some ⟨w.heap.size, 0, none⟩), .pointer (some ⟨w.heap.size + 1, 0, none⟩), r9, r10, r11, r12, r13, r14, r15, .int .u32 (u32 d), r17, r18, r19, r20, r21, r22, r23, r24, r25, r26, r27, r28, r29, r30, r31, r32, r33, r34, r35, r36, r37, r38, r39, r40, r41, r42, r43, r44, r45, r46, r47, r48, r49, r50, r51, r52, r53, r54, r55, r56, r57, r58, r59, r60, r61, r62, r63, r64, r65, r66, r67, r68, r69, r70, r71, r72, r73, r74, r75, r76, r77, r78, r79, r80, r81, r82, r83, r84, r85, r86, r87, r88, r89, r90, r91, r92], []⟩ w2) := Lib.hid (by
    intros
    exact ls5_c _ w.heap.size key nonce long c d b x _ _ _ _ _ _ _ _ _ _ _ _ _ _ _ _ _ _ _ _ _ _ _ _ _ _ _ _ _ _ _ _ _ _ _ _ _ _ _ _ _ _ _ _ _ _ _ _ _ _ _ _ _ _ _ _ _ _ _ _ _ _ _ _ _ _ _ _ _ _ _ _ _ _ _ _ _ _ _ _ _ _ _ _ _ _ w2 HKL.out HNL.out HBK.out HBN.out HD.out.1 HD.out.2 (fun w' hf => ⟨rfl, HF2.out.trans hf⟩))
  clear hM hz hbig hd
  by_cases hle : b2.toNat ≤ M
  · obtain ⟨D, hD⟩ : ∃ D : Nat, D = M - b2.toNat := ⟨_, rfl⟩
    have f3 : (M : Int) - u32 b2 = (D : Int) := by unfold u32; omega
    have f8 : IntKind.i64.wrap (D : Int) = (D : Int) := by rw [IntKind.wrap_i64]; omega
    have f9 : IntKind.u32.wrap (D : Int) = u32 d := by unfold u32; rw [IntKind.wrap_u32]; omega
    clear hle hdn hb2 hD f2 f5
    refine wp_seq_hold (fun K2 HK2 => ?_)
    go_wp2_with fail
    refine HK2.out _ _ ?_
    clear HK2
    refine wp_seq_hold (fun K3 HK3 => ?_)
    go_wp2_with fail
    refine HK3.out _ _ ?_
    exact HSEG.out _ _ _ _ _ _ _ _ _ _ _ _ _ _ _ _ _ _ _ _ _ _ _ _ _ _ _ _ _ _ _ _ _ _ _ _ _ _ _ _ _ _ _ _ _ _ _ _ _ _ _ _ _ _ _ _ _ _ _ _ _ _ _ _ _ _ _ _ _ _ _ _ _ _ _ _ _ _ _ _ _ _ _ _ _ _
  · have f3 : (M : Int) - u32 b2 < 0 := by unfold u32; omega
    have f4 : ¬ (0 : Int) ≤ (M : Int) - u32 b2 := by omega
    have f6 : (0 : Int) = u32 d := by unfold u32; omega
    clear hle hdn hb2
    refine wp_seq_hold (fun K2 HK2 => ?_)
    go_wp2_with fail
    refine HK2.out _ _ ?_
    clear HK2
    refine wp_seq_hold (fun K3 HK3 => ?_)
    go_wp2_with fail
    refine HK3.out _ _ ?_
    exact HSEG.out _ _ _ _ _ _ _ _ _ _ _ _ _ _ _ _ _ _ _ _ _ _ _ _ _ _ _ _ _ _ _ _ _ _ _ _ _ _ _ _ _ _ _ _ _ _ _ _ _ _ _ _ _ _ _ _ _ _ _ _ _ _ _ _ _ _ _ _ _ _ _ _ _ _ _ _ _ _ _ _ _ _ _ _ _ _
end Go.Proofs.Ytaapglpnofmmlaa
