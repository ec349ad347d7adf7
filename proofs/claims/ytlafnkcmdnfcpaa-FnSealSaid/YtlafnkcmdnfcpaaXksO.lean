/-
  XORKeyStream: the counter that would overflow; whole blocks and the tail.
-/
import Derived.Test.YtlafnkcmdnfcpaaXksF
import Derived.BigQuiet
import Derived.Deep.QuietTactic
import Derived.Deep.CutRange
namespace Go.Proofs.Ytlafnkcmdnfcpaa
open Go Go.RowKit
set_option linter.unusedVariables false
attribute [local irreducible] Cha.iter Cha.rounds Cha.dbl Cha.qr tailBuf

set_option maxRecDepth 1000000 in
set_option maxHeartbeats 40000000 in
theorem xks5_c (Q : Exit → Act → World → Prop) (K : CK) (b bd od bs os n cd cs q : Nat) (hd tl : List Value) (D s : List UInt8) (buf : List UInt8) (ovf pre : Bool) (p : List UInt32) (r3 r4 r5 r6 r7 r8 r9 r10 r11 r12 r13 r14 r15 r16 r17 r18 r19 r20 r21 r22 r23 r24 r25 r26 r27 r28 r29 r30 r31 r32 r33 r34 r35 r36 r37 r38 r39 r40 r41 r42 r43 r44 r45 r46 r47 r48 r49 r50 r51 r52 r53 r54 r55 r56 r57 r58 r59 r60 r61 r62 r63 r64 r65 r66 r67 r68 r69 r70 r71 r72 r73 r74 r75 r76 r77 r78 r79 r80 r81 r82 r83 r84 r85 r86 r87 r88 r89 r90 r91 r92 r93 r94 r95 r96 r97 r98 r99 r100 r101 r102 r103 r104 r105 r106 r107 r108 r109 r110 r111 r112 r113 r114 r115 r116 r117 r118 r119 r120 r121 r122 r123 r124 r125 r126 r127 r128 r129 r130 r131 r132 r133 r134 r135 r136 r137 r138 r139 r140 r141 r142 r143 r144 r145 r146 r147 r148 r149 r150 r151 r152 r153 r154 r155 r156 r157 r158 r159 r160 r161 r162 r163 r164 r165 r166 r167 r168 r169 r170 r171 r172 r173 r174 r175 r176 r177 r178 r179 r180 r181 r182 r183 r184 r185 r186 r187 r188 r189 r190 r191 r192 r193 r194 r195 r196 r197 r198 r199 r200 r201 r202 r203 r204 r205 r206 r207 r208 r209 r210 r211 r212 r213 r214 r215 r216 r217 : Value) (w : World)
    (hc : CipB w b K (UInt32.ofNat q) buf 0 ovf pre p) (hbl : buf.length = 64) (hp : p.length = 12) (hpp : pre = true → p = K.pre) (hne : b ≠ bd) (hnb : bs ≠ b) (hD : DstB w bd hd tl D) (hod : od = hd.length) (hDl : D.length = n) (hsl : s.length = n) (hS : SrcR w bd od bs os D s) (hcd : n ≤ cd) (hcs : n ≤ cs) (hcm : cs ≤ maxLen) (h0 : 0 < n) (hn : n ≤ 140737488355328)
    (hq : q ≤ 4294967296) (hov : ovf = decide (q = 4294967296))
    (h : ¬ endK < 64 * q + n → ∀ a w', a.defers = [] → XR K w b bd hd tl (64 * q) s w' → Q .normal a w')
    (hpan : endK < 64 * q + n → ∀ (a : Act) (x : Value), a.defers = [] → Q (.panic [{ v := .iface 9 x, recovered := false }]) a w) : Code.wp Try.prog xks5 Q ⟨#[.pointer (some ⟨b, 0, none⟩), .slice (some ⟨bd, od, none⟩) n cd, .slice (some ⟨bs, os, none⟩) n cs, r3, r4, r5, r6, r7, r8, r9, r10, r11, r12, r13, r14, r15, r16, r17, r18, r19, r20, r21, r22, r23, r24, r25, r26, r27, r28, r29, r30, r31, r32, r33, r34, r35, r36, r37, r38, r39, r40, r41, r42, r43, r44, r45, r46, r47, r48, r49, r50, r51, r52, r53, r54, r55, r56, r57, r58, r59, r60, r61, r62, r63, r64, r65, r66, r67, r68, r69, r70, r71, r72, r73, r74, r75, r76, r77, r78, r79, r80, r81, r82, r83, r84, r85, r86, r87, r88, r89, r90, r91, r92, r93, r94, r95, r96, r97, r98, r99, r100, r101, r102, r103, r104, r105, r106, r107, r108, r109, r110, r111, r112, r113, r114, r115, r116, r117, r118, r119, r120, r121, r122, r123, r124, r125, r126, r127, r128, r129, r130, r131, r132, r133, r134, r135, r136, r137, r138, r139, r140, r141, r142, r143, r144, r145, r146, r147, r148, r149, r150, r151, r152, r153, r154, r155, r156, r157, r158, r159, r160, r161, r162, r163, r164, r165, r166, r167, r168, r169, r170, r171, r172, r173, r174, r175, r176, r177, r178, r179, r180, r181, r182, r183, r184, r185, r186, r187, r188, r189, r190, r191, r192, r193, r194, r195, r196, r197, r198, r199, r200, r201, r202, r203, r204, r205, r206, r207, r208, r209, r210, r211, r212, r213, r214, r215, r216, r217], []⟩ w := by
  conv => arg 2; whnf
  dsimp only
  obtain ⟨nb, hnb0⟩ : ∃ nb, nb = (n + 63) / 64 := ⟨_, rfl⟩
  have hend : endK = 274877906944 := rfl
  have w1 : IntKind.u64.wrap (n : Int) = (n : Int) := by rw [IntKind.wrap_u64]; omega
  have w2 : IntKind.u64.wrap ((n : Int) + 64) = (n : Int) + 64 := by rw [IntKind.wrap_u64]; omega
  have w3 : IntKind.u64.wrap ((n : Int) + 64 - 1) = (n : Int) + 64 - 1 := by rw [IntKind.wrap_u64]; omega
  have w4 : ((n : Int) + 64 - 1).tdiv 64 = (nb : Int) := by rw [Int.tdiv_eq_ediv_of_nonneg (by omega)]; omega
  have w5 : IntKind.u64.wrap (nb : Int) = (nb : Int) := by rw [IntKind.wrap_u64]; omega
  have c8 : w.cell? ⟨b, 8, none⟩ = some (.int .u32 (u32 (UInt32.ofNat q))) := by rw [hc.cell]; rfl
  have c77 : w.cell? ⟨b, 77, none⟩ = some (.bool ovf) := by rw [hc.cell, crow_77 hbl]
  have f77 := hc.free 77
  have HC := Lib.hid hc
  have HBL := Lib.hid hbl
  have HP := Lib.hid hp
  have HPP := Lib.hid hpp
  have HPAN := Lib.hid hpan
  clear hc hbl hp hpp hpan
  have HNE := Lib.hid hne
  have HNB := Lib.hid hnb
  have HD := Lib.hid hD
  have HOD := Lib.hid hod
  have HDL := Lib.hid hDl
  have HSL := Lib.hid hsl
  have HS := Lib.hid hS
  have HCM := Lib.hid hcm
  have HH := Lib.hid h
  clear hne hnb hD hod hDl hsl hS hcm h
  refine wp_seq_hold (fun K1 HK1 => ?_)
  go_wp2_with fail
  refine HK1.out _ _ ?_
  clear HK1 K1
  by_cases hqe : q = 4294967296
  · have hot : ovf = true := by rw [hov, hqe]; rfl
    subst hot
    have HPX := Lib.hid (HPAN.out (by omega))
    clear hqe hov
    refine wp_seq_hold (fun K1 HK1 => ?_)
    go_wp2_with fail
    exact HPX.out _ _ rfl
  · have hof : ovf = false := by rw [hov]; exact decide_eq_false hqe
    subst hof
    have hcq : u32 (UInt32.ofNat q) = (q : Int) := u32_q (by omega)
    rw [hcq] at c8
    have w6 : IntKind.u64.wrap (q : Int) = (q : Int) := by rw [IntKind.wrap_u64]; omega
    have w7 : IntKind.u64.wrap ((q : Int) + ((n : Int) + 63) / 64) = (q : Int) + ((n : Int) + 63) / 64 := by rw [IntKind.wrap_u64]; omega
    by_cases hbig : 4294967296 < q + nb
    · have HPX := Lib.hid (HPAN.out (by omega))
      have hb1 : (4294967296 : Int) < (q : Int) + ((n : Int) + 63) / 64 := by omega
      clear hqe hov hbig
      refine wp_seq_hold (fun K1 HK1 => ?_)
      go_wp2_with fail
      exact HPX.out _ _ rfl
    · have hb1 : ¬ (4294967296 : Int) < (q : Int) + ((n : Int) + 63) / 64 := by omega
      have HX := Lib.hid (HH.out (by omega))
      have hnm : n = 64 * (n / 64) + n % 64 := by omega
      by_cases heq : q + nb = 4294967296
      · have hb2 : (q : Int) + ((n : Int) + 63) / 64 = 4294967296 := by omega
        have HOV : Hid (true = decide (q + (n + 63) / 64 = 4294967296)) := Lib.hid (by rw [← hnb0]; exact (decide_eq_true heq).symm)
        have HQ : Hid (q + (n + 63) / 64 ≤ 4294967296) := Lib.hid (by omega)
        have HNM := Lib.hid hnm
        clear hqe hov hbig hnm heq hb1 hnb0
        refine wp_seq_hold (fun K1 HK1 => ?_)
        go_wp2_with fail
        refine HK1.out _ _ ?_
        have HK := Lib.hid ((Keeps.refl (fun k => k = b) w).own (i := 77) (.bool true))
        refine xks7_c Q K b bd od bs os n cd cs (n / 64) (64 * (n / 64)) (n % 64) q hd tl D s buf 0 true pre p _ _ _ _ _ _ _ _ _ _ _ _ _ _ _ _ _ _ _ _ _ _ _ _ _ _ _ _ _ _ _ _ _ _ _ _ _ _ _ _ _ _ _ _ _ _ _ _ _ _ _ _ _ _ _ _ _ _ _ _ _ _ _ _ _ _ _ _ _ _ _ _ _ _ _ _ _ _ _ _ _ _ _ _ _ _ _ _ _ _ _ _ _ _ _ _ _ _ _ _ _ _ _ _ _ _ _ _ _ _ _ _ _ _ _ _ _ _ _ _ _ _ _ _ _ _ _ _ _ _ _ _ _ _ _ _ _ _ _ _ _ _ _ _ _ _ _ _ _ _ _ _ _ _ _ _ _ _ _ _ _ _ _ _ _ _ _ _ _ _ _ _ _ _ _ _ _ _ _ _ _ _ _ _ _ _ _ _ _ _ _ _ _ _ _ _ _ _ _ _ _ _ _ _ _ _ _ _ _ _ _ _ _ _ _ _ (HC.out.set77 HBL.out true) HBL.out HP.out HPP.out HNE.out HNB.out (HD.out.keeps HK.out (fun e => HNE.out e.symm)) HOD.out HDL.out HSL.out ?_ hcd hcs HCM.out h0 rfl HNM.out (Nat.mod_lt _ (by decide)) HQ.out HOV.out ?_
        · have := SrcR.rest (k := 0) HS.out HNB.out (HK.out.mono (T := fun k => k = b ∨ k = bd) (fun _ _ e => Or.inl e))
          simpa using this
        · intro a w2 ha hx
          exact HX.out a w2 ha ⟨hx.1, hx.2.1, (HK.out.mono (fun _ _ e => Or.inl e)).trans hx.2.2⟩
      · have hb2 : ¬ (q : Int) + ((n : Int) + 63) / 64 = 4294967296 := by omega
        have HOV : Hid (false = decide (q + (n + 63) / 64 = 4294967296)) := Lib.hid (by rw [← hnb0]; exact (decide_eq_false heq).symm)
        have HQ : Hid (q + (n + 63) / 64 ≤ 4294967296) := Lib.hid (by omega)
        have HNM := Lib.hid hnm
        clear hqe hov hbig hnm heq hnb0
        refine wp_seq_hold (fun K1 HK1 => ?_)
        go_wp2_with fail
        refine HK1.out _ _ ?_
        exact xks7_c Q K b bd od bs os n cd cs (n / 64) (64 * (n / 64)) (n % 64) q hd tl D s buf 0 false pre p _ _ _ _ _ _ _ _ _ _ _ _ _ _ _ _ _ _ _ _ _ _ _ _ _ _ _ _ _ _ _ _ _ _ _ _ _ _ _ _ _ _ _ _ _ _ _ _ _ _ _ _ _ _ _ _ _ _ _ _ _ _ _ _ _ _ _ _ _ _ _ _ _ _ _ _ _ _ _ _ _ _ _ _ _ _ _ _ _ _ _ _ _ _ _ _ _ _ _ _ _ _ _ _ _ _ _ _ _ _ _ _ _ _ _ _ _ _ _ _ _ _ _ _ _ _ _ _ _ _ _ _ _ _ _ _ _ _ _ _ _ _ _ _ _ _ _ _ _ _ _ _ _ _ _ _ _ _ _ _ _ _ _ _ _ _ _ _ _ _ _ _ _ _ _ _ _ _ _ _ _ _ _ _ _ _ _ _ _ _ _ _ _ _ _ _ _ _ _ _ _ _ _ _ _ _ _ _ _ _ _ _ _ _ _ _ HC.out HBL.out HP.out HPP.out HNE.out HNB.out HD.out HOD.out HDL.out HSL.out HS.out hcd hcs HCM.out h0 rfl HNM.out (Nat.mod_lt _ (by decide)) HQ.out HOV.out HX.out
end Go.Proofs.Ytlafnkcmdnfcpaa
