/-
  XORKeyStream: its tail, what is not a whole block.
-/
import Derived.Test.YtlafnkcmdnfcpaaXksP
import Derived.BigQuiet
import Derived.Deep.QuietTactic
namespace Go.Proofs.Ytlafnkcmdnfcpaa
open Go Go.RowKit
set_option linter.unusedVariables false
attribute [local irreducible] Cha.iter Cha.rounds Cha.dbl Cha.qr tailBuf

noncomputable def xksBody : Code := Try.f53.body.getD .skip
noncomputable def xks3 : Code := rgt (rgt (rgt xksBody))
noncomputable def xks5 : Code := rgt (rgt xks3)
noncomputable def xks7 : Code := rgt (rgt xks5)
noncomputable def xks10 : Code := rgt (rgt (rgt xks7))
set_option maxRecDepth 1000000 in
set_option maxHeartbeats 40000000 in
theorem xks10_none (Q : Exit → Act → World → Prop) (b : Nat) (c : UInt32) (p1 p2 : Option Addr) (c1 c2 : Nat) (r3 r4 r5 r6 r7 r8 r9 r10 r11 r12 r13 r14 r15 r16 r17 r18 r19 r20 r21 r22 r23 r24 r25 r26 r27 r28 r29 r30 r31 r32 r33 r34 r35 r36 r37 r38 r39 r40 r41 r42 r43 r44 r45 r46 r47 r48 r49 r50 r51 r52 r53 r54 r55 r56 r57 r58 r59 r60 r61 r62 r63 r64 r65 r66 r67 r68 r69 r70 r71 r72 r73 r74 r75 r76 r77 r78 r79 r80 r81 r82 r83 r84 r85 r86 r87 r88 r89 r90 r91 r92 r93 r94 r95 r96 r97 r98 r99 r100 r101 r102 r103 r104 r105 r106 r107 r108 r109 r110 r111 r112 r113 r114 r115 r116 r117 r118 r119 r120 r121 r122 r123 r124 r125 r126 r127 r128 r129 r130 r131 r132 r133 r134 r135 r136 r137 r138 r139 r140 r141 r142 r143 r144 r145 r146 r147 r148 r149 r150 r151 r152 r153 r154 r155 r156 r157 r158 r159 r160 r161 r162 r163 r164 r165 r166 r167 r168 r169 r170 r171 r172 r173 r174 r175 r176 r177 r178 r179 r180 r181 r182 r183 r184 r185 r186 r187 r188 r189 r190 r191 r192 r193 r194 r195 r196 r197 r198 r199 r200 r201 r202 r203 r204 r205 r206 r207 r208 r209 r210 r211 r212 r213 r214 r215 r216 r217 : Value) (w : World) (c8 : w.cell? ⟨b, 8, none⟩ = some (.int .u32 (u32 c)))
    (h : ∀ a, a.defers = [] → Q .normal a w) : Code.wp Try.prog xks10 Q ⟨#[.pointer (some ⟨b, 0, none⟩), .slice p1 0 c1, .slice p2 0 c2, r3, r4, r5, r6, r7, r8, r9, r10, r11, r12, r13, r14, r15, r16, r17, r18, r19, r20, r21, r22, r23, r24, r25, r26, r27, r28, r29, r30, r31, r32, r33, r34, r35, r36, r37, r38, r39, r40, r41, r42, r43, r44, r45, r46, r47, r48, r49, r50, r51, r52, r53, r54, r55, r56, r57, r58, r59, r60, r61, r62, r63, r64, r65, r66, r67, r68, r69, r70, r71, r72, r73, r74, r75, r76, r77, r78, r79, r80, r81, r82, r83, r84, r85, r86, r87, r88, r89, r90, r91, r92, r93, r94, r95, r96, r97, r98, r99, r100, r101, r102, r103, r104, r105, r106, r107, r108, r109, r110, r111, r112, r113, r114, r115, r116, r117, r118, r119, r120, r121, r122, r123, r124, r125, r126, r127, r128, r129, r130, r131, r132, r133, r134, r135, r136, r137, r138, r139, r140, r141, r142, r143, r144, r145, r146, r147, r148, r149, r150, r151, r152, r153, r154, r155, r156, r157, r158, r159, r160, r161, r162, r163, r164, r165, r166, r167, r168, r169, r170, r171, r172, r173, r174, r175, r176, r177, r178, r179, r180, r181, r182, r183, r184, r185, r186, r187, r188, r189, r190, r191, r192, r193, r194, r195, r196, r197, r198, r199, r200, r201, r202, r203, r204, r205, r206, r207, r208, r209, r210, r211, r212, r213, r214, r215, r216, r217], []⟩ w := by
  conv => arg 2; whnf
  dsimp only
  have e1 := wrap_u64_u32 c
  have e2 := wrap_u64_inc c
  have e3 := u32_nonneg c
  have e4 := u32_lt c
  have e5 : ¬ (4294967296 : Int) < u32 c + 1 := by omega
  have HH := Lib.hid h
  clear h
  go_wp2_with fail
  exact HH.out _ rfl
/-- what the tail leaves -/
structure TailR (K : CK) (w : World) (b bd : Nat) (hd tl : List Value) (c : UInt32) (s : List UInt8) (ovf : Bool) (w' : World) : Prop where
  dst : DstB w' bd hd tl (xs (K.from c) s)
  cip : CipB w' b K (c + 1) (tailBuf (K.from c) s) (64 - s.length) ovf true K.pre
  keeps : Keeps (fun q => q = b ∨ q = bd) w w'
set_option maxRecDepth 1000000 in
set_option maxHeartbeats 40000000 in
theorem xks10_some (Q : Exit → Act → World → Prop) (K : CK) (b bd od bs os n cd cs : Nat) (hd tl : List Value) (D s : List UInt8) (c : UInt32) (buf : List UInt8) (len : Nat) (ovf pre : Bool) (p : List UInt32) (r3 r4 r5 r6 r7 r8 r9 r10 r11 r12 r13 r14 r15 r16 r17 r18 r19 r20 r21 r22 r23 r24 r25 r26 r27 r28 r29 r30 r31 r32 r33 r34 r35 r36 r37 r38 r39 r40 r41 r42 r43 r44 r45 r46 r47 r48 r49 r50 r51 r52 r53 r54 r55 r56 r57 r58 r59 r60 r61 r62 r63 r64 r65 r66 r67 r68 r69 r70 r71 r72 r73 r74 r75 r76 r77 r78 r79 r80 r81 r82 r83 r84 r85 r86 r87 r88 r89 r90 r91 r92 r93 r94 r95 r96 r97 r98 r99 r100 r101 r102 r103 r104 r105 r106 r107 r108 r109 r110 r111 r112 r113 r114 r115 r116 r117 r118 r119 r120 r121 r122 r123 r124 r125 r126 r127 r128 r129 r130 r131 r132 r133 r134 r135 r136 r137 r138 r139 r140 r141 r142 r143 r144 r145 r146 r147 r148 r149 r150 r151 r152 r153 r154 r155 r156 r157 r158 r159 r160 r161 r162 r163 r164 r165 r166 r167 r168 r169 r170 r171 r172 r173 r174 r175 r176 r177 r178 r179 r180 r181 r182 r183 r184 r185 r186 r187 r188 r189 r190 r191 r192 r193 r194 r195 r196 r197 r198 r199 r200 r201 r202 r203 r204 r205 r206 r207 r208 r209 r210 r211 r212 r213 r214 r215 r216 r217 : Value) (w : World)
    (hc : CipB w b K c buf len ovf pre p) (hbl : buf.length = 64) (hp : p.length = 12) (hpp : pre = true → p = K.pre) (hne : b ≠ bd) (hnb : bs ≠ b) (hD : DstB w bd hd tl D) (hod : od = hd.length) (hDl : D.length = n) (hsl : s.length = n) (hS : SrcR w bd od bs os D s) (hcd : n ≤ cd) (hcs : n ≤ cs) (hcm : cs ≤ maxLen) (h0 : 0 < n) (h64 : n < 64)
    (h : ∀ a w', a.defers = [] → TailR K w b bd hd tl c s ovf w' → Q .normal a w') : Code.wp Try.prog xks10 Q ⟨#[.pointer (some ⟨b, 0, none⟩), .slice (some ⟨bd, od, none⟩) n cd, .slice (some ⟨bs, os, none⟩) n cs, r3, r4, r5, r6, r7, r8, r9, r10, r11, r12, r13, r14, r15, r16, r17, r18, r19, r20, r21, r22, r23, r24, r25, r26, r27, r28, r29, r30, r31, r32, r33, r34, r35, r36, r37, r38, r39, r40, r41, r42, r43, r44, r45, r46, r47, r48, r49, r50, r51, r52, r53, r54, r55, r56, r57, r58, r59, r60, r61, r62, r63, r64, r65, r66, r67, r68, r69, r70, r71, r72, r73, r74, r75, r76, r77, r78, r79, r80, r81, r82, r83, r84, r85, r86, r87, r88, r89, r90, r91, r92, r93, r94, r95, r96, r97, r98, r99, r100, r101, r102, r103, r104, r105, r106, r107, r108, r109, r110, r111, r112, r113, r114, r115, r116, r117, r118, r119, r120, r121, r122, r123, r124, r125, r126, r127, r128, r129, r130, r131, r132, r133, r134, r135, r136, r137, r138, r139, r140, r141, r142, r143, r144, r145, r146, r147, r148, r149, r150, r151, r152, r153, r154, r155, r156, r157, r158, r159, r160, r161, r162, r163, r164, r165, r166, r167, r168, r169, r170, r171, r172, r173, r174, r175, r176, r177, r178, r179, r180, r181, r182, r183, r184, r185, r186, r187, r188, r189, r190, r191, r192, r193, r194, r195, r196, r197, r198, r199, r200, r201, r202, r203, r204, r205, r206, r207, r208, r209, r210, r211, r212, r213, r214, r215, r216, r217], []⟩ w := by
  conv => arg 2; whnf
  dsimp only
  have c8 : w.cell? ⟨b, 8, none⟩ = some (.int .u32 (u32 c)) := by rw [hc.cell]; rfl
  have e1 := wrap_u64_u32 c
  have e2 := wrap_u64_inc c
  have e3 := u32_nonneg c
  have e4 := u32_lt c
  have e5 : ¬ (4294967296 : Int) < u32 c + 1 := by omega
  have g0 : (0 : Int) < (n : Int) := by omega
  have HC := Lib.hid hc
  have HBL := Lib.hid hbl
  have HP := Lib.hid hp
  have HPP := Lib.hid hpp
  have HSB : Hid (BytesAt w bs os s) := Lib.hid (by subst hod; exact hS.bytes hD)
  have hln : s.length ≤ 64 := by omega
  have HLN := Lib.hid hln
  have HCS := Lib.hid hcs
  have HCD := Lib.hid hcd
  clear hc hbl hp hpp hln hcs hcd
  have HNE := Lib.hid hne
  have HNB := Lib.hid hnb
  have HD := Lib.hid hD
  have HOD := Lib.hid hod
  have HDL := Lib.hid hDl
  have HSL := Lib.hid hsl
  have HS := Lib.hid hS
  have HCM := Lib.hid hcm
  have HH := Lib.hid h
  clear hne hnb hD hod hDl hsl hS hcm h
  have HSX : Hid (∀ w1, Keeps (fun q => q = b) w w1 → SlB w1 (.slice (some ⟨bs, os, none⟩) n cs) s) := Lib.hid (fun w1 hk => by
    have := HSL.out
    subst this
    exact SlB.of HCS.out HCM.out (HSB.out.keeps hk HNB.out))
  go_wp2_with (first
    | (refine wpList_zeroBuf rfl (.tmp 191) (.tmp 189) rfl rfl rfl HC.out HBL.out ?_; intro w1 HC1 HK1; have HS1 := Lib.hid (HSX.out _ HK1.out))
    | (refine wpList_copyB rfl (.tmp 195) (.tmp 196) 24 24 rfl 5 (by kernel_rfl) (by kernel_rfl) b 12 64 64 _ s rfl rfl HS1.out (crow K c (List.replicate 64 0) len ovf pre p) TC HC1.out (by rw [crow_len (by simp) HP.out]; omega) ?_; intro w2 HG2 HK2))
  have HC2 : Hid (CipB w2 b K c (s ++ List.replicate (64 - s.length) 0) len ovf pre p) := Lib.hid (by
    have e := HG2.out
    rw [List.take_of_length_le HLN.out, crow_splice (by rw [List.length_replicate]; exact HLN.out), List.drop_replicate] at e
    exact e)
  have HK02 := Lib.hid (HK1.out.trans HK2.out)
  clear HG2 HK2 HC1 HK1 HS1 HC
  refine wp_region_tailD 9 (by kernel_rfl) (by kernel_rfl) ?_
  simp only [List.take_succ_cons, List.take_zero, List.drop_succ_cons, List.drop_zero]
  repeat (go_big_quiet_step (fail))
  refine wpQuiet_nil ?_
  rintro _ ⟨m, rfl⟩
  obtain ⟨P, hP⟩ : ∃ P, P = s ++ List.replicate (64 - s.length) 0 := ⟨_, rfl⟩
  have HPL : Hid (P.length = 64) := Lib.hid (by rw [hP]; exact pad_len HLN.out)
  have HC3 : Hid (CipB (w2.drewN m) b K c P len ovf pre p) := Lib.hid (by rw [hP]; exact HC2.out)
  have HTB : Hid (upd P P (K.from c) 64 = tailBuf (K.from c) s) := Lib.hid (by rw [hP]; unfold tailBuf; rfl)
  clear hP HC2
  go_wp2_with (go_at_call 70; refine (blocksX_c (MB (w2.drewN m) b K len ovf) K 1 b b 12 64 b 12 64 P P c P len ovf pre p (w2.drewN m) 64 rfl HC3.out HPL.out HP.out MB.isBuf (Or.inl ⟨rfl, rfl, (List.take_of_length_le (Nat.le_refl _)).symm⟩) (fun hpt => ?_) (fun hpf => ?_) HPL.out (by rw [HPL.out]; decide) (by decide) (by decide) (by decide)).mono ?_)
  · have hpe := HPP.out hpt
    have := HC3.out
    rw [hpt, hpe] at this
    exact ⟨HPL.out, this, Keeps.refl _ _⟩
  · exact ⟨HPL.out, HC3.out.pw HPL.out HP.out, PW.keeps (Keeps.refl _ _) _ _ _ _ _ _ _ _ _ _ _⟩
  rintro e w3 ⟨rfl, hm⟩
  rw [Nat.mul_one, HTB.out] at hm
  have HC4 : Hid (CipB w3 b K (c + 1) (tailBuf (K.from c) s) len ovf true K.pre) := Lib.hid hm.2.1
  have HK03 : Hid (Keeps (fun q => q = b) w w3) := Lib.hid ((HK02.out.drewN m).trans hm.2.2)
  have HD3 : Hid (DstB w3 bd hd tl D) := Lib.hid (HD.out.keeps HK03.out (fun e => HNE.out e.symm))
  have HTL := Lib.hid (tailBuf_len (z := K.from c) HLN.out)
  have HS3 : Hid (SlB w3 (.slice (some ⟨b, 12, none⟩) 64 64) (tailBuf (K.from c) s)) := Lib.hid (by
    have := SlB.of (w := w3) (b := b) (o := 12) (c := 64) (l := tailBuf (K.from c) s) (by rw [HTL.out]; exact Nat.le_refl _) (by decide) (fun i hi => by rw [HC4.out.cell, crow_buf hi])
    rwa [HTL.out] at this)
  have hmin : min (tailBuf (K.from c) s).length n = n := by rw [HTL.out]; omega
  have hsub : (64 : Int) - n = ((64 - n : Nat) : Int) := by omega
  have hn64 : IntKind.i64.wrap (((64 - n : Nat) : Int)) = ((64 - n : Nat) : Int) := by rw [IntKind.wrap_i64]; omega
  clear hm HC3 HK02 HPL HTB
  go_wp2_with (refine wpList_copyB rfl (.tmp 209) (.tmp 213) 24 24 rfl 5 (by kernel_rfl) (by kernel_rfl) bd od n cd _ (tailBuf (K.from c) s) rfl rfl HS3.out (hd ++ (vals8 D ++ tl)) 5 HD3.out (by rw [hmin, HOD.out, List.length_append, List.length_append, vals8_len, HDL.out]; omega) ?_; intro w4 HG4 HK4; rw [hmin]; have HC5 := Lib.hid (HC4.out.keeps HK4.out HNE.out); have c76 : w4.cell? ⟨b, 76, none⟩ = some (.int .i64 (len : Int)) := by { rw [HC5.out.cell]; exact crow_76 HTL.out }; have f76 := HC5.out.free 76)
  refine HH.out _ _ rfl ⟨?_, ?_, ?_⟩
  · have e := HG4.out
    rw [HOD.out, dst_splice (by rw [List.length_take, HTL.out, HDL.out]; omega)] at e
    have hn := HSL.out
    rw [← hn, tailBuf_take HLN.out, List.drop_eq_nil_of_le (by rw [xs_len, HDL.out, hn]; exact Nat.le_refl _), List.append_nil] at e
    exact DstB.keeps (w := w4) e ((Keeps.refl (fun q => q = b) w4).own _) (fun e => HNE.out e.symm)
  · have := HC5.out.set76 HTL.out (64 - n)
    rw [HSL.out]
    exact this
  · exact ((HK03.out.mono (fun _ _ e => Or.inl e)).trans (HK4.out.mono (fun _ _ e => Or.inr e))).setCell (Or.inl (Or.inl rfl)) _
end Go.Proofs.Ytlafnkcmdnfcpaa
