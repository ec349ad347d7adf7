/-
  XORKeyStream: whole blocks, and the tail.
-/
import Derived.Test.YtlafnkcmdnfcpaaXksT
import Derived.BigQuiet
import Derived.Deep.QuietTactic
import Derived.Deep.CutRange
namespace Go.Proofs.Ytlafnkcmdnfcpaa
open Go Go.RowKit
set_option linter.unusedVariables false
attribute [local irreducible] Cha.iter Cha.rounds Cha.dbl Cha.qr tailBuf

/-- behind the tail -/
theorem XR.of_tail {K : CK} {w w' : World} {b bd q : Nat} {hd tl : List Value} {s : List UInt8} {ovf : Bool} (hq : q + 1 ≤ 4294967296) (ho : ovf = decide (q + 1 = 4294967296)) (h0 : 0 < s.length) (h64 : s.length < 64)
    (h : TailR K w b bd hd tl (UInt32.ofNat q) s ovf w') : XR K w b bd hd tl (64 * q) s w' := by
  have ez : ∀ i, K.from (UInt32.ofNat q) i = K.ks (64 * q + i) := fun i => K.from_eq q i
  refine ⟨?_, ⟨_, _, _, _, _, _, q + 1, h.cip, ⟨tailBuf_len (by omega), rfl, fun _ => rfl, by omega, by omega, hq, ?_, ho, fun i hi => ?_⟩⟩, h.keeps⟩
  · rw [show (fun i => K.ks (64 * q + i)) = K.from (UInt32.ofNat q) from funext fun i => (ez i).symm]
    exact h.dst
  · rw [UInt32.ofNat_add]; rfl
  · rw [tailBuf_rest (by omega) (by omega) (by omega), ez]
    congr 1
    omega
theorem DstB.next {w : World} {bd : Nat} {hd tl : List Value} {l R : List UInt8} (h : DstB w bd hd (vals8 R ++ tl) l) : DstB w bd (hd ++ vals8 l) tl R := by
  unfold DstB at h ⊢
  rw [h, List.append_assoc]
theorem DstB.front {w : World} {bd : Nat} {hd tl : List Value} {l : List UInt8} (h : DstB w bd hd tl l) (k : Nat) : DstB w bd hd (vals8 (l.drop k) ++ tl) (l.take k) := by
  unfold DstB at h ⊢
  rw [h, ← List.append_assoc (vals8 (l.take k)), ← vals8_append, List.take_append_drop]
theorem xs_from {K : CK} {q : Nat} {s : List UInt8} : xs (K.from (UInt32.ofNat q)) s = xs (fun i => K.ks (64 * q + i)) s := xs_congr s fun i _ => K.from_eq q i
/-- whole blocks of a text, put elsewhere or in their own place -/
theorem blocksD_c (K : CK) (b bd od bs os n cd cs N F : Nat) (hd tl : List Value) (D s : List UInt8) (c : UInt32) (buf : List UInt8) (len : Nat) (ovf pre : Bool) (p : List UInt32) (w : World)
    (hc : CipB w b K c buf len ovf pre p) (hbl : buf.length = 64) (hp : p.length = 12) (hpp : pre = true → p = K.pre) (hne : b ≠ bd) (hnb : bs ≠ b) (hD : DstB w bd hd tl D) (hod : od = hd.length) (hDl : D.length = n) (hsl : s.length = n) (hS : SrcR w bd od bs os D s) (hcd : n ≤ cd) (hcs : n ≤ cs) (hcm : cs ≤ maxLen) (hF : F = 64 * N) (hFn : F ≤ n) (hmx : F ≤ 140737488355328) :
    Calls Try.prog 70 #[.pointer (some ⟨b, 0, none⟩), .slice (some ⟨bd, od, none⟩) F cd, .slice (some ⟨bs, os, none⟩) F cs] w fun e w' =>
      e = .returned (.tuple #[]) ∧ DstB w' bd hd (vals8 (D.drop F) ++ tl) (xs (K.from c) (s.take F)) ∧ CipB w' b K (c + UInt32.ofNat N) buf len ovf true K.pre ∧ Keeps (fun q => q = b ∨ q = bd) w w' := by
  subst hod
  have hDF : (D.take F).length = 64 * N := by rw [List.length_take, hDl]; omega
  have hsF : (s.take F).length = 64 * N := by rw [List.length_take, hsl]; omega
  have hd0 := hD.front F
  refine (blocksX_c (MD w b bd K buf len ovf hd (vals8 (D.drop F) ++ tl)) K N b bd hd.length cd bs os cs (D.take F) (s.take F) c buf len ovf pre p w F hF hc hbl hp (MD.isBuf hne hbl) ?_ ?_ ?_ hsF (by rw [hDF]; exact Nat.le_refl _) (by omega) (by omega) (by omega)).mono ?_
  · rcases hS with ⟨rfl, rfl, rfl⟩ | ⟨hbb, hS⟩
    · exact Or.inl ⟨rfl, rfl, by rw [List.take_of_length_le (Nat.le_refl _)]⟩
    · refine Or.inr fun l c' w' i hm hi => ?_
      rw [hsF] at hi
      have := hS i (by omega)
      rw [hm.2.2.cellAt this (by rintro (e | e); exact hnb e; exact hbb e)]
      simp [List.getD, show i < F by omega]
  · intro h
    have := hpp h
    subst h this
    exact ⟨hd0, hc, Keeps.refl _ _⟩
  · intro h
    have hk := PW.keeps (b := b) (Keeps.refl (fun q => q = b) w) K.c4 K.c5 K.c6 K.c7 K.c8 K.c9 K.c10 K.c11 K.c13 K.c14 K.c15
    exact ⟨hd0.keeps hk (fun e => hne e.symm), hc.pw hbl hp, hk.mono (fun _ _ e => Or.inl e)⟩
  · rintro e w' ⟨rfl, h1, h2, h3⟩
    refine ⟨rfl, ?_, h2, h3⟩
    have e1 : upd (D.take F) (s.take F) (K.from c) (64 * N) = xs (K.from c) (s.take F) := by
      rw [← hsF, upd_xs, hsF, List.drop_eq_nil_of_le (by rw [hDF]; exact Nat.le_refl _), List.append_nil]
    rw [e1] at h1
    exact h1
set_option maxRecDepth 1000000 in
set_option maxHeartbeats 40000000 in
theorem xks7_c (Q : Exit → Act → World → Prop) (K : CK) (b bd od bs os n cd cs N F r q : Nat) (hd tl : List Value) (D s : List UInt8) (buf : List UInt8) (len : Nat) (ovf pre : Bool) (p : List UInt32) (r3 r4 r5 r6 r7 r8 r9 r10 r11 r12 r13 r14 r15 r16 r17 r18 r19 r20 r21 r22 r23 r24 r25 r26 r27 r28 r29 r30 r31 r32 r33 r34 r35 r36 r37 r38 r39 r40 r41 r42 r43 r44 r45 r46 r47 r48 r49 r50 r51 r52 r53 r54 r55 r56 r57 r58 r59 r60 r61 r62 r63 r64 r65 r66 r67 r68 r69 r70 r71 r72 r73 r74 r75 r76 r77 r78 r79 r80 r81 r82 r83 r84 r85 r86 r87 r88 r89 r90 r91 r92 r93 r94 r95 r96 r97 r98 r99 r100 r101 r102 r103 r104 r105 r106 r107 r108 r109 r110 r111 r112 r113 r114 r115 r116 r117 r118 r119 r120 r121 r122 r123 r124 r125 r126 r127 r128 r129 r130 r131 r132 r133 r134 r135 r136 r137 r138 r139 r140 r141 r142 r143 r144 r145 r146 r147 r148 r149 r150 r151 r152 r153 r154 r155 r156 r157 r158 r159 r160 r161 r162 r163 r164 r165 r166 r167 r168 r169 r170 r171 r172 r173 r174 r175 r176 r177 r178 r179 r180 r181 r182 r183 r184 r185 r186 r187 r188 r189 r190 r191 r192 r193 r194 r195 r196 r197 r198 r199 r200 r201 r202 r203 r204 r205 r206 r207 r208 r209 r210 r211 r212 r213 r214 r215 r216 r217 : Value) (w : World)
    (hc : CipB w b K (UInt32.ofNat q) buf 0 ovf pre p) (hbl : buf.length = 64) (hp : p.length = 12) (hpp : pre = true → p = K.pre) (hne : b ≠ bd) (hnb : bs ≠ b) (hD : DstB w bd hd tl D) (hod : od = hd.length) (hDl : D.length = n) (hsl : s.length = n) (hS : SrcR w bd od bs os D s) (hcd : n ≤ cd) (hcs : n ≤ cs) (hcm : cs ≤ maxLen) (h0 : 0 < n)
    (hF : F = 64 * N) (hr : n = F + r) (hr64 : r < 64) (hq : q + (n + 63) / 64 ≤ 4294967296) (hov : ovf = decide (q + (n + 63) / 64 = 4294967296))
    (h : ∀ a w', a.defers = [] → XR K w b bd hd tl (64 * q) s w' → Q .normal a w') : Code.wp Try.prog xks7 Q ⟨#[.pointer (some ⟨b, 0, none⟩), .slice (some ⟨bd, od, none⟩) n cd, .slice (some ⟨bs, os, none⟩) n cs, r3, r4, r5, r6, r7, r8, r9, r10, r11, r12, r13, r14, r15, r16, r17, r18, r19, r20, r21, r22, r23, r24, r25, r26, r27, r28, r29, r30, r31, r32, r33, r34, r35, r36, r37, r38, r39, r40, r41, r42, r43, r44, r45, r46, r47, r48, r49, r50, r51, r52, r53, r54, r55, r56, r57, r58, r59, r60, r61, r62, r63, r64, r65, r66, r67, r68, r69, r70, r71, r72, r73, r74, r75, r76, r77, r78, r79, r80, r81, r82, r83, r84, r85, r86, r87, r88, r89, r90, r91, r92, r93, r94, r95, r96, r97, r98, r99, r100, r101, r102, r103, r104, r105, r106, r107, r108, r109, r110, r111, r112, r113, r114, r115, r116, r117, r118, r119, r120, r121, r122, r123, r124, r125, r126, r127, r128, r129, r130, r131, r132, r133, r134, r135, r136, r137, r138, r139, r140, r141, r142, r143, r144, r145, r146, r147, r148, r149, r150, r151, r152, r153, r154, r155, r156, r157, r158, r159, r160, r161, r162, r163, r164, r165, r166, r167, r168, r169, r170, r171, r172, r173, r174, r175, r176, r177, r178, r179, r180, r181, r182, r183, r184, r185, r186, r187, r188, r189, r190, r191, r192, r193, r194, r195, r196, r197, r198, r199, r200, r201, r202, r203, r204, r205, r206, r207, r208, r209, r210, r211, r212, r213, r214, r215, r216, r217], []⟩ w := by
  conv => arg 2; whnf
  dsimp only
  have HC := Lib.hid hc
  have HBL := Lib.hid hbl
  have HP := Lib.hid hp
  have HPP := Lib.hid hpp
  have HSB : Hid (BytesAt w bs os s) := Lib.hid (by subst hod; exact hS.bytes hD)
  have HF := Lib.hid hF
  have HR := Lib.hid hr
  have HQ := Lib.hid hq
  have HOV := Lib.hid hov
  clear hc hbl hp hpp hF hr hq hov
  have HNE := Lib.hid hne
  have HNB := Lib.hid hnb
  have HD := Lib.hid hD
  have HOD := Lib.hid hod
  have HDL := Lib.hid hDl
  have HSL := Lib.hid hsl
  have HS := Lib.hid hS
  have HCM := Lib.hid hcm
  have HH := Lib.hid h
  clear hne hnb hD hod hDl hsl hS hcm h
  by_cases hN : F = 0
  · subst hN
    have hn0 : r = n := by have := HR.out; omega
    subst hn0
    clear HF HR
    have hrem : (r : Int).tmod 64 = (r : Int) := by rw [Int.tmod_eq_emod_of_nonneg (by omega)]; omega
    go_upto_region 25 with fail
    go_quiet (fail)
    rename_i HK
    refine HK _ _ ?_
    refine xks10_some Q K b bd od bs os r cd cs hd tl D s (UInt32.ofNat q) buf 0 ovf pre p _ _ _ _ _ _ _ _ _ _ _ _ _ _ _ _ _ _ _ _ _ _ _ _ _ _ _ _ _ _ _ _ _ _ _ _ _ _ _ _ _ _ _ _ _ _ _ _ _ _ _ _ _ _ _ _ _ _ _ _ _ _ _ _ _ _ _ _ _ _ _ _ _ _ _ _ _ _ _ _ _ _ _ _ _ _ _ _ _ _ _ _ _ _ _ _ _ _ _ _ _ _ _ _ _ _ _ _ _ _ _ _ _ _ _ _ _ _ _ _ _ _ _ _ _ _ _ _ _ _ _ _ _ _ _ _ _ _ _ _ _ _ _ _ _ _ _ _ _ _ _ _ _ _ _ _ _ _ _ _ _ _ _ _ _ _ _ _ _ _ _ _ _ _ _ _ _ _ _ _ _ _ _ _ _ _ _ _ _ _ _ _ _ _ _ _ _ _ _ _ _ _ _ _ _ _ _ _ _ _ _ _ _ _ _ _ (HC.out) HBL.out HP.out HPP.out HNE.out HNB.out (HD.out) HOD.out HDL.out HSL.out ?_ hcd hcs HCM.out h0 hr64 ?_
    · exact HS.out
    · intro a w1 ha ht
      refine HH.out a w1 ha ?_
      have hn1 : (r + 63) / 64 = 1 := by omega
      have hq := HQ.out
      have ho := HOV.out
      rw [hn1] at hq ho
      have := XR.of_tail hq ho (by rw [HSL.out]; exact h0) (by rw [HSL.out]; exact hr64) ht
      exact ⟨this.1, this.2.1, ((Keeps.refl _ w).drewN _).trans this.2.2⟩
  · have hFp : (0 : Int) < F := by omega
    have hFn : (F : Int) ≤ n := by have := HR.out; omega
    have hFd : (F : Int) ≤ cd := by omega
    have hFs : (F : Int) ≤ cs := by omega
    have hF0 : (0 : Int) ≤ F := by omega
    have hrem : (n : Int).tmod 64 = (r : Int) := by have := HF.out; have := HR.out; rw [Int.tmod_eq_emod_of_nonneg (by omega)]; omega
    have hful : (n : Int) - (r : Int) = (F : Int) := by have := HR.out; omega
    have hle : n ≤ 274877906944 := by have := HQ.out; omega
    have wful : IntKind.i64.wrap (F : Int) = (F : Int) := by rw [IntKind.wrap_i64]; omega
    have wr : IntKind.i64.wrap (r : Int) = (r : Int) := by rw [IntKind.wrap_i64]; omega
    have HLE := Lib.hid hle
    clear hle
    go_upto_region 24 with fail
    refine wp_region_tailD 7 (by kernel_rfl) (by kernel_rfl) ?_
    simp only [List.take_succ_cons, List.take_zero, List.drop_succ_cons, List.drop_zero]
    repeat (go_big_quiet_step (fail))
    refine wpQuiet_nil ?_
    rintro _ ⟨m, rfl⟩
    go_wp2_with (go_at_call 70; refine (blocksD_c K b bd od bs os n cd cs N F hd tl D s (UInt32.ofNat q) buf 0 ovf pre p (w.drewN m) HC.out HBL.out HP.out HPP.out HNE.out HNB.out HD.out HOD.out HDL.out HSL.out HS.out hcd hcs HCM.out HF.out (by omega) (by have := HLE.out; omega)).mono ?_; rintro e w1 ⟨rfl, hd1, hc1, hk1⟩; have HD1 := Lib.hid hd1; have HC1 := Lib.hid hc1; have HK1 : Hid (Keeps (fun q => q = b ∨ q = bd) w w1) := Lib.hid (((Keeps.refl _ w).drewN m).trans hk1); clear hd1 hc1 hk1)
    have hqn : UInt32.ofNat q + UInt32.ofNat N = UInt32.ofNat (q + N) := (UInt32.ofNat_add q N).symm
    have HC2 : Hid (CipB w1 b K (UInt32.ofNat (q + N)) buf 0 ovf true K.pre) := Lib.hid (by rw [← hqn]; exact HC1.out)
    clear HC1 hqn
    by_cases hr0 : r = 0
    · have hnF : n = F := by have := HR.out; omega
      have HNF := Lib.hid hnF
      have c8 : w1.cell? ⟨b, 8, none⟩ = some (.int .u32 (u32 (UInt32.ofNat (q + N)))) := by rw [HC2.out.cell]; rfl
      have HFIN : Hid (∀ k, XR K w b bd hd tl (64 * q) s (w1.drewN k)) := Lib.hid (fun k => by
        have hF := HF.out
        have hq := HQ.out
        have ho := HOV.out
        have e1 : (n + 63) / 64 = N := by omega
        rw [e1] at hq ho
        have hd := HD1.out
        rw [List.drop_eq_nil_of_le (by rw [HDL.out]; omega), List.take_of_length_le (by rw [HSL.out]; omega), xs_from] at hd
        refine ⟨hd, ⟨_, buf, 0, ovf, true, _, q + N, HC2.out, ⟨HBL.out, rfl, fun _ => rfl, by decide, by rw [HSL.out]; omega, hq, rfl, ho, fun i hi => by omega⟩⟩, HK1.out.drewN _⟩)
      by_cases hc1 : cd = F
      · by_cases hc2 : cs = F
        · go_quiet (fail)
          rename_i HK
          refine HK _ _ ?_
          try rw [show n - F = 0 by omega]
          refine xks10_none Q b (UInt32.ofNat (q + N)) _ _ _ _ _ _ _ _ _ _ _ _ _ _ _ _ _ _ _ _ _ _ _ _ _ _ _ _ _ _ _ _ _ _ _ _ _ _ _ _ _ _ _ _ _ _ _ _ _ _ _ _ _ _ _ _ _ _ _ _ _ _ _ _ _ _ _ _ _ _ _ _ _ _ _ _ _ _ _ _ _ _ _ _ _ _ _ _ _ _ _ _ _ _ _ _ _ _ _ _ _ _ _ _ _ _ _ _ _ _ _ _ _ _ _ _ _ _ _ _ _ _ _ _ _ _ _ _ _ _ _ _ _ _ _ _ _ _ _ _ _ _ _ _ _ _ _ _ _ _ _ _ _ _ _ _ _ _ _ _ _ _ _ _ _ _ _ _ _ _ _ _ _ _ _ _ _ _ _ _ _ _ _ _ _ _ _ _ _ _ _ _ _ _ _ _ _ _ _ _ _ _ _ _ _ _ _ _ _ _ _ _ _ _ _ _ _ _ _ _ c8 (fun a ha => HH.out a _ ha (HFIN.out _))
        · go_quiet (fail)
          rename_i HK
          refine HK _ _ ?_
          try rw [show n - F = 0 by omega]
          refine xks10_none Q b (UInt32.ofNat (q + N)) _ _ _ _ _ _ _ _ _ _ _ _ _ _ _ _ _ _ _ _ _ _ _ _ _ _ _ _ _ _ _ _ _ _ _ _ _ _ _ _ _ _ _ _ _ _ _ _ _ _ _ _ _ _ _ _ _ _ _ _ _ _ _ _ _ _ _ _ _ _ _ _ _ _ _ _ _ _ _ _ _ _ _ _ _ _ _ _ _ _ _ _ _ _ _ _ _ _ _ _ _ _ _ _ _ _ _ _ _ _ _ _ _ _ _ _ _ _ _ _ _ _ _ _ _ _ _ _ _ _ _ _ _ _ _ _ _ _ _ _ _ _ _ _ _ _ _ _ _ _ _ _ _ _ _ _ _ _ _ _ _ _ _ _ _ _ _ _ _ _ _ _ _ _ _ _ _ _ _ _ _ _ _ _ _ _ _ _ _ _ _ _ _ _ _ _ _ _ _ _ _ _ _ _ _ _ _ _ _ _ _ _ _ _ _ _ _ _ _ _ c8 (fun a ha => HH.out a _ ha (HFIN.out _))
      · by_cases hc2 : cs = F
        · go_quiet (fail)
          rename_i HK
          refine HK _ _ ?_
          try rw [show n - F = 0 by omega]
          refine xks10_none Q b (UInt32.ofNat (q + N)) _ _ _ _ _ _ _ _ _ _ _ _ _ _ _ _ _ _ _ _ _ _ _ _ _ _ _ _ _ _ _ _ _ _ _ _ _ _ _ _ _ _ _ _ _ _ _ _ _ _ _ _ _ _ _ _ _ _ _ _ _ _ _ _ _ _ _ _ _ _ _ _ _ _ _ _ _ _ _ _ _ _ _ _ _ _ _ _ _ _ _ _ _ _ _ _ _ _ _ _ _ _ _ _ _ _ _ _ _ _ _ _ _ _ _ _ _ _ _ _ _ _ _ _ _ _ _ _ _ _ _ _ _ _ _ _ _ _ _ _ _ _ _ _ _ _ _ _ _ _ _ _ _ _ _ _ _ _ _ _ _ _ _ _ _ _ _ _ _ _ _ _ _ _ _ _ _ _ _ _ _ _ _ _ _ _ _ _ _ _ _ _ _ _ _ _ _ _ _ _ _ _ _ _ _ _ _ _ _ _ _ _ _ _ _ _ _ _ _ _ c8 (fun a ha => HH.out a _ ha (HFIN.out _))
        · go_quiet (fail)
          rename_i HK
          refine HK _ _ ?_
          try rw [show n - F = 0 by omega]
          refine xks10_none Q b (UInt32.ofNat (q + N)) _ _ _ _ _ _ _ _ _ _ _ _ _ _ _ _ _ _ _ _ _ _ _ _ _ _ _ _ _ _ _ _ _ _ _ _ _ _ _ _ _ _ _ _ _ _ _ _ _ _ _ _ _ _ _ _ _ _ _ _ _ _ _ _ _ _ _ _ _ _ _ _ _ _ _ _ _ _ _ _ _ _ _ _ _ _ _ _ _ _ _ _ _ _ _ _ _ _ _ _ _ _ _ _ _ _ _ _ _ _ _ _ _ _ _ _ _ _ _ _ _ _ _ _ _ _ _ _ _ _ _ _ _ _ _ _ _ _ _ _ _ _ _ _ _ _ _ _ _ _ _ _ _ _ _ _ _ _ _ _ _ _ _ _ _ _ _ _ _ _ _ _ _ _ _ _ _ _ _ _ _ _ _ _ _ _ _ _ _ _ _ _ _ _ _ _ _ _ _ _ _ _ _ _ _ _ _ _ _ _ _ _ _ _ _ _ _ _ _ _ c8 (fun a ha => HH.out a _ ha (HFIN.out _))
    · have hc1 : ¬ cd = F := by have := HR.out; omega
      have hc2 : ¬ cs = F := by have := HR.out; omega
      have hnr : n - F = r := by have := HR.out; omega
      have HNR := Lib.hid hnr
      go_quiet (fail)
      rename_i HK
      refine HK _ _ ?_
      try rw [hnr]
      refine xks10_some Q K b bd (od + F) bs (os + F) r (cd - F) (cs - F) (hd ++ vals8 (xs (K.from (UInt32.ofNat q)) (s.take F))) tl (D.drop F) (s.drop F) (UInt32.ofNat (q + N)) buf 0 ovf true K.pre _ _ _ _ _ _ _ _ _ _ _ _ _ _ _ _ _ _ _ _ _ _ _ _ _ _ _ _ _ _ _ _ _ _ _ _ _ _ _ _ _ _ _ _ _ _ _ _ _ _ _ _ _ _ _ _ _ _ _ _ _ _ _ _ _ _ _ _ _ _ _ _ _ _ _ _ _ _ _ _ _ _ _ _ _ _ _ _ _ _ _ _ _ _ _ _ _ _ _ _ _ _ _ _ _ _ _ _ _ _ _ _ _ _ _ _ _ _ _ _ _ _ _ _ _ _ _ _ _ _ _ _ _ _ _ _ _ _ _ _ _ _ _ _ _ _ _ _ _ _ _ _ _ _ _ _ _ _ _ _ _ _ _ _ _ _ _ _ _ _ _ _ _ _ _ _ _ _ _ _ _ _ _ _ _ _ _ _ _ _ _ _ _ _ _ _ _ _ _ _ _ _ _ _ _ _ _ _ _ _ _ _ _ _ _ _ (HC2.out) HBL.out rfl (fun _ => rfl) HNE.out HNB.out HD1.out.next ?_ ?_ ?_ ?_ ?_ ?_ ?_ ?_ hr64 ?_
      · rw [HOD.out, List.length_append, vals8_len, xs_len, List.length_take, HSL.out]; have := HR.out; omega
      · rw [List.length_drop, HDL.out]; exact HNR.out
      · rw [List.length_drop, HSL.out]; exact HNR.out
      · exact SrcR.rest HS.out HNB.out (HK1.out.drewN _)
      · have := HR.out; omega
      · have := HR.out; omega
      · have := HCM.out; omega
      · omega
      · intro a w2 ha ht
        refine HH.out a w2 ha ?_
        have hR := HR.out
        have hF := HF.out
        have hq := HQ.out
        have ho := HOV.out
        have hn1 : q + (n + 63) / 64 = q + N + 1 := by omega
        rw [hn1] at hq ho
        have hl : (s.drop F).length = r := by rw [List.length_drop, HSL.out]; omega
        have := XR.of_tail hq ho (by rw [hl]; omega) (by rw [hl]; exact hr64) ht
        refine XR.two (k := F) (by rw [HSL.out]; omega) HK1.out ?_
        rw [xs_from] at this
        rw [show 64 * q + F = 64 * (q + N) by omega]
        exact ⟨this.1, this.2.1, ((Keeps.refl _ w1).drewN _).trans this.2.2⟩

end Go.Proofs.Ytlafnkcmdnfcpaa
