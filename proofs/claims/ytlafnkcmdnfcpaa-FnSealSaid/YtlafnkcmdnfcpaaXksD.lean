/-
  XORKeyStream: the key stream that is left is taken first.
-/
import Derived.Test.YtlafnkcmdnfcpaaXksO
import Derived.BigQuiet
import Derived.Deep.QuietTactic
import Derived.Deep.CutRange
namespace Go.Proofs.Ytlafnkcmdnfcpaa
open Go Go.RowKit
set_option linter.unusedVariables false
attribute [local irreducible] Cha.iter Cha.rounds Cha.dbl Cha.qr tailBuf

/-- what the loop of the drain keeps -/
def DrainRel (w : World) (bd : Nat) (hd tl : List Value) (D s : List UInt8) (z : Nat → UInt8) (k : Nat) (i : Value) (wr : World) : Prop :=
  ∃ j : Nat, j ≤ k ∧ i = .int .i64 j ∧ DstB wr bd hd tl (upd D s z j) ∧ Keeps (fun q => q = bd) w wr
theorem drain_src {w wr : World} {bd bs os j : Nat} {hd tl : List Value} {D s : List UInt8} {z : Nat → UInt8} (h : SrcR w bd hd.length bs os D s) (hd' : DstB wr bd hd tl (upd D s z j)) (hk : Keeps (fun q => q = bd) w wr) (hj : j < s.length) (hD : j < D.length) :
    wr.cell? ⟨bs, os + j, none⟩ = some (.int .u8 (u8 (s.getD j 0))) := by
  rcases h with ⟨rfl, rfl, rfl⟩ | ⟨hne, h⟩
  · rw [hd'.cell (by rw [upd_len (by omega)]; exact hD), upd_getD (Nat.le_refl _)]
  · exact hk.cellAt (h j hj) hne
theorem drain_step {wr : World} {bd j : Nat} {hd tl : List Value} {D s : List UInt8} {z : Nat → UInt8} {x y : UInt8} (h : DstB wr bd hd tl (upd D s z j)) (hD : j < D.length) (hx : x = s.getD j 0) (hy : y = z j) :
    DstB (wr.setCell ⟨bd, hd.length + j, none⟩ (.int .u8 (u8 (x ^^^ y)))) bd hd tl (upd D s z (j + 1)) := by
  subst hx hy
  rw [← upd_next hD]
  exact h.set (by rw [upd_len (by omega)]; exact hD) _
theorem upd_split {D s : List UInt8} {z : Nat → UInt8} {k : Nat} (hk : k ≤ s.length) : upd D s z k = xs z (s.take k) ++ D.drop k := by
  unfold upd xs
  rw [List.length_take, Nat.min_eq_left hk]
  congr 1
  apply List.map_congr_left
  intro i hi
  rw [List.mem_range] at hi
  simp [List.getD, hi]
/-- behind the drain -/
theorem drain_dst {w : World} {bd k : Nat} {hd tl : List Value} {D s : List UInt8} {z : Nat → UInt8} (h : DstB w bd hd tl (upd D s z k)) (hk : k ≤ s.length) : DstB w bd (hd ++ vals8 (xs z (s.take k))) tl (D.drop k) := by
  rw [upd_split hk] at h
  unfold DstB at h ⊢
  rw [h, vals8_append, List.append_assoc, List.append_assoc]
theorem ks_at {K : CK} {a : Nat} {s : List UInt8} {buf : List UInt8} {ln k : Nat} (h : ∀ i, i < ln → buf.getD (64 - ln + i) 0 = K.ks (a + i)) (hk : k ≤ ln) (hs : k ≤ s.length) : xs (fun i => buf.getD (64 - ln + i) 0) (s.take k) = xs (fun i => K.ks (a + i)) (s.take k) := by
  apply xs_congr
  intro i hi
  rw [List.length_take] at hi
  exact h i (by omega)
/-- a cipher behind a drain -/
theorem CipP.drain {K : CK} {a k : Nat} {c : UInt32} {buf : List UInt8} {len : Nat} {ovf pre : Bool} {p : List UInt32} {q : Nat} (h : CipP K a c buf len ovf pre p q) (hk : k ≤ len) : CipP K (a + k) c buf (len - k) ovf pre p q := by
  have h1 := h.lt
  have h2 := h.at'
  refine ⟨h.bufl, h.pl, h.pp, by omega, by omega, h.qle, h.ceq, h.ovfeq, fun i hi => ?_⟩
  rw [show 64 - (len - k) + i = 64 - len + (k + i) by omega, h.ks (k + i) (by omega), Nat.add_assoc]
set_option maxRecDepth 1000000 in
set_option maxHeartbeats 40000000 in
theorem xks3_c (Q : Exit → Act → World → Prop) (K : CK) (b bd od bs os n cd cs a : Nat) (hd tl : List Value) (D s : List UInt8) (r3 r4 r5 r6 r7 r8 r9 r10 r11 r12 r13 r14 r15 r16 r17 r18 r19 r20 r21 r22 r23 r24 r25 r26 r27 r28 r29 r30 r31 r32 r33 r34 r35 r36 r37 r38 r39 r40 r41 r42 r43 r44 r45 r46 r47 r48 r49 r50 r51 r52 r53 r54 r55 r56 r57 r58 r59 r60 r61 r62 r63 r64 r65 r66 r67 r68 r69 r70 r71 r72 r73 r74 r75 r76 r77 r78 r79 r80 r81 r82 r83 r84 r85 r86 r87 r88 r89 r90 r91 r92 r93 r94 r95 r96 r97 r98 r99 r100 r101 r102 r103 r104 r105 r106 r107 r108 r109 r110 r111 r112 r113 r114 r115 r116 r117 r118 r119 r120 r121 r122 r123 r124 r125 r126 r127 r128 r129 r130 r131 r132 r133 r134 r135 r136 r137 r138 r139 r140 r141 r142 r143 r144 r145 r146 r147 r148 r149 r150 r151 r152 r153 r154 r155 r156 r157 r158 r159 r160 r161 r162 r163 r164 r165 r166 r167 r168 r169 r170 r171 r172 r173 r174 r175 r176 r177 r178 r179 r180 r181 r182 r183 r184 r185 r186 r187 r188 r189 r190 r191 r192 r193 r194 r195 r196 r197 r198 r199 r200 r201 r202 r203 r204 r205 r206 r207 r208 r209 r210 r211 r212 r213 r214 r215 r216 r217 : Value) (w : World)
    (hc : CipS K w b a) (hne : b ≠ bd) (hnb : bs ≠ b) (hD : DstB w bd hd tl D) (hod : od = hd.length) (hDl : D.length = n) (hsl : s.length = n) (hS : SrcR w bd od bs os D s) (hcd : n ≤ cd) (hcs : n ≤ cs) (hcm : cs ≤ maxLen) (h0 : 0 < n) (hn : n ≤ 140737488355328)
    (h : ¬ endK < a + n → ∀ a' w', a'.defers = [] → XR K w b bd hd tl a s w' → Q .normal a' w' ∧ Q .ret a' w')
    (hpan : endK < a + n → ∀ (a' : Act) (x : Value) w', a'.defers = [] → Keeps (fun q => q = b ∨ q = bd) w w' → Q (.panic [{ v := .iface 9 x, recovered := false }]) a' w') : Code.wp Try.prog xks3 Q ⟨#[.pointer (some ⟨b, 0, none⟩), .slice (some ⟨bd, od, none⟩) n cd, .slice (some ⟨bs, os, none⟩) n cs, r3, r4, r5, r6, r7, r8, r9, r10, r11, r12, r13, r14, r15, r16, r17, r18, r19, r20, r21, r22, r23, r24, r25, r26, r27, r28, r29, r30, r31, r32, r33, r34, r35, r36, r37, r38, r39, r40, r41, r42, r43, r44, r45, r46, r47, r48, r49, r50, r51, r52, r53, r54, r55, r56, r57, r58, r59, r60, r61, r62, r63, r64, r65, r66, r67, r68, r69, r70, r71, r72, r73, r74, r75, r76, r77, r78, r79, r80, r81, r82, r83, r84, r85, r86, r87, r88, r89, r90, r91, r92, r93, r94, r95, r96, r97, r98, r99, r100, r101, r102, r103, r104, r105, r106, r107, r108, r109, r110, r111, r112, r113, r114, r115, r116, r117, r118, r119, r120, r121, r122, r123, r124, r125, r126, r127, r128, r129, r130, r131, r132, r133, r134, r135, r136, r137, r138, r139, r140, r141, r142, r143, r144, r145, r146, r147, r148, r149, r150, r151, r152, r153, r154, r155, r156, r157, r158, r159, r160, r161, r162, r163, r164, r165, r166, r167, r168, r169, r170, r171, r172, r173, r174, r175, r176, r177, r178, r179, r180, r181, r182, r183, r184, r185, r186, r187, r188, r189, r190, r191, r192, r193, r194, r195, r196, r197, r198, r199, r200, r201, r202, r203, r204, r205, r206, r207, r208, r209, r210, r211, r212, r213, r214, r215, r216, r217], []⟩ w := by
  conv => arg 2; whnf
  dsimp only
  obtain ⟨c, buf, len, ovf, pre, p, q, h1, h2⟩ := hc
  have hcq := h2.ceq
  subst hcq hod
  have c76 : w.cell? ⟨b, 76, none⟩ = some (.int .i64 (len : Int)) := by rw [h1.cell, crow_76 h2.bufl]
  have hlt := h2.lt
  have hat := h2.at'
  have HC := Lib.hid h1
  have HCP := Lib.hid h2
  have HPAN := Lib.hid hpan
  have HNE := Lib.hid hne
  have HNB := Lib.hid hnb
  have HD := Lib.hid hD
  have HDL := Lib.hid hDl
  have HSL := Lib.hid hsl
  have HS := Lib.hid hS
  have HCM := Lib.hid hcm
  have HH := Lib.hid h
  have HN := Lib.hid hn
  have HAT := Lib.hid hat
  have HSB := Lib.hid (hS.bytes hD)
  clear hne hnb hD hDl hsl hS hcm h h1 h2 hpan hn hat
  by_cases hl0 : len = 0
  · have HL0 := Lib.hid hl0
    have c76' : w.cell? ⟨b, 76, none⟩ = some (.int .i64 0) := by rw [c76, hl0]; rfl
    clear c76 hl0
    have hn0 : ¬ n = 0 := by omega
    refine wp_seq_hold (fun K1 HK1 => ?_)
    go_wp2_with fail
    refine HK1.out _ _ ?_
    clear HK1 K1
    refine wp_seq_hold (fun K1 HK1 => ?_)
    go_wp2_with fail
    refine HK1.out _ _ ?_
    clear HK1 K1
    have ha : a = 64 * q := by have := HL0.out; have := HAT.out; omega
    subst ha
    have hC := HC.out
    rw [HL0.out] at hC
    refine xks5_c Q K b bd hd.length bs os n cd cs q hd tl D s buf ovf pre p _ _ _ _ _ _ _ _ _ _ _ _ _ _ _ _ _ _ _ _ _ _ _ _ _ _ _ _ _ _ _ _ _ _ _ _ _ _ _ _ _ _ _ _ _ _ _ _ _ _ _ _ _ _ _ _ _ _ _ _ _ _ _ _ _ _ _ _ _ _ _ _ _ _ _ _ _ _ _ _ _ _ _ _ _ _ _ _ _ _ _ _ _ _ _ _ _ _ _ _ _ _ _ _ _ _ _ _ _ _ _ _ _ _ _ _ _ _ _ _ _ _ _ _ _ _ _ _ _ _ _ _ _ _ _ _ _ _ _ _ _ _ _ _ _ _ _ _ _ _ _ _ _ _ _ _ _ _ _ _ _ _ _ _ _ _ _ _ _ _ _ _ _ _ _ _ _ _ _ _ _ _ _ _ _ _ _ _ _ _ _ _ _ _ _ _ _ _ _ _ _ _ _ _ _ _ _ _ _ _ _ _ _ _ _ w hC HCP.out.bufl HCP.out.pl HCP.out.pp HNE.out HNB.out HD.out rfl HDL.out HSL.out HS.out hcd hcs HCM.out h0 HN.out HCP.out.qle HCP.out.ovfeq ?_ ?_
    · exact fun he a' w' ha hx => (HH.out he a' w' ha hx).1
    · exact fun he a' x ha => HPAN.out he a' x w ha (Keeps.refl _ w)
  · have c76n : ¬ (len : Int) = 0 := by omega
    rcases Nat.lt_trichotomy n len with hcmp | hcmp | hcmp
    · obtain ⟨L, hL0⟩ : ∃ L, L = 64 - len := ⟨_, rfl⟩
      have hlo : (64 : Int) - (len : Int) = (L : Int) := by omega
      have wlo : IntKind.i64.wrap (L : Int) = (L : Int) := by rw [IntKind.wrap_i64]; omega
      have hL1 : 64 - L = len := by omega
      have hL2 : ¬ L = 64 := by omega
      have hL3 : (L : Int) ≤ 64 := by omega
      have hL4 : (0 : Int) ≤ L := by omega
      have hc64 : (n : Int) < (len : Int) := by omega
      have hcle : (n : Int) ≤ (len : Int) := by omega
      have hk1 : ((n : Nat) : Int) - 1 = ((n - 1 : Nat) : Int) := by omega
      have wk1 : IntKind.i64.wrap ((n - 1 : Nat) : Int) = ((n - 1 : Nat) : Int) := by have := HN.out; rw [IntKind.wrap_i64]; omega
      have hk2 : (((n - 1 : Nat)) : Int) < (n : Int) := by omega
      have hk3 : (0 : Int) ≤ ((n - 1 : Nat) : Int) := by omega
      have clast := HSB.out (n - 1) (by rw [HSL.out]; omega)
      have hsub : (len : Int) - ((n : Nat) : Int) = ((len - n : Nat) : Int) := by omega
      have wsub : IntKind.i64.wrap ((len - n : Nat) : Int) = ((len - n : Nat) : Int) := by rw [IntKind.wrap_i64]; omega
      have hkk0 : ¬ len = 0 := by omega
      have hkn : ((n : Nat) : Int) ≤ n := by omega
      have hkd : ((n : Nat) : Int) ≤ cd := by omega
      have hks : ((n : Nat) : Int) ≤ cs := by omega
      have hkz : (0 : Int) ≤ ((n : Nat) : Int) := by omega
      have HL0 := Lib.hid hL0
      clear hL0
      refine wp_seq_hold (fun K1 HK1 => ?_)
      go_wp2_with fail
      go_quiet (fail)
      go_wp2_with fail
      go_loopw [57] (fun i wr => DrainRel w bd hd tl D s (fun i => buf.getD (64 - len + i) 0) n i wr) (fun i _ => n - (intOf i).toNat)
      case atStart => exact ⟨0, Nat.zero_le _, rfl, by rw [upd_zero]; exact HD.out, (Keeps.refl _ w).drewN _⟩
      case round =>
        obtain ⟨j, hj, rfl, hdr, hkr⟩ := hrel
        have HDR := Lib.hid hdr
        have HKR := Lib.hid hkr
        have HCR := Lib.hid (HC.out.keeps hkr HNE.out)
        have c76 : wr.cell? ⟨b, 76, none⟩ = some (.int .i64 (len : Int)) := by rw [HCR.out.cell, crow_76 HCP.out.bufl]
        have f76 := HCR.out.free 76
        clear hdr hkr
        by_cases hlt : j < n
        · have cb : wr.cell? ⟨b, 12 + L + j, none⟩ = some (.int .u8 (Go.Proofs.Ytlafnkcmdnfcpaa.u8 (buf.getD (L + j) 0))) := by rw [HCR.out.cell, Nat.add_assoc, crow_buf (by rw [HCP.out.bufl]; omega)]
          have csr : wr.cell? ⟨bs, os + j, none⟩ = some (.int .u8 (Go.Proofs.Ytlafnkcmdnfcpaa.u8 (s.getD j 0))) := drain_src HS.out HDR.out HKR.out (by rw [HSL.out]; omega) (by rw [HDL.out]; omega)
          have cdr := HDR.out.cell (i := j) (by rw [upd_len (by rw [HDL.out]; omega), HDL.out]; omega)
          have fdr := HDR.out.free (hd.length + j)
          have hjn : (j : Int) < n := by omega
          go_wp2_with fail
          go_roundw
          case rel =>
            refine ⟨j + 1, by omega, by go_num, drain_step HDR.out (by rw [HDL.out]; omega) rfl (by rw [HL0.out]; rfl), HKR.out.own _⟩
          case measure => simp [intOf]; omega
        · have hjk : n = j := by omega
          subst hjk
          have HC2 : Hid (CipB (wr.setCell ⟨b, 76, none⟩ (.int .i64 ((len - n : Nat) : Int))) b K (UInt32.ofNat q) buf (len - n) ovf pre p) := Lib.hid (HCR.out.set76 HCP.out.bufl (len - n))
          have HP2 : Hid (CipP K (a + n) (UInt32.ofNat q) buf (len - n) ovf pre p q) := Lib.hid (by have := HCP.out.drain (k := n) (by omega); rwa [show len - n = len - n by omega] at this)
          have HK2 : Hid (Keeps (fun q => q = b ∨ q = bd) w (wr.setCell ⟨b, 76, none⟩ (.int .i64 ((len - n : Nat) : Int)))) := Lib.hid ((HKR.out.mono (T := fun q => q = b ∨ q = bd) (fun _ _ e => Or.inr e)).setCell (p := ⟨b, 76, none⟩) (Or.inl (Or.inl rfl)) _)
          have HDU : Hid (DstB (wr.setCell ⟨b, 76, none⟩ (.int .i64 ((len - n : Nat) : Int))) bd hd tl (upd D s (fun i => buf.getD (64 - len + i) 0) n)) := Lib.hid (HDR.out.keeps ((Keeps.refl (fun q => q = b) wr).own _) (fun e => HNE.out e.symm))
          have HKS := Lib.hid (ks_at (K := K) (a := a) (s := s) (buf := buf) (ln := len) (k := n) HCP.out.ks (by omega) (by rw [HSL.out]; omega))
          have HFIN : Hid (∀ m, XR K w b bd hd tl a s ((wr.setCell ⟨b, 76, none⟩ (.int .i64 ((len - n : Nat) : Int))).drewN m)) := Lib.hid (fun m => by
            have hd' := HDU.out
            have hks := HKS.out
            have hsl := HSL.out
            rw [upd_split (by omega), hks, List.drop_eq_nil_of_le (by rw [HDL.out]; omega), List.append_nil, List.take_of_length_le (by omega)] at hd'
            have hp2 := HP2.out
            refine ⟨hd', ⟨_, buf, _, ovf, pre, p, q, HC2.out, ?_⟩, HK2.out.drewN m⟩
            rw [show a + s.length = a + n by omega]
            exact hp2)
          have HNE2 : Hid (¬ endK < a + n) := Lib.hid (by have := HAT.out; have := HCP.out.qle; unfold endK; omega)
          go_wp2_with fail
          by_cases hc1 : cd = n
          · by_cases hc2 : cs = n
            · go_quiet (fail)
              refine HK1.out _ _ ?_
              clear HK1
              refine wp_seq_hold (fun K2 HK2' => ?_)
              go_wp2_with fail
              exact (HH.out HNE2.out _ _ rfl (HFIN.out _)).2
            · go_quiet (fail)
              refine HK1.out _ _ ?_
              clear HK1
              refine wp_seq_hold (fun K2 HK2' => ?_)
              go_wp2_with fail
              exact (HH.out HNE2.out _ _ rfl (HFIN.out _)).2
          · by_cases hc2 : cs = n
            · go_quiet (fail)
              refine HK1.out _ _ ?_
              clear HK1
              refine wp_seq_hold (fun K2 HK2' => ?_)
              go_wp2_with fail
              exact (HH.out HNE2.out _ _ rfl (HFIN.out _)).2
            · go_quiet (fail)
              refine HK1.out _ _ ?_
              clear HK1
              refine wp_seq_hold (fun K2 HK2' => ?_)
              go_wp2_with fail
              exact (HH.out HNE2.out _ _ rfl (HFIN.out _)).2
    · obtain ⟨L, hL0⟩ : ∃ L, L = 64 - n := ⟨_, rfl⟩
      have hlo : (64 : Int) - (n : Int) = (L : Int) := by omega
      have wlo : IntKind.i64.wrap (L : Int) = (L : Int) := by rw [IntKind.wrap_i64]; omega
      have hL1 : 64 - L = n := by omega
      have hL2 : ¬ L = 64 := by omega
      have hL3 : (L : Int) ≤ 64 := by omega
      have hL4 : (0 : Int) ≤ L := by omega
      subst hcmp
      have hk1 : ((n : Nat) : Int) - 1 = ((n - 1 : Nat) : Int) := by omega
      have wk1 : IntKind.i64.wrap ((n - 1 : Nat) : Int) = ((n - 1 : Nat) : Int) := by have := HN.out; rw [IntKind.wrap_i64]; omega
      have hk2 : (((n - 1 : Nat)) : Int) < (n : Int) := by omega
      have hk3 : (0 : Int) ≤ ((n - 1 : Nat) : Int) := by omega
      have clast := HSB.out (n - 1) (by rw [HSL.out]; omega)
      have hsub : (n : Int) - ((n : Nat) : Int) = ((n - n : Nat) : Int) := by omega
      have wsub : IntKind.i64.wrap ((n - n : Nat) : Int) = ((n - n : Nat) : Int) := by rw [IntKind.wrap_i64]; omega
      have hkk0 : ¬ n = 0 := by omega
      have hkn : ((n : Nat) : Int) ≤ n := by omega
      have hkd : ((n : Nat) : Int) ≤ cd := by omega
      have hks : ((n : Nat) : Int) ≤ cs := by omega
      have hkz : (0 : Int) ≤ ((n : Nat) : Int) := by omega
      have HL0 := Lib.hid hL0
      clear hL0
      refine wp_seq_hold (fun K1 HK1 => ?_)
      go_wp2_with fail
      go_quiet (fail)
      go_wp2_with fail
      go_loopw [57] (fun i wr => DrainRel w bd hd tl D s (fun i => buf.getD (64 - n + i) 0) n i wr) (fun i _ => n - (intOf i).toNat)
      case atStart => exact ⟨0, Nat.zero_le _, rfl, by rw [upd_zero]; exact HD.out, (Keeps.refl _ w).drewN _⟩
      case round =>
        obtain ⟨j, hj, rfl, hdr, hkr⟩ := hrel
        have HDR := Lib.hid hdr
        have HKR := Lib.hid hkr
        have HCR := Lib.hid (HC.out.keeps hkr HNE.out)
        have c76 : wr.cell? ⟨b, 76, none⟩ = some (.int .i64 (n : Int)) := by rw [HCR.out.cell, crow_76 HCP.out.bufl]
        have f76 := HCR.out.free 76
        clear hdr hkr
        by_cases hlt : j < n
        · have cb : wr.cell? ⟨b, 12 + L + j, none⟩ = some (.int .u8 (Go.Proofs.Ytlafnkcmdnfcpaa.u8 (buf.getD (L + j) 0))) := by rw [HCR.out.cell, Nat.add_assoc, crow_buf (by rw [HCP.out.bufl]; omega)]
          have csr : wr.cell? ⟨bs, os + j, none⟩ = some (.int .u8 (Go.Proofs.Ytlafnkcmdnfcpaa.u8 (s.getD j 0))) := drain_src HS.out HDR.out HKR.out (by rw [HSL.out]; omega) (by rw [HDL.out]; omega)
          have cdr := HDR.out.cell (i := j) (by rw [upd_len (by rw [HDL.out]; omega), HDL.out]; omega)
          have fdr := HDR.out.free (hd.length + j)
          have hjn : (j : Int) < n := by omega
          go_wp2_with fail
          go_roundw
          case rel =>
            refine ⟨j + 1, by omega, by go_num, drain_step HDR.out (by rw [HDL.out]; omega) rfl (by rw [HL0.out]; rfl), HKR.out.own _⟩
          case measure => simp [intOf]; omega
        · have hjk : n = j := by omega
          subst hjk
          have HC2 : Hid (CipB (wr.setCell ⟨b, 76, none⟩ (.int .i64 ((0 : Nat) : Int))) b K (UInt32.ofNat q) buf (0) ovf pre p) := Lib.hid (HCR.out.set76 HCP.out.bufl (0))
          have HP2 : Hid (CipP K (a + n) (UInt32.ofNat q) buf (0) ovf pre p q) := Lib.hid (by have := HCP.out.drain (k := n) (by omega); rwa [show n - n = 0 by omega] at this)
          have HK2 : Hid (Keeps (fun q => q = b ∨ q = bd) w (wr.setCell ⟨b, 76, none⟩ (.int .i64 ((0 : Nat) : Int)))) := Lib.hid ((HKR.out.mono (T := fun q => q = b ∨ q = bd) (fun _ _ e => Or.inr e)).setCell (p := ⟨b, 76, none⟩) (Or.inl (Or.inl rfl)) _)
          have HDU : Hid (DstB (wr.setCell ⟨b, 76, none⟩ (.int .i64 ((0 : Nat) : Int))) bd hd tl (upd D s (fun i => buf.getD (64 - n + i) 0) n)) := Lib.hid (HDR.out.keeps ((Keeps.refl (fun q => q = b) wr).own _) (fun e => HNE.out e.symm))
          have HKS := Lib.hid (ks_at (K := K) (a := a) (s := s) (buf := buf) (ln := n) (k := n) HCP.out.ks (by omega) (by rw [HSL.out]; omega))
          have HFIN : Hid (∀ m, XR K w b bd hd tl a s ((wr.setCell ⟨b, 76, none⟩ (.int .i64 ((0 : Nat) : Int))).drewN m)) := Lib.hid (fun m => by
            have hd' := HDU.out
            have hks := HKS.out
            have hsl := HSL.out
            rw [upd_split (by omega), hks, List.drop_eq_nil_of_le (by rw [HDL.out]; omega), List.append_nil, List.take_of_length_le (by omega)] at hd'
            have hp2 := HP2.out
            refine ⟨hd', ⟨_, buf, _, ovf, pre, p, q, HC2.out, ?_⟩, HK2.out.drewN m⟩
            rw [show a + s.length = a + n by omega]
            exact hp2)
          have HNE2 : Hid (¬ endK < a + n) := Lib.hid (by have := HAT.out; have := HCP.out.qle; unfold endK; omega)
          go_wp2_with fail
          by_cases hc1 : cd = n
          · by_cases hc2 : cs = n
            · go_quiet (fail)
              refine HK1.out _ _ ?_
              clear HK1
              refine wp_seq_hold (fun K2 HK2' => ?_)
              go_wp2_with fail
              exact (HH.out HNE2.out _ _ rfl (HFIN.out _)).2
            · go_quiet (fail)
              refine HK1.out _ _ ?_
              clear HK1
              refine wp_seq_hold (fun K2 HK2' => ?_)
              go_wp2_with fail
              exact (HH.out HNE2.out _ _ rfl (HFIN.out _)).2
          · by_cases hc2 : cs = n
            · go_quiet (fail)
              refine HK1.out _ _ ?_
              clear HK1
              refine wp_seq_hold (fun K2 HK2' => ?_)
              go_wp2_with fail
              exact (HH.out HNE2.out _ _ rfl (HFIN.out _)).2
            · go_quiet (fail)
              refine HK1.out _ _ ?_
              clear HK1
              refine wp_seq_hold (fun K2 HK2' => ?_)
              go_wp2_with fail
              exact (HH.out HNE2.out _ _ rfl (HFIN.out _)).2
    · obtain ⟨L, hL0⟩ : ∃ L, L = 64 - len := ⟨_, rfl⟩
      have hlo : (64 : Int) - (len : Int) = (L : Int) := by omega
      have wlo : IntKind.i64.wrap (L : Int) = (L : Int) := by rw [IntKind.wrap_i64]; omega
      have hL1 : 64 - L = len := by omega
      have hL2 : ¬ L = 64 := by omega
      have hL3 : (L : Int) ≤ 64 := by omega
      have hL4 : (0 : Int) ≤ L := by omega
      have hc64 : ¬ (n : Int) < (len : Int) := by omega
      have hk1 : ((len : Nat) : Int) - 1 = ((len - 1 : Nat) : Int) := by omega
      have wk1 : IntKind.i64.wrap ((len - 1 : Nat) : Int) = ((len - 1 : Nat) : Int) := by have := HN.out; rw [IntKind.wrap_i64]; omega
      have hk2 : (((len - 1 : Nat)) : Int) < (n : Int) := by omega
      have hk3 : (0 : Int) ≤ ((len - 1 : Nat) : Int) := by omega
      have clast := HSB.out (len - 1) (by rw [HSL.out]; omega)
      have hsub : (len : Int) - ((len : Nat) : Int) = ((len - len : Nat) : Int) := by omega
      have wsub : IntKind.i64.wrap ((len - len : Nat) : Int) = ((len - len : Nat) : Int) := by rw [IntKind.wrap_i64]; omega
      have hkk0 : ¬ len = 0 := by omega
      have hkn : ((len : Nat) : Int) ≤ n := by omega
      have hkd : ((len : Nat) : Int) ≤ cd := by omega
      have hks : ((len : Nat) : Int) ≤ cs := by omega
      have hkz : (0 : Int) ≤ ((len : Nat) : Int) := by omega
      have HL0 := Lib.hid hL0
      clear hL0
      refine wp_seq_hold (fun K1 HK1 => ?_)
      go_wp2_with fail
      go_quiet (fail)
      go_wp2_with fail
      go_loopw [57] (fun i wr => DrainRel w bd hd tl D s (fun i => buf.getD (64 - len + i) 0) len i wr) (fun i _ => len - (intOf i).toNat)
      case atStart => exact ⟨0, Nat.zero_le _, rfl, by rw [upd_zero]; exact HD.out, (Keeps.refl _ w).drewN _⟩
      case round =>
        obtain ⟨j, hj, rfl, hdr, hkr⟩ := hrel
        have HDR := Lib.hid hdr
        have HKR := Lib.hid hkr
        have HCR := Lib.hid (HC.out.keeps hkr HNE.out)
        have c76 : wr.cell? ⟨b, 76, none⟩ = some (.int .i64 (len : Int)) := by rw [HCR.out.cell, crow_76 HCP.out.bufl]
        have f76 := HCR.out.free 76
        clear hdr hkr
        by_cases hlt : j < len
        · have cb : wr.cell? ⟨b, 12 + L + j, none⟩ = some (.int .u8 (Go.Proofs.Ytlafnkcmdnfcpaa.u8 (buf.getD (L + j) 0))) := by rw [HCR.out.cell, Nat.add_assoc, crow_buf (by rw [HCP.out.bufl]; omega)]
          have csr : wr.cell? ⟨bs, os + j, none⟩ = some (.int .u8 (Go.Proofs.Ytlafnkcmdnfcpaa.u8 (s.getD j 0))) := drain_src HS.out HDR.out HKR.out (by rw [HSL.out]; omega) (by rw [HDL.out]; omega)
          have cdr := HDR.out.cell (i := j) (by rw [upd_len (by rw [HDL.out]; omega), HDL.out]; omega)
          have fdr := HDR.out.free (hd.length + j)
          have hjn : (j : Int) < n := by omega
          go_wp2_with fail
          go_roundw
          case rel =>
            refine ⟨j + 1, by omega, by go_num, drain_step HDR.out (by rw [HDL.out]; omega) rfl (by rw [HL0.out]; rfl), HKR.out.own _⟩
          case measure => simp [intOf]; omega
        · have hjk : len = j := by omega
          subst hjk
          have HC2 : Hid (CipB (wr.setCell ⟨b, 76, none⟩ (.int .i64 ((0 : Nat) : Int))) b K (UInt32.ofNat q) buf (0) ovf pre p) := Lib.hid (HCR.out.set76 HCP.out.bufl (0))
          have HP2 : Hid (CipP K (a + len) (UInt32.ofNat q) buf (0) ovf pre p q) := Lib.hid (by have := HCP.out.drain (k := len) (by omega); rwa [show len - len = 0 by omega] at this)
          have HK2 : Hid (Keeps (fun q => q = b ∨ q = bd) w (wr.setCell ⟨b, 76, none⟩ (.int .i64 ((0 : Nat) : Int)))) := Lib.hid ((HKR.out.mono (T := fun q => q = b ∨ q = bd) (fun _ _ e => Or.inr e)).setCell (p := ⟨b, 76, none⟩) (Or.inl (Or.inl rfl)) _)
          have HDU : Hid (DstB (wr.setCell ⟨b, 76, none⟩ (.int .i64 ((0 : Nat) : Int))) bd hd tl (upd D s (fun i => buf.getD (64 - len + i) 0) len)) := Lib.hid (HDR.out.keeps ((Keeps.refl (fun q => q = b) wr).own _) (fun e => HNE.out e.symm))
          have HKS := Lib.hid (ks_at (K := K) (a := a) (s := s) (buf := buf) (ln := len) (k := len) HCP.out.ks (by omega) (by rw [HSL.out]; omega))
          have hc1 : ¬ cd = len := by omega
          have hc2 : ¬ cs = len := by omega
          obtain ⟨n', hn'⟩ : ∃ n', n' = n - len := ⟨_, rfl⟩
          have hnn := hn'.symm
          have HNN := Lib.hid hn'
          have hn0' : ¬ n' = 0 := by omega
          clear hn'
          go_wp2_with fail
          go_quiet (fail)
          refine HK1.out _ _ ?_
          clear HK1
          try rw [hnn]
          refine wp_seq_hold (fun K2 HK2' => ?_)
          go_wp2_with fail
          refine HK2'.out _ _ ?_
          clear HK2' K2
          have haq : a + len = 64 * q := HAT.out
          have hC := HC2.out
          refine xks5_c Q K b bd (hd.length + len) bs (os + len) n' (cd - len) (cs - len) q (hd ++ vals8 (xs (fun i => K.ks (a + i)) (s.take len))) tl (D.drop len) (s.drop len) buf ovf pre p _ _ _ _ _ _ _ _ _ _ _ _ _ _ _ _ _ _ _ _ _ _ _ _ _ _ _ _ _ _ _ _ _ _ _ _ _ _ _ _ _ _ _ _ _ _ _ _ _ _ _ _ _ _ _ _ _ _ _ _ _ _ _ _ _ _ _ _ _ _ _ _ _ _ _ _ _ _ _ _ _ _ _ _ _ _ _ _ _ _ _ _ _ _ _ _ _ _ _ _ _ _ _ _ _ _ _ _ _ _ _ _ _ _ _ _ _ _ _ _ _ _ _ _ _ _ _ _ _ _ _ _ _ _ _ _ _ _ _ _ _ _ _ _ _ _ _ _ _ _ _ _ _ _ _ _ _ _ _ _ _ _ _ _ _ _ _ _ _ _ _ _ _ _ _ _ _ _ _ _ _ _ _ _ _ _ _ _ _ _ _ _ _ _ _ _ _ _ _ _ _ _ _ _ _ _ _ _ _ _ _ _ _ _ _ _ hC HCP.out.bufl HCP.out.pl HCP.out.pp HNE.out HNB.out ?_ ?_ ?_ ?_ ?_ ?_ ?_ ?_ ?_ ?_ HCP.out.qle HCP.out.ovfeq ?_ ?_
          · have hd' := drain_dst HDU.out (by rw [HSL.out]; omega)
            rw [HKS.out] at hd'
            exact hd'
          · rw [List.length_append, vals8_len, xs_len, List.length_take, HSL.out]; omega
          · rw [List.length_drop, HDL.out]; exact HNN.out.symm
          · rw [List.length_drop, HSL.out]; exact HNN.out.symm
          · exact SrcR.rest HS.out HNB.out (HK2.out.drewN _)
          · omega
          · omega
          · have := HCM.out; omega
          · omega
          · have := HN.out; omega
          · intro he a' w' ha hx
            refine (HH.out (by omega) a' w' ha ?_).1
            refine XR.two (k := len) (by rw [HSL.out]; omega) HK2.out ?_
            rw [haq]
            exact ⟨hx.1, hx.2.1, ((Keeps.refl _ _).drewN _).trans hx.2.2⟩
          · intro he a' x ha
            exact HPAN.out (by omega) a' x _ ha (HK2.out.drewN _)

end Go.Proofs.Ytlafnkcmdnfcpaa
