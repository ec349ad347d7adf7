/-
  The walk of laws.FnLess: its script, on every way.
-/
import Derived.Test.YtaapglpnofmmlaaLess6
import Derived.Test.YtaapglpnofmmlaaHeld
import Derived.Deep.QuietTactic
namespace Go.Proofs.Ytaapglpnofmmlaa
open Go Go.RowKit
set_option linter.unusedVariables false
attribute [local irreducible] Cha.iter Cha.rounds Cha.dbl Cha.qr ckOf run doA doN CK.ks withinB xs
theorem run_less (K : CK) (c d : UInt32) (m1 m2 : Nat) (h : 64 * c.toNat + m1 + m2 ≤ endK) (hd : 64 * d.toNat < 64 * c.toNat + m1 + m2) : ∃ B1 B2, run K 0 [atS c, intoS (zerosN m1), intoS (zerosN m2), atS d] = [⟨[], false⟩, ⟨B1, false⟩, ⟨B2, false⟩, ⟨[], true⟩] := by
  refine ⟨xs (fun i => K.ks (64 * c.toNat + i)) (zerosN m1), xs (fun i => K.ks (64 * c.toNat + (zerosN m1).length + i)) (zerosN m2), ?_⟩
  rw [run_at _ _ _ _ (Nat.zero_le _), run_into _ _ _ _ (by rw [zerosN_len]; omega), run_into _ _ _ _ (by rw [zerosN_len, zerosN_len]; omega), run_back _ _ _ _ (by rw [zerosN_len, zerosN_len]; exact hd)]
set_option maxRecDepth 100000 in
set_option maxHeartbeats 4000000 in
theorem ls5_c (R : Ending → World → Prop) (bk : Nat) (key nonce : List UInt8) (long : Bool) (c d : UInt32) (b x : UInt8) (r0 r1 r5 r9 r10 r11 r12 r13 r14 r15 r17 r18 r19 r20 r21 r22 r23 r24 r25 r26 r27 r28 r29 r30 r31 r32 r33 r34 r35 r36 r37 r38 r39 r40 r41 r42 r43 r44 r45 r46 r47 r48 r49 r50 r51 r52 r53 r54 r55 r56 r57 r58 r59 r60 r61 r62 r63 r64 r65 r66 r67 r68 r69 r70 r71 r72 r73 r74 r75 r76 r77 r78 r79 r80 r81 r82 r83 r84 r85 r86 r87 r88 r89 r90 r91 r92 : Value) (w : World) (hk : key.length = 32) (hnl : nonce.length = 24)
    (hbk : w.heap[bk]? = some (.cells (cells8 key) 27 (0, 0))) (hbn : w.heap[bk + 1]? = some (.cells (cells8 nonce) 28 (0, 0)))
    (hc : c.toNat + b.toNat ≤ 4294967295) (hd : d.toNat < c.toNat + b.toNat)
    (h : ∀ w', Fresh w w' → R (.returned (.bool true)) w') : Code.wp Try.prog ls5 (bodyPost Try.prog Try.f10 R) ⟨#[r0, r1, .bool long, .int .u32 (u32 c), .int .u8 (u8 b), r5, .int .u8 (u8 x), .pointer (some ⟨bk, 0, none⟩), .pointer (some ⟨bk + 1, 0, none⟩), r9, r10, r11, r12, r13, r14, r15, .int .u32 (u32 d), r17, r18, r19, r20, r21, r22, r23, r24, r25, r26, r27, r28, r29, r30, r31, r32, r33, r34, r35, r36, r37, r38, r39, r40, r41, r42, r43, r44, r45, r46, r47, r48, r49, r50, r51, r52, r53, r54, r55, r56, r57, r58, r59, r60, r61, r62, r63, r64, r65, r66, r67, r68, r69, r70, r71, r72, r73, r74, r75, r76, r77, r78, r79, r80, r81, r82, r83, r84, r85, r86, r87, r88, r89, r90, r91, r92], []⟩ w := by
  conv => arg 2; whnf
  dsimp only
  have HKL := Lib.hid hk
  have HNL := Lib.hid hnl
  have h1 := cells8_one key
  have h2 := cells8_one nonce
  have HBK := Lib.hid hbk
  have HBN := Lib.hid hbn
  have HH := Lib.hid h
  obtain ⟨m1, hm1⟩ : ∃ m, m = 64 * b.toNat := ⟨_, rfl⟩
  obtain ⟨m2, hm2⟩ : ∃ m, m = x.toNat % 64 := ⟨_, rfl⟩
  have hb256 := b.toNat_lt
  have q1 : 64 * u8 b = (m1 : Int) := by unfold u8; omega
  have q2 : (u8 x).tmod 64 = (m2 : Int) := by unfold u8; rw [Int.tmod_eq_emod_of_nonneg (by omega)]; omega
  have q3 : IntKind.i64.wrap (m1 : Int) = (m1 : Int) := by rw [IntKind.wrap_i64]; omega
  have q4 : IntKind.i64.wrap (m2 : Int) = (m2 : Int) := by rw [IntKind.wrap_i64]; omega
  have q5 : IntKind.i64.wrap (u8 b) = u8 b := by unfold u8; rw [IntKind.wrap_i64]; omega
  have q6 : IntKind.i64.wrap (u8 x) = u8 x := by have := x.toNat_lt; unfold u8; rw [IntKind.wrap_i64]; omega
  have hmk1 := fun W : World => makeN m1 W (by omega)
  have hmk2 := fun W : World => makeN m2 W (by omega)
  have HM1 : Hid (m1 ≤ 16384) := Lib.hid (by omega)
  have HM2 : Hid (m2 ≤ 64) := Lib.hid (by omega)
  have HLS := Lib.hid (run_less (ckOf key (nonL nonce long)) c d m1 m2 (by unfold endK; omega) (by omega))
  clear hk hnl hbk hbn hc hd h hm1 hm2 hb256
  have HF0 : Hid (Fresh w w) := Lib.hid (Keeps.refl _ w)
  refine wp_seq_hold (fun K2 HK2 => ?_)
  go_wp2_with fail
  refine wp_region_wa (fun w' => Fresh w w') 25 rfl (by kernel_rfl) ?_
  have HA1_ : Hid (Fresh w w) := Lib.hid (Keeps.refl _ _)
  have HA2_ : Hid (Fresh w w.drew) := Lib.hid (HF0.out.drew)
  have HA3_ : Hid (Fresh w w.drew) := Lib.hid (HF0.out.drew)
  have HA4_ : Hid (Fresh w w.drew) := Lib.hid (HA1_.out.drew)
  refine wa_quiet 0 (by kernel_rfl) rfl HA4_.out (fun K hK => ?_); go_simp; refine hK _ ?_; clear hK K
  refine wa_load 1 (.agg (cells8 nonce)) (by kernel_rfl) rfl HA4_.out (by rfl) (fun w' hw' => load24 _ rfl rfl HNL.out HBN.out (HF0.out.trans hw')) ?_
  refine wa_quiet 2 (by kernel_rfl) rfl HA4_.out (fun K hK => ?_); go_simp; refine hK _ ?_; clear hK K
  refine wa_quiet 4 (by kernel_rfl) rfl HA4_.out (fun K hK => ?_); go_simp; refine hK _ ?_; clear hK K
  refine wa_quiet 6 (by kernel_rfl) rfl HA4_.out (fun K hK => ?_); go_simp; refine hK _ ?_; clear hK K
  refine wa_quiet 7 (by kernel_rfl) rfl HA4_.out (fun K hK => ?_); go_simp; refine hK _ ?_; clear hK K
  refine wa_quiet 8 (by kernel_rfl) rfl HA4_.out (fun K hK => ?_); go_simp; refine hK _ ?_; clear hK K
  refine wa_quiet 11 (by kernel_rfl) rfl HA4_.out (fun K hK => ?_); go_simp; refine hK _ ?_; clear hK K
  refine wa_quiet 12 (by kernel_rfl) rfl HA4_.out (fun K hK => ?_); go_simp; refine hK _ ?_; clear hK K
  refine wa_quiet 13 (by kernel_rfl) rfl HA4_.out (fun K hK => ?_); go_simp; refine hK _ ?_; clear hK K
  refine wa_quiet 16 (by kernel_rfl) rfl HA4_.out (fun K hK => ?_); go_simp; refine hK _ ?_; clear hK K
  refine wa_all [3, 9, 14] (by kernel_rfl) (by decide) (fun i hi => ?_)
  simp only [List.mem_cons, List.not_mem_nil, or_false] at hi
  rcases hi with rfl | rfl | rfl
  · refine wa_loud rfl (fun K hK => ?_)
    go_wp2_with fail
    refine (nonceOf_c nonce long _ HNL.out).mono ?_
    rintro e w5_ ⟨vN, rfl, hs, hf⟩
    obtain ⟨p6_, c7_, rfl⟩ := hs.slice
    have HN8_ := Lib.hid hs
    have HA9_ : Hid (Fresh w w5_) := Lib.hid (HA2_.out.trans hf)
    have HA10_ : Hid (Fresh w w5_) := Lib.hid (HA3_.out.trans hf)
    have HA11_ : Hid (Fresh w w5_) := Lib.hid (HA4_.out.trans hf)
    clear hs hf
    have HA12_ : Hid (Fresh w5_ w5_) := Lib.hid (Keeps.refl _ _)
    go_wp2_with fail
    refine hK _ _ HA11_.out ?_
    clear hK K
    refine wa_all [5, 9, 14] (by kernel_rfl) (by decide) (fun i hi => ?_)
    simp only [List.mem_cons, List.not_mem_nil, or_false] at hi
    rcases hi with rfl | rfl | rfl
    · refine wa_loud rfl (fun K hK => ?_)
      go_wp2_with fail
      refine (at_c (c) _).mono ?_
      rintro e w13_ ⟨rfl, hf⟩
      have HA14_ : Hid (Fresh w w13_) := Lib.hid (HA9_.out.trans hf)
      have HA15_ : Hid (Fresh w w13_) := Lib.hid (HA10_.out.trans hf)
      have HA16_ : Hid (Fresh w w13_) := Lib.hid (HA11_.out.trans hf)
      have HA17_ : Hid (Fresh w5_ w13_) := Lib.hid (HA12_.out.trans hf)
      clear hf
      try simp only [stV, atS]
      go_wp2_with fail
      refine hK _ _ HA16_.out ?_
      clear hK K
      refine wa_all [9, 14] (by kernel_rfl) (by decide) (fun i hi => ?_)
      simp only [List.mem_cons, List.not_mem_nil, or_false] at hi
      rcases hi with rfl | rfl
      · refine wa_loud rfl (fun K hK => ?_)
        go_wp2_with fail
        generalize hw19_ : w13_.alloc _ = w18_
        have HM20_ : Hid (SlB w18_ (.slice (some ⟨w13_.heap.size, 0, none⟩) m1 m1) (zerosN m1)) := Lib.hid (by rw [← hw19_]; exact makeN_sl m1 _ (by have := HM1.out; omega))
        have HA22_ : Hid (Fresh w w18_) := Lib.hid ((by rw [← hw19_]; exact HA14_.out.alloc _))
        have HA23_ : Hid (Fresh w w18_) := Lib.hid ((by rw [← hw19_]; exact HA15_.out.alloc _))
        have HA24_ : Hid (Fresh w w18_) := Lib.hid ((by rw [← hw19_]; exact HA16_.out.alloc _))
        have HA25_ : Hid (Fresh w5_ w18_) := Lib.hid ((by rw [← hw19_]; exact HA17_.out.alloc _))
        clear hw19_
        have HA26_ : Hid (Fresh w18_ w18_) := Lib.hid (Keeps.refl _ _)
        refine hK _ _ HA24_.out ?_
        clear hK K
        refine wa_all [10, 14] (by kernel_rfl) (by decide) (fun i hi => ?_)
        simp only [List.mem_cons, List.not_mem_nil, or_false] at hi
        rcases hi with rfl | rfl
        · refine wa_loud rfl (fun K hK => ?_)
          go_wp2_with fail
          refine (into_c (.slice (some ⟨w13_.heap.size, 0, none⟩) m1 m1) (zerosN m1) _ (HM20_.out.fresh HA26_.out)).mono ?_
          rintro e w27_ ⟨rfl, hf⟩
          have HA28_ : Hid (Fresh w w27_) := Lib.hid (HA22_.out.trans hf)
          have HA29_ : Hid (Fresh w w27_) := Lib.hid (HA23_.out.trans hf)
          have HA30_ : Hid (Fresh w w27_) := Lib.hid (HA24_.out.trans hf)
          have HA31_ : Hid (Fresh w5_ w27_) := Lib.hid (HA25_.out.trans hf)
          have HA32_ : Hid (Fresh w18_ w27_) := Lib.hid (HA26_.out.trans hf)
          clear hf
          try simp only [stV, intoS]
          go_wp2_with fail
          refine hK _ _ HA30_.out ?_
          clear hK K
          refine wa_all [14] (by kernel_rfl) (by decide) (fun i hi => ?_)
          simp only [List.mem_cons, List.not_mem_nil, or_false] at hi
          subst hi
          refine wa_loud rfl (fun K hK => ?_)
          go_wp2_with fail
          generalize hw34_ : w27_.alloc _ = w33_
          have HM35_ : Hid (SlB w33_ (.slice (some ⟨w27_.heap.size, 0, none⟩) m2 m2) (zerosN m2)) := Lib.hid (by rw [← hw34_]; exact makeN_sl m2 _ (by have := HM2.out; omega))
          have HA37_ : Hid (Fresh w w33_) := Lib.hid ((by rw [← hw34_]; exact HA28_.out.alloc _))
          have HA38_ : Hid (Fresh w w33_) := Lib.hid ((by rw [← hw34_]; exact HA29_.out.alloc _))
          have HA39_ : Hid (Fresh w w33_) := Lib.hid ((by rw [← hw34_]; exact HA30_.out.alloc _))
          have HA40_ : Hid (Fresh w5_ w33_) := Lib.hid ((by rw [← hw34_]; exact HA31_.out.alloc _))
          have HA41_ : Hid (Fresh w18_ w33_) := Lib.hid ((by rw [← hw34_]; exact HA32_.out.alloc _))
          clear hw34_
          have HA42_ : Hid (Fresh w33_ w33_) := Lib.hid (Keeps.refl _ _)
          refine hK _ _ HA39_.out ?_
          clear hK K
          refine wa_all [15] (by kernel_rfl) (by decide) (fun i hi => ?_)
          simp only [List.mem_cons, List.not_mem_nil, or_false] at hi
          subst hi
          refine wa_loud rfl (fun K hK => ?_)
          go_wp2_with fail
          refine (into_c (.slice (some ⟨w27_.heap.size, 0, none⟩) m2 m2) (zerosN m2) _ (HM35_.out.fresh HA42_.out)).mono ?_
          rintro e w43_ ⟨rfl, hf⟩
          have HA44_ : Hid (Fresh w w43_) := Lib.hid (HA37_.out.trans hf)
          have HA45_ : Hid (Fresh w w43_) := Lib.hid (HA38_.out.trans hf)
          have HA46_ : Hid (Fresh w w43_) := Lib.hid (HA39_.out.trans hf)
          have HA47_ : Hid (Fresh w5_ w43_) := Lib.hid (HA40_.out.trans hf)
          have HA48_ : Hid (Fresh w18_ w43_) := Lib.hid (HA41_.out.trans hf)
          have HA49_ : Hid (Fresh w33_ w43_) := Lib.hid (HA42_.out.trans hf)
          clear hf
          try simp only [stV, intoS]
          go_wp2_with fail
          refine hK _ _ HA46_.out ?_
          clear hK K
          refine wa_all [17] (by kernel_rfl) (by decide) (fun i hi => ?_)
          simp only [List.mem_cons, List.not_mem_nil, or_false] at hi
          subst hi
          refine wa_loud rfl (fun K hK => ?_)
          go_wp2_with fail
          refine (at_c (d) _).mono ?_
          rintro e w50_ ⟨rfl, hf⟩
          have HA51_ : Hid (Fresh w w50_) := Lib.hid (HA44_.out.trans hf)
          have HA52_ : Hid (Fresh w w50_) := Lib.hid (HA45_.out.trans hf)
          have HA53_ : Hid (Fresh w w50_) := Lib.hid (HA46_.out.trans hf)
          have HA54_ : Hid (Fresh w5_ w50_) := Lib.hid (HA47_.out.trans hf)
          have HA55_ : Hid (Fresh w18_ w50_) := Lib.hid (HA48_.out.trans hf)
          have HA56_ : Hid (Fresh w33_ w50_) := Lib.hid (HA49_.out.trans hf)
          clear hf
          try simp only [stV, atS]
          go_wp2_with fail
          refine hK _ _ HA53_.out ?_
          clear hK K
          refine wa_all [18] (by kernel_rfl) (by decide) (fun i hi => ?_)
          simp only [List.mem_cons, List.not_mem_nil, or_false] at hi
          subst hi
          refine wa_loud rfl (fun K hK => ?_)
          go_wp2_with fail
          generalize hw58_ : w50_.alloc _ = w57_
          have HA60_ : Hid (Fresh w w57_) := Lib.hid ((by rw [← hw58_]; exact HA51_.out.alloc _))
          have HA61_ : Hid (Fresh w w57_) := Lib.hid ((by rw [← hw58_]; exact HA52_.out.alloc _))
          have HA62_ : Hid (Fresh w w57_) := Lib.hid ((by rw [← hw58_]; exact HA53_.out.alloc _))
          have HA63_ : Hid (Fresh w5_ w57_) := Lib.hid ((by rw [← hw58_]; exact HA54_.out.alloc _))
          have HA64_ : Hid (Fresh w18_ w57_) := Lib.hid ((by rw [← hw58_]; exact HA55_.out.alloc _))
          have HA65_ : Hid (Fresh w33_ w57_) := Lib.hid ((by rw [← hw58_]; exact HA56_.out.alloc _))
          have HB59_ := Lib.hid hw58_
          clear hw58_
          refine hK _ _ HA62_.out ?_
          clear hK K
          refine wa_all [19] (by kernel_rfl) (by decide) (fun i hi => ?_)
          simp only [List.mem_cons, List.not_mem_nil, or_false] at hi
          subst hi
          refine wa_loud rfl (fun K hK => ?_)
          go_wp2_with fail
          refine (Run_good (.slice (some ⟨bk, 0, none⟩) 32 32) (.slice p6_ (nonL nonce long).length c7_) _ key (nonL nonce long) [(.slice none 0 0, atS (c)), (.slice (some ⟨w13_.heap.size, 0, none⟩) m1 m1, intoS (zerosN m1)), (.slice (some ⟨w27_.heap.size, 0, none⟩) m2 m2, intoS (zerosN m2)), (.slice none 0 0, atS (d))] _ (SlB.all32 (HA60_.out.at HBK.out) HKL.out (by decide)) (HN8_.out.fresh HA63_.out) HKL.out (nonL_len HNL.out long) (StepsL.lit (b := w50_.heap.size) [(.slice none 0 0, atS (c)), (.slice (some ⟨w13_.heap.size, 0, none⟩) m1 m1, intoS (zerosN m1)), (.slice (some ⟨w27_.heap.size, 0, none⟩) m2 m2, intoS (zerosN m2)), (.slice none 0 0, atS (d))] (by rw [← HB59_.out]; exact heap_alloc_new _ _) rfl (Nat.le_of_ble_eq_true rfl) ?_) (Nat.le_of_ble_eq_true rfl) ?_).mono ?_
          · intro q hq; simp only [List.mem_cons, List.not_mem_nil, or_false] at hq; rcases hq with rfl | rfl | rfl | rfl
            · exact SlB.nil _
            · exact HM20_.out.fresh HA64_.out
            · exact HM35_.out.fresh HA65_.out
            · exact SlB.nil _
          · intro q hq; simp only [List.mem_cons, List.not_mem_nil, or_false] at hq; rcases hq with rfl | rfl | rfl | rfl
            · exact okAt _
            · exact okInto (by rw [zerosN_len]; have := HM1.out; omega)
            · exact okInto (by rw [zerosN_len]; have := HM2.out; omega)
            · exact okAt _
          rintro e w66_ ⟨v, ps, rfl, ho, hp, hf⟩
          have HA67_ : Hid (Fresh w w66_) := Lib.hid (HA60_.out.trans hf)
          have HA68_ : Hid (Fresh w w66_) := Lib.hid (HA61_.out.trans hf)
          have HA69_ : Hid (Fresh w w66_) := Lib.hid (HA62_.out.trans hf)
          have HA70_ : Hid (Fresh w5_ w66_) := Lib.hid (HA63_.out.trans hf)
          have HA71_ : Hid (Fresh w18_ w66_) := Lib.hid (HA64_.out.trans hf)
          have HA72_ : Hid (Fresh w33_ w66_) := Lib.hid (HA65_.out.trans hf)
          have HA73_ : Hid (Fresh w66_ w66_) := Lib.hid (Keeps.refl _ _)
          obtain ⟨B1, B2, hB⟩ := HLS.out
          obtain ⟨gO, cO, rfl, hcO, hx1, hx3, hx5, hx7⟩ := ho.four (hp.trans hB)
          have HX1 := Lib.hid hx1
          have HX3 := Lib.hid hx3
          have HX5 := Lib.hid hx5
          have HX7 := Lib.hid hx7
          have HCO := Lib.hid hcO
          clear ho hp hf hx1 hx3 hx5 hx7 hB hcO
          go_wp2_with fail
          refine hK _ _ HA69_.out ?_
          clear hK K
          refine wa_quiet 20 (by kernel_rfl) rfl HA69_.out (fun K hK => ?_); go_simp; refine hK _ ?_; clear hK K
          refine wa_quiet 21 (by kernel_rfl) rfl HA69_.out (fun K hK => ?_); go_simp; refine hK _ ?_; clear hK K
          refine wa_quiet 23 (by kernel_rfl) rfl HA69_.out (fun K hK => ?_); go_simp; refine hK _ ?_; clear hK K
          refine wa_quiet 22 (by kernel_rfl) rfl HA69_.out (fun K hK => ?_); go_simp; refine hK _ ?_; clear hK K
          refine wa_quiet 24 (by kernel_rfl) rfl HA69_.out (fun K hK => ?_); go_simp; refine hK _ ?_; clear hK K
          refine wa_done (by kernel_rfl) ?_
          go_wp2_with fail
          refine HK2.out _ _ ?_
          refine ls6_c _ gO cO _ _ _ _ _ _ _ _ _ _ _ _ _ _ _ _ _ _ _ _ _ _ _ _ _ _ _ _ _ _ _ _ _ _ _ _ _ _ _ _ _ _ _ _ _ _ _ _ _ _ _ _ _ _ _ _ _ _ _ _ _ _ _ _ _ _ _ _ _ _ _ _ _ _ _ _ _ _ _ _ _ _ _ _ _ _ _ _ _ _ _ _ HCO.out (HA73_.out.cellAt HX1.out (fun x => x)) (HA73_.out.cellAt HX3.out (fun x => x)) (HA73_.out.cellAt HX5.out (fun x => x)) (HA73_.out.cellAt HX7.out (fun x => x)) ?_
          exact HH.out _ HA67_.out
        · refine wa_loud rfl (fun K hK => ?_)
          go_wp2_with fail
          generalize hw28_ : w18_.alloc _ = w27_
          have HM29_ : Hid (SlB w27_ (.slice (some ⟨w18_.heap.size, 0, none⟩) m2 m2) (zerosN m2)) := Lib.hid (by rw [← hw28_]; exact makeN_sl m2 _ (by have := HM2.out; omega))
          have HA31_ : Hid (Fresh w w27_) := Lib.hid ((by rw [← hw28_]; exact HA22_.out.alloc _))
          have HA32_ : Hid (Fresh w w27_) := Lib.hid ((by rw [← hw28_]; exact HA23_.out.alloc _))
          have HA33_ : Hid (Fresh w w27_) := Lib.hid ((by rw [← hw28_]; exact HA24_.out.alloc _))
          have HA34_ : Hid (Fresh w5_ w27_) := Lib.hid ((by rw [← hw28_]; exact HA25_.out.alloc _))
          have HA35_ : Hid (Fresh w18_ w27_) := Lib.hid ((by rw [← hw28_]; exact HA26_.out.alloc _))
          clear hw28_
          have HA36_ : Hid (Fresh w27_ w27_) := Lib.hid (Keeps.refl _ _)
          refine hK _ _ HA33_.out ?_
          clear hK K
          refine wa_all [10] (by kernel_rfl) (by decide) (fun i hi => ?_)
          simp only [List.mem_cons, List.not_mem_nil, or_false] at hi
          subst hi
          refine wa_loud rfl (fun K hK => ?_)
          go_wp2_with fail
          refine (into_c (.slice (some ⟨w13_.heap.size, 0, none⟩) m1 m1) (zerosN m1) _ (HM20_.out.fresh HA35_.out)).mono ?_
          rintro e w37_ ⟨rfl, hf⟩
          have HA38_ : Hid (Fresh w w37_) := Lib.hid (HA31_.out.trans hf)
          have HA39_ : Hid (Fresh w w37_) := Lib.hid (HA32_.out.trans hf)
          have HA40_ : Hid (Fresh w w37_) := Lib.hid (HA33_.out.trans hf)
          have HA41_ : Hid (Fresh w5_ w37_) := Lib.hid (HA34_.out.trans hf)
          have HA42_ : Hid (Fresh w18_ w37_) := Lib.hid (HA35_.out.trans hf)
          have HA43_ : Hid (Fresh w27_ w37_) := Lib.hid (HA36_.out.trans hf)
          clear hf
          try simp only [stV, intoS]
          go_wp2_with fail
          refine hK _ _ HA40_.out ?_
          clear hK K
          refine wa_all [15] (by kernel_rfl) (by decide) (fun i hi => ?_)
          simp only [List.mem_cons, List.not_mem_nil, or_false] at hi
          subst hi
          refine wa_loud rfl (fun K hK => ?_)
          go_wp2_with fail
          refine (into_c (.slice (some ⟨w18_.heap.size, 0, none⟩) m2 m2) (zerosN m2) _ (HM29_.out.fresh HA43_.out)).mono ?_
          rintro e w44_ ⟨rfl, hf⟩
          have HA45_ : Hid (Fresh w w44_) := Lib.hid (HA38_.out.trans hf)
          have HA46_ : Hid (Fresh w w44_) := Lib.hid (HA39_.out.trans hf)
          have HA47_ : Hid (Fresh w w44_) := Lib.hid (HA40_.out.trans hf)
          have HA48_ : Hid (Fresh w5_ w44_) := Lib.hid (HA41_.out.trans hf)
          have HA49_ : Hid (Fresh w18_ w44_) := Lib.hid (HA42_.out.trans hf)
          have HA50_ : Hid (Fresh w27_ w44_) := Lib.hid (HA43_.out.trans hf)
          clear hf
          try simp only [stV, intoS]
          go_wp2_with fail
          refine hK _ _ HA47_.out ?_
          clear hK K
          refine wa_all [17] (by kernel_rfl) (by decide) (fun i hi => ?_)
          simp only [List.mem_cons, List.not_mem_nil, or_false] at hi
          subst hi
          refine wa_loud rfl (fun K hK => ?_)
          go_wp2_with fail
          refine (at_c (d) _).mono ?_
          rintro e w51_ ⟨rfl, hf⟩
          have HA52_ : Hid (Fresh w w51_) := Lib.hid (HA45_.out.trans hf)
          have HA53_ : Hid (Fresh w w51_) := Lib.hid (HA46_.out.trans hf)
          have HA54_ : Hid (Fresh w w51_) := Lib.hid (HA47_.out.trans hf)
          have HA55_ : Hid (Fresh w5_ w51_) := Lib.hid (HA48_.out.trans hf)
          have HA56_ : Hid (Fresh w18_ w51_) := Lib.hid (HA49_.out.trans hf)
          have HA57_ : Hid (Fresh w27_ w51_) := Lib.hid (HA50_.out.trans hf)
          clear hf
          try simp only [stV, atS]
          go_wp2_with fail
          refine hK _ _ HA54_.out ?_
          clear hK K
          refine wa_all [18] (by kernel_rfl) (by decide) (fun i hi => ?_)
          simp only [List.mem_cons, List.not_mem_nil, or_false] at hi
          subst hi
          refine wa_loud rfl (fun K hK => ?_)
          go_wp2_with fail
          generalize hw59_ : w51_.alloc _ = w58_
          have HA61_ : Hid (Fresh w w58_) := Lib.hid ((by rw [← hw59_]; exact HA52_.out.alloc _))
          have HA62_ : Hid (Fresh w w58_) := Lib.hid ((by rw [← hw59_]; exact HA53_.out.alloc _))
          have HA63_ : Hid (Fresh w w58_) := Lib.hid ((by rw [← hw59_]; exact HA54_.out.alloc _))
          have HA64_ : Hid (Fresh w5_ w58_) := Lib.hid ((by rw [← hw59_]; exact HA55_.out.alloc _))
          have HA65_ : Hid (Fresh w18_ w58_) := Lib.hid ((by rw [← hw59_]; exact HA56_.out.alloc _))
          have HA66_ : Hid (Fresh w27_ w58_) := Lib.hid ((by rw [← hw59_]; exact HA57_.out.alloc _))
          have HB60_ := Lib.hid hw59_
          clear hw59_
          refine hK _ _ HA63_.out ?_
          clear hK K
          refine wa_all [19] (by kernel_rfl) (by decide) (fun i hi => ?_)
          simp only [List.mem_cons, List.not_mem_nil, or_false] at hi
          subst hi
          refine wa_loud rfl (fun K hK => ?_)
          go_wp2_with fail
          refine (Run_good (.slice (some ⟨bk, 0, none⟩) 32 32) (.slice p6_ (nonL nonce long).length c7_) _ key (nonL nonce long) [(.slice none 0 0, atS (c)), (.slice (some ⟨w13_.heap.size, 0, none⟩) m1 m1, intoS (zerosN m1)), (.slice (some ⟨w18_.heap.size, 0, none⟩) m2 m2, intoS (zerosN m2)), (.slice none 0 0, atS (d))] _ (SlB.all32 (HA61_.out.at HBK.out) HKL.out (by decide)) (HN8_.out.fresh HA64_.out) HKL.out (nonL_len HNL.out long) (StepsL.lit (b := w51_.heap.size) [(.slice none 0 0, atS (c)), (.slice (some ⟨w13_.heap.size, 0, none⟩) m1 m1, intoS (zerosN m1)), (.slice (some ⟨w18_.heap.size, 0, none⟩) m2 m2, intoS (zerosN m2)), (.slice none 0 0, atS (d))] (by rw [← HB60_.out]; exact heap_alloc_new _ _) rfl (Nat.le_of_ble_eq_true rfl) ?_) (Nat.le_of_ble_eq_true rfl) ?_).mono ?_
          · intro q hq; simp only [List.mem_cons, List.not_mem_nil, or_false] at hq; rcases hq with rfl | rfl | rfl | rfl
            · exact SlB.nil _
            · exact HM20_.out.fresh HA65_.out
            · exact HM29_.out.fresh HA66_.out
            · exact SlB.nil _
          · intro q hq; simp only [List.mem_cons, List.not_mem_nil, or_false] at hq; rcases hq with rfl | rfl | rfl | rfl
            · exact okAt _
            · exact okInto (by rw [zerosN_len]; have := HM1.out; omega)
            · exact okInto (by rw [zerosN_len]; have := HM2.out; omega)
            · exact okAt _
          rintro e w67_ ⟨v, ps, rfl, ho, hp, hf⟩
          have HA68_ : Hid (Fresh w w67_) := Lib.hid (HA61_.out.trans hf)
          have HA69_ : Hid (Fresh w w67_) := Lib.hid (HA62_.out.trans hf)
          have HA70_ : Hid (Fresh w w67_) := Lib.hid (HA63_.out.trans hf)
          have HA71_ : Hid (Fresh w5_ w67_) := Lib.hid (HA64_.out.trans hf)
          have HA72_ : Hid (Fresh w18_ w67_) := Lib.hid (HA65_.out.trans hf)
          have HA73_ : Hid (Fresh w27_ w67_) := Lib.hid (HA66_.out.trans hf)
          have HA74_ : Hid (Fresh w67_ w67_) := Lib.hid (Keeps.refl _ _)
          obtain ⟨B1, B2, hB⟩ := HLS.out
          obtain ⟨gO, cO, rfl, hcO, hx1, hx3, hx5, hx7⟩ := ho.four (hp.trans hB)
          have HX1 := Lib.hid hx1
          have HX3 := Lib.hid hx3
          have HX5 := Lib.hid hx5
          have HX7 := Lib.hid hx7
          have HCO := Lib.hid hcO
          clear ho hp hf hx1 hx3 hx5 hx7 hB hcO
          go_wp2_with fail
          refine hK _ _ HA70_.out ?_
          clear hK K
          refine wa_quiet 20 (by kernel_rfl) rfl HA70_.out (fun K hK => ?_); go_simp; refine hK _ ?_; clear hK K
          refine wa_quiet 21 (by kernel_rfl) rfl HA70_.out (fun K hK => ?_); go_simp; refine hK _ ?_; clear hK K
          refine wa_quiet 23 (by kernel_rfl) rfl HA70_.out (fun K hK => ?_); go_simp; refine hK _ ?_; clear hK K
          refine wa_quiet 22 (by kernel_rfl) rfl HA70_.out (fun K hK => ?_); go_simp; refine hK _ ?_; clear hK K
          refine wa_quiet 24 (by kernel_rfl) rfl HA70_.out (fun K hK => ?_); go_simp; refine hK _ ?_; clear hK K
          refine wa_done (by kernel_rfl) ?_
          go_wp2_with fail
          refine HK2.out _ _ ?_
          refine ls6_c _ gO cO _ _ _ _ _ _ _ _ _ _ _ _ _ _ _ _ _ _ _ _ _ _ _ _ _ _ _ _ _ _ _ _ _ _ _ _ _ _ _ _ _ _ _ _ _ _ _ _ _ _ _ _ _ _ _ _ _ _ _ _ _ _ _ _ _ _ _ _ _ _ _ _ _ _ _ _ _ _ _ _ _ _ _ _ _ _ _ _ _ _ _ _ HCO.out (HA74_.out.cellAt HX1.out (fun x => x)) (HA74_.out.cellAt HX3.out (fun x => x)) (HA74_.out.cellAt HX5.out (fun x => x)) (HA74_.out.cellAt HX7.out (fun x => x)) ?_
          exact HH.out _ HA68_.out
      · refine wa_loud rfl (fun K hK => ?_)
        go_wp2_with fail
        generalize hw19_ : w13_.alloc _ = w18_
        have HM20_ : Hid (SlB w18_ (.slice (some ⟨w13_.heap.size, 0, none⟩) m2 m2) (zerosN m2)) := Lib.hid (by rw [← hw19_]; exact makeN_sl m2 _ (by have := HM2.out; omega))
        have HA22_ : Hid (Fresh w w18_) := Lib.hid ((by rw [← hw19_]; exact HA14_.out.alloc _))
        have HA23_ : Hid (Fresh w w18_) := Lib.hid ((by rw [← hw19_]; exact HA15_.out.alloc _))
        have HA24_ : Hid (Fresh w w18_) := Lib.hid ((by rw [← hw19_]; exact HA16_.out.alloc _))
        have HA25_ : Hid (Fresh w5_ w18_) := Lib.hid ((by rw [← hw19_]; exact HA17_.out.alloc _))
        clear hw19_
        have HA26_ : Hid (Fresh w18_ w18_) := Lib.hid (Keeps.refl _ _)
        refine hK _ _ HA24_.out ?_
        clear hK K
        refine wa_all [9] (by kernel_rfl) (by decide) (fun i hi => ?_)
        simp only [List.mem_cons, List.not_mem_nil, or_false] at hi
        subst hi
        refine wa_loud rfl (fun K hK => ?_)
        go_wp2_with fail
        generalize hw28_ : w18_.alloc _ = w27_
        have HM29_ : Hid (SlB w27_ (.slice (some ⟨w18_.heap.size, 0, none⟩) m1 m1) (zerosN m1)) := Lib.hid (by rw [← hw28_]; exact makeN_sl m1 _ (by have := HM1.out; omega))
        have HA31_ : Hid (Fresh w w27_) := Lib.hid ((by rw [← hw28_]; exact HA22_.out.alloc _))
        have HA32_ : Hid (Fresh w w27_) := Lib.hid ((by rw [← hw28_]; exact HA23_.out.alloc _))
        have HA33_ : Hid (Fresh w w27_) := Lib.hid ((by rw [← hw28_]; exact HA24_.out.alloc _))
        have HA34_ : Hid (Fresh w5_ w27_) := Lib.hid ((by rw [← hw28_]; exact HA25_.out.alloc _))
        have HA35_ : Hid (Fresh w18_ w27_) := Lib.hid ((by rw [← hw28_]; exact HA26_.out.alloc _))
        clear hw28_
        have HA36_ : Hid (Fresh w27_ w27_) := Lib.hid (Keeps.refl _ _)
        refine hK _ _ HA33_.out ?_
        clear hK K
        refine wa_all [10] (by kernel_rfl) (by decide) (fun i hi => ?_)
        simp only [List.mem_cons, List.not_mem_nil, or_false] at hi
        subst hi
        refine wa_loud rfl (fun K hK => ?_)
        go_wp2_with fail
        refine (into_c (.slice (some ⟨w18_.heap.size, 0, none⟩) m1 m1) (zerosN m1) _ (HM29_.out.fresh HA36_.out)).mono ?_
        rintro e w37_ ⟨rfl, hf⟩
        have HA38_ : Hid (Fresh w w37_) := Lib.hid (HA31_.out.trans hf)
        have HA39_ : Hid (Fresh w w37_) := Lib.hid (HA32_.out.trans hf)
        have HA40_ : Hid (Fresh w w37_) := Lib.hid (HA33_.out.trans hf)
        have HA41_ : Hid (Fresh w5_ w37_) := Lib.hid (HA34_.out.trans hf)
        have HA42_ : Hid (Fresh w18_ w37_) := Lib.hid (HA35_.out.trans hf)
        have HA43_ : Hid (Fresh w27_ w37_) := Lib.hid (HA36_.out.trans hf)
        clear hf
        try simp only [stV, intoS]
        go_wp2_with fail
        refine hK _ _ HA40_.out ?_
        clear hK K
        refine wa_all [15] (by kernel_rfl) (by decide) (fun i hi => ?_)
        simp only [List.mem_cons, List.not_mem_nil, or_false] at hi
        subst hi
        refine wa_loud rfl (fun K hK => ?_)
        go_wp2_with fail
        refine (into_c (.slice (some ⟨w13_.heap.size, 0, none⟩) m2 m2) (zerosN m2) _ (HM20_.out.fresh HA42_.out)).mono ?_
        rintro e w44_ ⟨rfl, hf⟩
        have HA45_ : Hid (Fresh w w44_) := Lib.hid (HA38_.out.trans hf)
        have HA46_ : Hid (Fresh w w44_) := Lib.hid (HA39_.out.trans hf)
        have HA47_ : Hid (Fresh w w44_) := Lib.hid (HA40_.out.trans hf)
        have HA48_ : Hid (Fresh w5_ w44_) := Lib.hid (HA41_.out.trans hf)
        have HA49_ : Hid (Fresh w18_ w44_) := Lib.hid (HA42_.out.trans hf)
        have HA50_ : Hid (Fresh w27_ w44_) := Lib.hid (HA43_.out.trans hf)
        clear hf
        try simp only [stV, intoS]
        go_wp2_with fail
        refine hK _ _ HA47_.out ?_
        clear hK K
        refine wa_all [17] (by kernel_rfl) (by decide) (fun i hi => ?_)
        simp only [List.mem_cons, List.not_mem_nil, or_false] at hi
        subst hi
        refine wa_loud rfl (fun K hK => ?_)
        go_wp2_with fail
        refine (at_c (d) _).mono ?_
        rintro e w51_ ⟨rfl, hf⟩
        have HA52_ : Hid (Fresh w w51_) := Lib.hid (HA45_.out.trans hf)
        have HA53_ : Hid (Fresh w w51_) := Lib.hid (HA46_.out.trans hf)
        have HA54_ : Hid (Fresh w w51_) := Lib.hid (HA47_.out.trans hf)
        have HA55_ : Hid (Fresh w5_ w51_) := Lib.hid (HA48_.out.trans hf)
        have HA56_ : Hid (Fresh w18_ w51_) := Lib.hid (HA49_.out.trans hf)
        have HA57_ : Hid (Fresh w27_ w51_) := Lib.hid (HA50_.out.trans hf)
        clear hf
        try simp only [stV, atS]
        go_wp2_with fail
        refine hK _ _ HA54_.out ?_
        clear hK K
        refine wa_all [18] (by kernel_rfl) (by decide) (fun i hi => ?_)
        simp only [List.mem_cons, List.not_mem_nil, or_false] at hi
        subst hi
        refine wa_loud rfl (fun K hK => ?_)
        go_wp2_with fail
        generalize hw59_ : w51_.alloc _ = w58_
        have HA61_ : Hid (Fresh w w58_) := Lib.hid ((by rw [← hw59_]; exact HA52_.out.alloc _))
        have HA62_ : Hid (Fresh w w58_) := Lib.hid ((by rw [← hw59_]; exact HA53_.out.alloc _))
        have HA63_ : Hid (Fresh w w58_) := Lib.hid ((by rw [← hw59_]; exact HA54_.out.alloc _))
        have HA64_ : Hid (Fresh w5_ w58_) := Lib.hid ((by rw [← hw59_]; exact HA55_.out.alloc _))
        have HA65_ : Hid (Fresh w18_ w58_) := Lib.hid ((by rw [← hw59_]; exact HA56_.out.alloc _))
        have HA66_ : Hid (Fresh w27_ w58_) := Lib.hid ((by rw [← hw59_]; exact HA57_.out.alloc _))
        have HB60_ := Lib.hid hw59_
        clear hw59_
        refine hK _ _ HA63_.out ?_
        clear hK K
        refine wa_all [19] (by kernel_rfl) (by decide) (fun i hi => ?_)
        simp only [List.mem_cons, List.not_mem_nil, or_false] at hi
        subst hi
        refine wa_loud rfl (fun K hK => ?_)
        go_wp2_with fail
        refine (Run_good (.slice (some ⟨bk, 0, none⟩) 32 32) (.slice p6_ (nonL nonce long).length c7_) _ key (nonL nonce long) [(.slice none 0 0, atS (c)), (.slice (some ⟨w18_.heap.size, 0, none⟩) m1 m1, intoS (zerosN m1)), (.slice (some ⟨w13_.heap.size, 0, none⟩) m2 m2, intoS (zerosN m2)), (.slice none 0 0, atS (d))] _ (SlB.all32 (HA61_.out.at HBK.out) HKL.out (by decide)) (HN8_.out.fresh HA64_.out) HKL.out (nonL_len HNL.out long) (StepsL.lit (b := w51_.heap.size) [(.slice none 0 0, atS (c)), (.slice (some ⟨w18_.heap.size, 0, none⟩) m1 m1, intoS (zerosN m1)), (.slice (some ⟨w13_.heap.size, 0, none⟩) m2 m2, intoS (zerosN m2)), (.slice none 0 0, atS (d))] (by rw [← HB60_.out]; exact heap_alloc_new _ _) rfl (Nat.le_of_ble_eq_true rfl) ?_) (Nat.le_of_ble_eq_true rfl) ?_).mono ?_
        · intro q hq; simp only [List.mem_cons, List.not_mem_nil, or_false] at hq; rcases hq with rfl | rfl | rfl | rfl
          · exact SlB.nil _
          · exact HM29_.out.fresh HA66_.out
          · exact HM20_.out.fresh HA65_.out
          · exact SlB.nil _
        · intro q hq; simp only [List.mem_cons, List.not_mem_nil, or_false] at hq; rcases hq with rfl | rfl | rfl | rfl
          · exact okAt _
          · exact okInto (by rw [zerosN_len]; have := HM1.out; omega)
          · exact okInto (by rw [zerosN_len]; have := HM2.out; omega)
          · exact okAt _
        rintro e w67_ ⟨v, ps, rfl, ho, hp, hf⟩
        have HA68_ : Hid (Fresh w w67_) := Lib.hid (HA61_.out.trans hf)
        have HA69_ : Hid (Fresh w w67_) := Lib.hid (HA62_.out.trans hf)
        have HA70_ : Hid (Fresh w w67_) := Lib.hid (HA63_.out.trans hf)
        have HA71_ : Hid (Fresh w5_ w67_) := Lib.hid (HA64_.out.trans hf)
        have HA72_ : Hid (Fresh w18_ w67_) := Lib.hid (HA65_.out.trans hf)
        have HA73_ : Hid (Fresh w27_ w67_) := Lib.hid (HA66_.out.trans hf)
        have HA74_ : Hid (Fresh w67_ w67_) := Lib.hid (Keeps.refl _ _)
        obtain ⟨B1, B2, hB⟩ := HLS.out
        obtain ⟨gO, cO, rfl, hcO, hx1, hx3, hx5, hx7⟩ := ho.four (hp.trans hB)
        have HX1 := Lib.hid hx1
        have HX3 := Lib.hid hx3
        have HX5 := Lib.hid hx5
        have HX7 := Lib.hid hx7
        have HCO := Lib.hid hcO
        clear ho hp hf hx1 hx3 hx5 hx7 hB hcO
        go_wp2_with fail
        refine hK _ _ HA70_.out ?_
        clear hK K
        refine wa_quiet 20 (by kernel_rfl) rfl HA70_.out (fun K hK => ?_); go_simp; refine hK _ ?_; clear hK K
        refine wa_quiet 21 (by kernel_rfl) rfl HA70_.out (fun K hK => ?_); go_simp; refine hK _ ?_; clear hK K
        refine wa_quiet 23 (by kernel_rfl) rfl HA70_.out (fun K hK => ?_); go_simp; refine hK _ ?_; clear hK K
        refine wa_quiet 22 (by kernel_rfl) rfl HA70_.out (fun K hK => ?_); go_simp; refine hK _ ?_; clear hK K
        refine wa_quiet 24 (by kernel_rfl) rfl HA70_.out (fun K hK => ?_); go_simp; refine hK _ ?_; clear hK K
        refine wa_done (by kernel_rfl) ?_
        go_wp2_with fail
        refine HK2.out _ _ ?_
        refine ls6_c _ gO cO _ _ _ _ _ _ _ _ _ _ _ _ _ _ _ _ _ _ _ _ _ _ _ _ _ _ _ _ _ _ _ _ _ _ _ _ _ _ _ _ _ _ _ _ _ _ _ _ _ _ _ _ _ _ _ _ _ _ _ _ _ _ _ _ _ _ _ _ _ _ _ _ _ _ _ _ _ _ _ _ _ _ _ _ _ _ _ _ _ _ _ _ HCO.out (HA74_.out.cellAt HX1.out (fun x => x)) (HA74_.out.cellAt HX3.out (fun x => x)) (HA74_.out.cellAt HX5.out (fun x => x)) (HA74_.out.cellAt HX7.out (fun x => x)) ?_
        exact HH.out _ HA68_.out
    · refine wa_loud rfl (fun K hK => ?_)
      go_wp2_with fail
      generalize hw14_ : w5_.alloc _ = w13_
      have HM15_ : Hid (SlB w13_ (.slice (some ⟨w5_.heap.size, 0, none⟩) m1 m1) (zerosN m1)) := Lib.hid (by rw [← hw14_]; exact makeN_sl m1 _ (by have := HM1.out; omega))
      have HA17_ : Hid (Fresh w w13_) := Lib.hid ((by rw [← hw14_]; exact HA9_.out.alloc _))
      have HA18_ : Hid (Fresh w w13_) := Lib.hid ((by rw [← hw14_]; exact HA10_.out.alloc _))
      have HA19_ : Hid (Fresh w w13_) := Lib.hid ((by rw [← hw14_]; exact HA11_.out.alloc _))
      have HA20_ : Hid (Fresh w5_ w13_) := Lib.hid ((by rw [← hw14_]; exact HA12_.out.alloc _))
      clear hw14_
      have HA21_ : Hid (Fresh w13_ w13_) := Lib.hid (Keeps.refl _ _)
      refine hK _ _ HA19_.out ?_
      clear hK K
      refine wa_all [5, 14] (by kernel_rfl) (by decide) (fun i hi => ?_)
      simp only [List.mem_cons, List.not_mem_nil, or_false] at hi
      rcases hi with rfl | rfl
      · refine wa_loud rfl (fun K hK => ?_)
        go_wp2_with fail
        refine (at_c (c) _).mono ?_
        rintro e w22_ ⟨rfl, hf⟩
        have HA23_ : Hid (Fresh w w22_) := Lib.hid (HA17_.out.trans hf)
        have HA24_ : Hid (Fresh w w22_) := Lib.hid (HA18_.out.trans hf)
        have HA25_ : Hid (Fresh w w22_) := Lib.hid (HA19_.out.trans hf)
        have HA26_ : Hid (Fresh w5_ w22_) := Lib.hid (HA20_.out.trans hf)
        have HA27_ : Hid (Fresh w13_ w22_) := Lib.hid (HA21_.out.trans hf)
        clear hf
        try simp only [stV, atS]
        go_wp2_with fail
        refine hK _ _ HA25_.out ?_
        clear hK K
        refine wa_all [10, 14] (by kernel_rfl) (by decide) (fun i hi => ?_)
        simp only [List.mem_cons, List.not_mem_nil, or_false] at hi
        rcases hi with rfl | rfl
        · refine wa_loud rfl (fun K hK => ?_)
          go_wp2_with fail
          refine (into_c (.slice (some ⟨w5_.heap.size, 0, none⟩) m1 m1) (zerosN m1) _ (HM15_.out.fresh HA27_.out)).mono ?_
          rintro e w28_ ⟨rfl, hf⟩
          have HA29_ : Hid (Fresh w w28_) := Lib.hid (HA23_.out.trans hf)
          have HA30_ : Hid (Fresh w w28_) := Lib.hid (HA24_.out.trans hf)
          have HA31_ : Hid (Fresh w w28_) := Lib.hid (HA25_.out.trans hf)
          have HA32_ : Hid (Fresh w5_ w28_) := Lib.hid (HA26_.out.trans hf)
          have HA33_ : Hid (Fresh w13_ w28_) := Lib.hid (HA27_.out.trans hf)
          clear hf
          try simp only [stV, intoS]
          go_wp2_with fail
          refine hK _ _ HA31_.out ?_
          clear hK K
          refine wa_all [14] (by kernel_rfl) (by decide) (fun i hi => ?_)
          simp only [List.mem_cons, List.not_mem_nil, or_false] at hi
          subst hi
          refine wa_loud rfl (fun K hK => ?_)
          go_wp2_with fail
          generalize hw35_ : w28_.alloc _ = w34_
          have HM36_ : Hid (SlB w34_ (.slice (some ⟨w28_.heap.size, 0, none⟩) m2 m2) (zerosN m2)) := Lib.hid (by rw [← hw35_]; exact makeN_sl m2 _ (by have := HM2.out; omega))
          have HA38_ : Hid (Fresh w w34_) := Lib.hid ((by rw [← hw35_]; exact HA29_.out.alloc _))
          have HA39_ : Hid (Fresh w w34_) := Lib.hid ((by rw [← hw35_]; exact HA30_.out.alloc _))
          have HA40_ : Hid (Fresh w w34_) := Lib.hid ((by rw [← hw35_]; exact HA31_.out.alloc _))
          have HA41_ : Hid (Fresh w5_ w34_) := Lib.hid ((by rw [← hw35_]; exact HA32_.out.alloc _))
          have HA42_ : Hid (Fresh w13_ w34_) := Lib.hid ((by rw [← hw35_]; exact HA33_.out.alloc _))
          clear hw35_
          have HA43_ : Hid (Fresh w34_ w34_) := Lib.hid (Keeps.refl _ _)
          refine hK _ _ HA40_.out ?_
          clear hK K
          refine wa_all [15] (by kernel_rfl) (by decide) (fun i hi => ?_)
          simp only [List.mem_cons, List.not_mem_nil, or_false] at hi
          subst hi
          refine wa_loud rfl (fun K hK => ?_)
          go_wp2_with fail
          refine (into_c (.slice (some ⟨w28_.heap.size, 0, none⟩) m2 m2) (zerosN m2) _ (HM36_.out.fresh HA43_.out)).mono ?_
          rintro e w44_ ⟨rfl, hf⟩
          have HA45_ : Hid (Fresh w w44_) := Lib.hid (HA38_.out.trans hf)
          have HA46_ : Hid (Fresh w w44_) := Lib.hid (HA39_.out.trans hf)
          have HA47_ : Hid (Fresh w w44_) := Lib.hid (HA40_.out.trans hf)
          have HA48_ : Hid (Fresh w5_ w44_) := Lib.hid (HA41_.out.trans hf)
          have HA49_ : Hid (Fresh w13_ w44_) := Lib.hid (HA42_.out.trans hf)
          have HA50_ : Hid (Fresh w34_ w44_) := Lib.hid (HA43_.out.trans hf)
          clear hf
          try simp only [stV, intoS]
          go_wp2_with fail
          refine hK _ _ HA47_.out ?_
          clear hK K
          refine wa_all [17] (by kernel_rfl) (by decide) (fun i hi => ?_)
          simp only [List.mem_cons, List.not_mem_nil, or_false] at hi
          subst hi
          refine wa_loud rfl (fun K hK => ?_)
          go_wp2_with fail
          refine (at_c (d) _).mono ?_
          rintro e w51_ ⟨rfl, hf⟩
          have HA52_ : Hid (Fresh w w51_) := Lib.hid (HA45_.out.trans hf)
          have HA53_ : Hid (Fresh w w51_) := Lib.hid (HA46_.out.trans hf)
          have HA54_ : Hid (Fresh w w51_) := Lib.hid (HA47_.out.trans hf)
          have HA55_ : Hid (Fresh w5_ w51_) := Lib.hid (HA48_.out.trans hf)
          have HA56_ : Hid (Fresh w13_ w51_) := Lib.hid (HA49_.out.trans hf)
          have HA57_ : Hid (Fresh w34_ w51_) := Lib.hid (HA50_.out.trans hf)
          clear hf
          try simp only [stV, atS]
          go_wp2_with fail
          refine hK _ _ HA54_.out ?_
          clear hK K
          refine wa_all [18] (by kernel_rfl) (by decide) (fun i hi => ?_)
          simp only [List.mem_cons, List.not_mem_nil, or_false] at hi
          subst hi
          refine wa_loud rfl (fun K hK => ?_)
          go_wp2_with fail
          generalize hw59_ : w51_.alloc _ = w58_
          have HA61_ : Hid (Fresh w w58_) := Lib.hid ((by rw [← hw59_]; exact HA52_.out.alloc _))
          have HA62_ : Hid (Fresh w w58_) := Lib.hid ((by rw [← hw59_]; exact HA53_.out.alloc _))
          have HA63_ : Hid (Fresh w w58_) := Lib.hid ((by rw [← hw59_]; exact HA54_.out.alloc _))
          have HA64_ : Hid (Fresh w5_ w58_) := Lib.hid ((by rw [← hw59_]; exact HA55_.out.alloc _))
          have HA65_ : Hid (Fresh w13_ w58_) := Lib.hid ((by rw [← hw59_]; exact HA56_.out.alloc _))
          have HA66_ : Hid (Fresh w34_ w58_) := Lib.hid ((by rw [← hw59_]; exact HA57_.out.alloc _))
          have HB60_ := Lib.hid hw59_
          clear hw59_
          refine hK _ _ HA63_.out ?_
          clear hK K
          refine wa_all [19] (by kernel_rfl) (by decide) (fun i hi => ?_)
          simp only [List.mem_cons, List.not_mem_nil, or_false] at hi
          subst hi
          refine wa_loud rfl (fun K hK => ?_)
          go_wp2_with fail
          refine (Run_good (.slice (some ⟨bk, 0, none⟩) 32 32) (.slice p6_ (nonL nonce long).length c7_) _ key (nonL nonce long) [(.slice none 0 0, atS (c)), (.slice (some ⟨w5_.heap.size, 0, none⟩) m1 m1, intoS (zerosN m1)), (.slice (some ⟨w28_.heap.size, 0, none⟩) m2 m2, intoS (zerosN m2)), (.slice none 0 0, atS (d))] _ (SlB.all32 (HA61_.out.at HBK.out) HKL.out (by decide)) (HN8_.out.fresh HA64_.out) HKL.out (nonL_len HNL.out long) (StepsL.lit (b := w51_.heap.size) [(.slice none 0 0, atS (c)), (.slice (some ⟨w5_.heap.size, 0, none⟩) m1 m1, intoS (zerosN m1)), (.slice (some ⟨w28_.heap.size, 0, none⟩) m2 m2, intoS (zerosN m2)), (.slice none 0 0, atS (d))] (by rw [← HB60_.out]; exact heap_alloc_new _ _) rfl (Nat.le_of_ble_eq_true rfl) ?_) (Nat.le_of_ble_eq_true rfl) ?_).mono ?_
          · intro q hq; simp only [List.mem_cons, List.not_mem_nil, or_false] at hq; rcases hq with rfl | rfl | rfl | rfl
            · exact SlB.nil _
            · exact HM15_.out.fresh HA65_.out
            · exact HM36_.out.fresh HA66_.out
            · exact SlB.nil _
          · intro q hq; simp only [List.mem_cons, List.not_mem_nil, or_false] at hq; rcases hq with rfl | rfl | rfl | rfl
            · exact okAt _
            · exact okInto (by rw [zerosN_len]; have := HM1.out; omega)
            · exact okInto (by rw [zerosN_len]; have := HM2.out; omega)
            · exact okAt _
          rintro e w67_ ⟨v, ps, rfl, ho, hp, hf⟩
          have HA68_ : Hid (Fresh w w67_) := Lib.hid (HA61_.out.trans hf)
          have HA69_ : Hid (Fresh w w67_) := Lib.hid (HA62_.out.trans hf)
          have HA70_ : Hid (Fresh w w67_) := Lib.hid (HA63_.out.trans hf)
          have HA71_ : Hid (Fresh w5_ w67_) := Lib.hid (HA64_.out.trans hf)
          have HA72_ : Hid (Fresh w13_ w67_) := Lib.hid (HA65_.out.trans hf)
          have HA73_ : Hid (Fresh w34_ w67_) := Lib.hid (HA66_.out.trans hf)
          have HA74_ : Hid (Fresh w67_ w67_) := Lib.hid (Keeps.refl _ _)
          obtain ⟨B1, B2, hB⟩ := HLS.out
          obtain ⟨gO, cO, rfl, hcO, hx1, hx3, hx5, hx7⟩ := ho.four (hp.trans hB)
          have HX1 := Lib.hid hx1
          have HX3 := Lib.hid hx3
          have HX5 := Lib.hid hx5
          have HX7 := Lib.hid hx7
          have HCO := Lib.hid hcO
          clear ho hp hf hx1 hx3 hx5 hx7 hB hcO
          go_wp2_with fail
          refine hK _ _ HA70_.out ?_
          clear hK K
          refine wa_quiet 20 (by kernel_rfl) rfl HA70_.out (fun K hK => ?_); go_simp; refine hK _ ?_; clear hK K
          refine wa_quiet 21 (by kernel_rfl) rfl HA70_.out (fun K hK => ?_); go_simp; refine hK _ ?_; clear hK K
          refine wa_quiet 23 (by kernel_rfl) rfl HA70_.out (fun K hK => ?_); go_simp; refine hK _ ?_; clear hK K
          refine wa_quiet 22 (by kernel_rfl) rfl HA70_.out (fun K hK => ?_); go_simp; refine hK _ ?_; clear hK K
          refine wa_quiet 24 (by kernel_rfl) rfl HA70_.out (fun K hK => ?_); go_simp; refine hK _ ?_; clear hK K
          refine wa_done (by kernel_rfl) ?_
          go_wp2_with fail
          refine HK2.out _ _ ?_
          refine ls6_c _ gO cO _ _ _ _ _ _ _ _ _ _ _ _ _ _ _ _ _ _ _ _ _ _ _ _ _ _ _ _ _ _ _ _ _ _ _ _ _ _ _ _ _ _ _ _ _ _ _ _ _ _ _ _ _ _ _ _ _ _ _ _ _ _ _ _ _ _ _ _ _ _ _ _ _ _ _ _ _ _ _ _ _ _ _ _ _ _ _ _ _ _ _ _ HCO.out (HA74_.out.cellAt HX1.out (fun x => x)) (HA74_.out.cellAt HX3.out (fun x => x)) (HA74_.out.cellAt HX5.out (fun x => x)) (HA74_.out.cellAt HX7.out (fun x => x)) ?_
          exact HH.out _ HA68_.out
        · refine wa_loud rfl (fun K hK => ?_)
          go_wp2_with fail
          generalize hw29_ : w22_.alloc _ = w28_
          have HM30_ : Hid (SlB w28_ (.slice (some ⟨w22_.heap.size, 0, none⟩) m2 m2) (zerosN m2)) := Lib.hid (by rw [← hw29_]; exact makeN_sl m2 _ (by have := HM2.out; omega))
          have HA32_ : Hid (Fresh w w28_) := Lib.hid ((by rw [← hw29_]; exact HA23_.out.alloc _))
          have HA33_ : Hid (Fresh w w28_) := Lib.hid ((by rw [← hw29_]; exact HA24_.out.alloc _))
          have HA34_ : Hid (Fresh w w28_) := Lib.hid ((by rw [← hw29_]; exact HA25_.out.alloc _))
          have HA35_ : Hid (Fresh w5_ w28_) := Lib.hid ((by rw [← hw29_]; exact HA26_.out.alloc _))
          have HA36_ : Hid (Fresh w13_ w28_) := Lib.hid ((by rw [← hw29_]; exact HA27_.out.alloc _))
          clear hw29_
          have HA37_ : Hid (Fresh w28_ w28_) := Lib.hid (Keeps.refl _ _)
          refine hK _ _ HA34_.out ?_
          clear hK K
          refine wa_all [10] (by kernel_rfl) (by decide) (fun i hi => ?_)
          simp only [List.mem_cons, List.not_mem_nil, or_false] at hi
          subst hi
          refine wa_loud rfl (fun K hK => ?_)
          go_wp2_with fail
          refine (into_c (.slice (some ⟨w5_.heap.size, 0, none⟩) m1 m1) (zerosN m1) _ (HM15_.out.fresh HA36_.out)).mono ?_
          rintro e w38_ ⟨rfl, hf⟩
          have HA39_ : Hid (Fresh w w38_) := Lib.hid (HA32_.out.trans hf)
          have HA40_ : Hid (Fresh w w38_) := Lib.hid (HA33_.out.trans hf)
          have HA41_ : Hid (Fresh w w38_) := Lib.hid (HA34_.out.trans hf)
          have HA42_ : Hid (Fresh w5_ w38_) := Lib.hid (HA35_.out.trans hf)
          have HA43_ : Hid (Fresh w13_ w38_) := Lib.hid (HA36_.out.trans hf)
          have HA44_ : Hid (Fresh w28_ w38_) := Lib.hid (HA37_.out.trans hf)
          clear hf
          try simp only [stV, intoS]
          go_wp2_with fail
          refine hK _ _ HA41_.out ?_
          clear hK K
          refine wa_all [15] (by kernel_rfl) (by decide) (fun i hi => ?_)
          simp only [List.mem_cons, List.not_mem_nil, or_false] at hi
          subst hi
          refine wa_loud rfl (fun K hK => ?_)
          go_wp2_with fail
          refine (into_c (.slice (some ⟨w22_.heap.size, 0, none⟩) m2 m2) (zerosN m2) _ (HM30_.out.fresh HA44_.out)).mono ?_
          rintro e w45_ ⟨rfl, hf⟩
          have HA46_ : Hid (Fresh w w45_) := Lib.hid (HA39_.out.trans hf)
          have HA47_ : Hid (Fresh w w45_) := Lib.hid (HA40_.out.trans hf)
          have HA48_ : Hid (Fresh w w45_) := Lib.hid (HA41_.out.trans hf)
          have HA49_ : Hid (Fresh w5_ w45_) := Lib.hid (HA42_.out.trans hf)
          have HA50_ : Hid (Fresh w13_ w45_) := Lib.hid (HA43_.out.trans hf)
          have HA51_ : Hid (Fresh w28_ w45_) := Lib.hid (HA44_.out.trans hf)
          clear hf
          try simp only [stV, intoS]
          go_wp2_with fail
          refine hK _ _ HA48_.out ?_
          clear hK K
          refine wa_all [17] (by kernel_rfl) (by decide) (fun i hi => ?_)
          simp only [List.mem_cons, List.not_mem_nil, or_false] at hi
          subst hi
          refine wa_loud rfl (fun K hK => ?_)
          go_wp2_with fail
          refine (at_c (d) _).mono ?_
          rintro e w52_ ⟨rfl, hf⟩
          have HA53_ : Hid (Fresh w w52_) := Lib.hid (HA46_.out.trans hf)
          have HA54_ : Hid (Fresh w w52_) := Lib.hid (HA47_.out.trans hf)
          have HA55_ : Hid (Fresh w w52_) := Lib.hid (HA48_.out.trans hf)
          have HA56_ : Hid (Fresh w5_ w52_) := Lib.hid (HA49_.out.trans hf)
          have HA57_ : Hid (Fresh w13_ w52_) := Lib.hid (HA50_.out.trans hf)
          have HA58_ : Hid (Fresh w28_ w52_) := Lib.hid (HA51_.out.trans hf)
          clear hf
          try simp only [stV, atS]
          go_wp2_with fail
          refine hK _ _ HA55_.out ?_
          clear hK K
          refine wa_all [18] (by kernel_rfl) (by decide) (fun i hi => ?_)
          simp only [List.mem_cons, List.not_mem_nil, or_false] at hi
          subst hi
          refine wa_loud rfl (fun K hK => ?_)
          go_wp2_with fail
          generalize hw60_ : w52_.alloc _ = w59_
          have HA62_ : Hid (Fresh w w59_) := Lib.hid ((by rw [← hw60_]; exact HA53_.out.alloc _))
          have HA63_ : Hid (Fresh w w59_) := Lib.hid ((by rw [← hw60_]; exact HA54_.out.alloc _))
          have HA64_ : Hid (Fresh w w59_) := Lib.hid ((by rw [← hw60_]; exact HA55_.out.alloc _))
          have HA65_ : Hid (Fresh w5_ w59_) := Lib.hid ((by rw [← hw60_]; exact HA56_.out.alloc _))
          have HA66_ : Hid (Fresh w13_ w59_) := Lib.hid ((by rw [← hw60_]; exact HA57_.out.alloc _))
          have HA67_ : Hid (Fresh w28_ w59_) := Lib.hid ((by rw [← hw60_]; exact HA58_.out.alloc _))
          have HB61_ := Lib.hid hw60_
          clear hw60_
          refine hK _ _ HA64_.out ?_
          clear hK K
          refine wa_all [19] (by kernel_rfl) (by decide) (fun i hi => ?_)
          simp only [List.mem_cons, List.not_mem_nil, or_false] at hi
          subst hi
          refine wa_loud rfl (fun K hK => ?_)
          go_wp2_with fail
          refine (Run_good (.slice (some ⟨bk, 0, none⟩) 32 32) (.slice p6_ (nonL nonce long).length c7_) _ key (nonL nonce long) [(.slice none 0 0, atS (c)), (.slice (some ⟨w5_.heap.size, 0, none⟩) m1 m1, intoS (zerosN m1)), (.slice (some ⟨w22_.heap.size, 0, none⟩) m2 m2, intoS (zerosN m2)), (.slice none 0 0, atS (d))] _ (SlB.all32 (HA62_.out.at HBK.out) HKL.out (by decide)) (HN8_.out.fresh HA65_.out) HKL.out (nonL_len HNL.out long) (StepsL.lit (b := w52_.heap.size) [(.slice none 0 0, atS (c)), (.slice (some ⟨w5_.heap.size, 0, none⟩) m1 m1, intoS (zerosN m1)), (.slice (some ⟨w22_.heap.size, 0, none⟩) m2 m2, intoS (zerosN m2)), (.slice none 0 0, atS (d))] (by rw [← HB61_.out]; exact heap_alloc_new _ _) rfl (Nat.le_of_ble_eq_true rfl) ?_) (Nat.le_of_ble_eq_true rfl) ?_).mono ?_
          · intro q hq; simp only [List.mem_cons, List.not_mem_nil, or_false] at hq; rcases hq with rfl | rfl | rfl | rfl
            · exact SlB.nil _
            · exact HM15_.out.fresh HA66_.out
            · exact HM30_.out.fresh HA67_.out
            · exact SlB.nil _
          · intro q hq; simp only [List.mem_cons, List.not_mem_nil, or_false] at hq; rcases hq with rfl | rfl | rfl | rfl
            · exact okAt _
            · exact okInto (by rw [zerosN_len]; have := HM1.out; omega)
            · exact okInto (by rw [zerosN_len]; have := HM2.out; omega)
            · exact okAt _
          rintro e w68_ ⟨v, ps, rfl, ho, hp, hf⟩
          have HA69_ : Hid (Fresh w w68_) := Lib.hid (HA62_.out.trans hf)
          have HA70_ : Hid (Fresh w w68_) := Lib.hid (HA63_.out.trans hf)
          have HA71_ : Hid (Fresh w w68_) := Lib.hid (HA64_.out.trans hf)
          have HA72_ : Hid (Fresh w5_ w68_) := Lib.hid (HA65_.out.trans hf)
          have HA73_ : Hid (Fresh w13_ w68_) := Lib.hid (HA66_.out.trans hf)
          have HA74_ : Hid (Fresh w28_ w68_) := Lib.hid (HA67_.out.trans hf)
          have HA75_ : Hid (Fresh w68_ w68_) := Lib.hid (Keeps.refl _ _)
          obtain ⟨B1, B2, hB⟩ := HLS.out
          obtain ⟨gO, cO, rfl, hcO, hx1, hx3, hx5, hx7⟩ := ho.four (hp.trans hB)
          have HX1 := Lib.hid hx1
          have HX3 := Lib.hid hx3
          have HX5 := Lib.hid hx5
          have HX7 := Lib.hid hx7
          have HCO := Lib.hid hcO
          clear ho hp hf hx1 hx3 hx5 hx7 hB hcO
          go_wp2_with fail
          refine hK _ _ HA71_.out ?_
          clear hK K
          refine wa_quiet 20 (by kernel_rfl) rfl HA71_.out (fun K hK => ?_); go_simp; refine hK _ ?_; clear hK K
          refine wa_quiet 21 (by kernel_rfl) rfl HA71_.out (fun K hK => ?_); go_simp; refine hK _ ?_; clear hK K
          refine wa_quiet 23 (by kernel_rfl) rfl HA71_.out (fun K hK => ?_); go_simp; refine hK _ ?_; clear hK K
          refine wa_quiet 22 (by kernel_rfl) rfl HA71_.out (fun K hK => ?_); go_simp; refine hK _ ?_; clear hK K
          refine wa_quiet 24 (by kernel_rfl) rfl HA71_.out (fun K hK => ?_); go_simp; refine hK _ ?_; clear hK K
          refine wa_done (by kernel_rfl) ?_
          go_wp2_with fail
          refine HK2.out _ _ ?_
          refine ls6_c _ gO cO _ _ _ _ _ _ _ _ _ _ _ _ _ _ _ _ _ _ _ _ _ _ _ _ _ _ _ _ _ _ _ _ _ _ _ _ _ _ _ _ _ _ _ _ _ _ _ _ _ _ _ _ _ _ _ _ _ _ _ _ _ _ _ _ _ _ _ _ _ _ _ _ _ _ _ _ _ _ _ _ _ _ _ _ _ _ _ _ _ _ _ _ HCO.out (HA75_.out.cellAt HX1.out (fun x => x)) (HA75_.out.cellAt HX3.out (fun x => x)) (HA75_.out.cellAt HX5.out (fun x => x)) (HA75_.out.cellAt HX7.out (fun x => x)) ?_
          exact HH.out _ HA69_.out
      · refine wa_loud rfl (fun K hK => ?_)
        go_wp2_with fail
        generalize hw23_ : w13_.alloc _ = w22_
        have HM24_ : Hid (SlB w22_ (.slice (some ⟨w13_.heap.size, 0, none⟩) m2 m2) (zerosN m2)) := Lib.hid (by rw [← hw23_]; exact makeN_sl m2 _ (by have := HM2.out; omega))
        have HA26_ : Hid (Fresh w w22_) := Lib.hid ((by rw [← hw23_]; exact HA17_.out.alloc _))
        have HA27_ : Hid (Fresh w w22_) := Lib.hid ((by rw [← hw23_]; exact HA18_.out.alloc _))
        have HA28_ : Hid (Fresh w w22_) := Lib.hid ((by rw [← hw23_]; exact HA19_.out.alloc _))
        have HA29_ : Hid (Fresh w5_ w22_) := Lib.hid ((by rw [← hw23_]; exact HA20_.out.alloc _))
        have HA30_ : Hid (Fresh w13_ w22_) := Lib.hid ((by rw [← hw23_]; exact HA21_.out.alloc _))
        clear hw23_
        have HA31_ : Hid (Fresh w22_ w22_) := Lib.hid (Keeps.refl _ _)
        refine hK _ _ HA28_.out ?_
        clear hK K
        refine wa_all [5] (by kernel_rfl) (by decide) (fun i hi => ?_)
        simp only [List.mem_cons, List.not_mem_nil, or_false] at hi
        subst hi
        refine wa_loud rfl (fun K hK => ?_)
        go_wp2_with fail
        refine (at_c (c) _).mono ?_
        rintro e w32_ ⟨rfl, hf⟩
        have HA33_ : Hid (Fresh w w32_) := Lib.hid (HA26_.out.trans hf)
        have HA34_ : Hid (Fresh w w32_) := Lib.hid (HA27_.out.trans hf)
        have HA35_ : Hid (Fresh w w32_) := Lib.hid (HA28_.out.trans hf)
        have HA36_ : Hid (Fresh w5_ w32_) := Lib.hid (HA29_.out.trans hf)
        have HA37_ : Hid (Fresh w13_ w32_) := Lib.hid (HA30_.out.trans hf)
        have HA38_ : Hid (Fresh w22_ w32_) := Lib.hid (HA31_.out.trans hf)
        clear hf
        try simp only [stV, atS]
        go_wp2_with fail
        refine hK _ _ HA35_.out ?_
        clear hK K
        refine wa_all [10] (by kernel_rfl) (by decide) (fun i hi => ?_)
        simp only [List.mem_cons, List.not_mem_nil, or_false] at hi
        subst hi
        refine wa_loud rfl (fun K hK => ?_)
        go_wp2_with fail
        refine (into_c (.slice (some ⟨w5_.heap.size, 0, none⟩) m1 m1) (zerosN m1) _ (HM15_.out.fresh HA37_.out)).mono ?_
        rintro e w39_ ⟨rfl, hf⟩
        have HA40_ : Hid (Fresh w w39_) := Lib.hid (HA33_.out.trans hf)
        have HA41_ : Hid (Fresh w w39_) := Lib.hid (HA34_.out.trans hf)
        have HA42_ : Hid (Fresh w w39_) := Lib.hid (HA35_.out.trans hf)
        have HA43_ : Hid (Fresh w5_ w39_) := Lib.hid (HA36_.out.trans hf)
        have HA44_ : Hid (Fresh w13_ w39_) := Lib.hid (HA37_.out.trans hf)
        have HA45_ : Hid (Fresh w22_ w39_) := Lib.hid (HA38_.out.trans hf)
        clear hf
        try simp only [stV, intoS]
        go_wp2_with fail
        refine hK _ _ HA42_.out ?_
        clear hK K
        refine wa_all [15] (by kernel_rfl) (by decide) (fun i hi => ?_)
        simp only [List.mem_cons, List.not_mem_nil, or_false] at hi
        subst hi
        refine wa_loud rfl (fun K hK => ?_)
        go_wp2_with fail
        refine (into_c (.slice (some ⟨w13_.heap.size, 0, none⟩) m2 m2) (zerosN m2) _ (HM24_.out.fresh HA45_.out)).mono ?_
        rintro e w46_ ⟨rfl, hf⟩
        have HA47_ : Hid (Fresh w w46_) := Lib.hid (HA40_.out.trans hf)
        have HA48_ : Hid (Fresh w w46_) := Lib.hid (HA41_.out.trans hf)
        have HA49_ : Hid (Fresh w w46_) := Lib.hid (HA42_.out.trans hf)
        have HA50_ : Hid (Fresh w5_ w46_) := Lib.hid (HA43_.out.trans hf)
        have HA51_ : Hid (Fresh w13_ w46_) := Lib.hid (HA44_.out.trans hf)
        have HA52_ : Hid (Fresh w22_ w46_) := Lib.hid (HA45_.out.trans hf)
        clear hf
        try simp only [stV, intoS]
        go_wp2_with fail
        refine hK _ _ HA49_.out ?_
        clear hK K
        refine wa_all [17] (by kernel_rfl) (by decide) (fun i hi => ?_)
        simp only [List.mem_cons, List.not_mem_nil, or_false] at hi
        subst hi
        refine wa_loud rfl (fun K hK => ?_)
        go_wp2_with fail
        refine (at_c (d) _).mono ?_
        rintro e w53_ ⟨rfl, hf⟩
        have HA54_ : Hid (Fresh w w53_) := Lib.hid (HA47_.out.trans hf)
        have HA55_ : Hid (Fresh w w53_) := Lib.hid (HA48_.out.trans hf)
        have HA56_ : Hid (Fresh w w53_) := Lib.hid (HA49_.out.trans hf)
        have HA57_ : Hid (Fresh w5_ w53_) := Lib.hid (HA50_.out.trans hf)
        have HA58_ : Hid (Fresh w13_ w53_) := Lib.hid (HA51_.out.trans hf)
        have HA59_ : Hid (Fresh w22_ w53_) := Lib.hid (HA52_.out.trans hf)
        clear hf
        try simp only [stV, atS]
        go_wp2_with fail
        refine hK _ _ HA56_.out ?_
        clear hK K
        refine wa_all [18] (by kernel_rfl) (by decide) (fun i hi => ?_)
        simp only [List.mem_cons, List.not_mem_nil, or_false] at hi
        subst hi
        refine wa_loud rfl (fun K hK => ?_)
        go_wp2_with fail
        generalize hw61_ : w53_.alloc _ = w60_
        have HA63_ : Hid (Fresh w w60_) := Lib.hid ((by rw [← hw61_]; exact HA54_.out.alloc _))
        have HA64_ : Hid (Fresh w w60_) := Lib.hid ((by rw [← hw61_]; exact HA55_.out.alloc _))
        have HA65_ : Hid (Fresh w w60_) := Lib.hid ((by rw [← hw61_]; exact HA56_.out.alloc _))
        have HA66_ : Hid (Fresh w5_ w60_) := Lib.hid ((by rw [← hw61_]; exact HA57_.out.alloc _))
        have HA67_ : Hid (Fresh w13_ w60_) := Lib.hid ((by rw [← hw61_]; exact HA58_.out.alloc _))
        have HA68_ : Hid (Fresh w22_ w60_) := Lib.hid ((by rw [← hw61_]; exact HA59_.out.alloc _))
        have HB62_ := Lib.hid hw61_
        clear hw61_
        refine hK _ _ HA65_.out ?_
        clear hK K
        refine wa_all [19] (by kernel_rfl) (by decide) (fun i hi => ?_)
        simp only [List.mem_cons, List.not_mem_nil, or_false] at hi
        subst hi
        refine wa_loud rfl (fun K hK => ?_)
        go_wp2_with fail
        refine (Run_good (.slice (some ⟨bk, 0, none⟩) 32 32) (.slice p6_ (nonL nonce long).length c7_) _ key (nonL nonce long) [(.slice none 0 0, atS (c)), (.slice (some ⟨w5_.heap.size, 0, none⟩) m1 m1, intoS (zerosN m1)), (.slice (some ⟨w13_.heap.size, 0, none⟩) m2 m2, intoS (zerosN m2)), (.slice none 0 0, atS (d))] _ (SlB.all32 (HA63_.out.at HBK.out) HKL.out (by decide)) (HN8_.out.fresh HA66_.out) HKL.out (nonL_len HNL.out long) (StepsL.lit (b := w53_.heap.size) [(.slice none 0 0, atS (c)), (.slice (some ⟨w5_.heap.size, 0, none⟩) m1 m1, intoS (zerosN m1)), (.slice (some ⟨w13_.heap.size, 0, none⟩) m2 m2, intoS (zerosN m2)), (.slice none 0 0, atS (d))] (by rw [← HB62_.out]; exact heap_alloc_new _ _) rfl (Nat.le_of_ble_eq_true rfl) ?_) (Nat.le_of_ble_eq_true rfl) ?_).mono ?_
        · intro q hq; simp only [List.mem_cons, List.not_mem_nil, or_false] at hq; rcases hq with rfl | rfl | rfl | rfl
          · exact SlB.nil _
          · exact HM15_.out.fresh HA67_.out
          · exact HM24_.out.fresh HA68_.out
          · exact SlB.nil _
        · intro q hq; simp only [List.mem_cons, List.not_mem_nil, or_false] at hq; rcases hq with rfl | rfl | rfl | rfl
          · exact okAt _
          · exact okInto (by rw [zerosN_len]; have := HM1.out; omega)
          · exact okInto (by rw [zerosN_len]; have := HM2.out; omega)
          · exact okAt _
        rintro e w69_ ⟨v, ps, rfl, ho, hp, hf⟩
        have HA70_ : Hid (Fresh w w69_) := Lib.hid (HA63_.out.trans hf)
        have HA71_ : Hid (Fresh w w69_) := Lib.hid (HA64_.out.trans hf)
        have HA72_ : Hid (Fresh w w69_) := Lib.hid (HA65_.out.trans hf)
        have HA73_ : Hid (Fresh w5_ w69_) := Lib.hid (HA66_.out.trans hf)
        have HA74_ : Hid (Fresh w13_ w69_) := Lib.hid (HA67_.out.trans hf)
        have HA75_ : Hid (Fresh w22_ w69_) := Lib.hid (HA68_.out.trans hf)
        have HA76_ : Hid (Fresh w69_ w69_) := Lib.hid (Keeps.refl _ _)
        obtain ⟨B1, B2, hB⟩ := HLS.out
        obtain ⟨gO, cO, rfl, hcO, hx1, hx3, hx5, hx7⟩ := ho.four (hp.trans hB)
        have HX1 := Lib.hid hx1
        have HX3 := Lib.hid hx3
        have HX5 := Lib.hid hx5
        have HX7 := Lib.hid hx7
        have HCO := Lib.hid hcO
        clear ho hp hf hx1 hx3 hx5 hx7 hB hcO
        go_wp2_with fail
        refine hK _ _ HA72_.out ?_
        clear hK K
        refine wa_quiet 20 (by kernel_rfl) rfl HA72_.out (fun K hK => ?_); go_simp; refine hK _ ?_; clear hK K
        refine wa_quiet 21 (by kernel_rfl) rfl HA72_.out (fun K hK => ?_); go_simp; refine hK _ ?_; clear hK K
        refine wa_quiet 23 (by kernel_rfl) rfl HA72_.out (fun K hK => ?_); go_simp; refine hK _ ?_; clear hK K
        refine wa_quiet 22 (by kernel_rfl) rfl HA72_.out (fun K hK => ?_); go_simp; refine hK _ ?_; clear hK K
        refine wa_quiet 24 (by kernel_rfl) rfl HA72_.out (fun K hK => ?_); go_simp; refine hK _ ?_; clear hK K
        refine wa_done (by kernel_rfl) ?_
        go_wp2_with fail
        refine HK2.out _ _ ?_
        refine ls6_c _ gO cO _ _ _ _ _ _ _ _ _ _ _ _ _ _ _ _ _ _ _ _ _ _ _ _ _ _ _ _ _ _ _ _ _ _ _ _ _ _ _ _ _ _ _ _ _ _ _ _ _ _ _ _ _ _ _ _ _ _ _ _ _ _ _ _ _ _ _ _ _ _ _ _ _ _ _ _ _ _ _ _ _ _ _ _ _ _ _ _ _ _ _ _ HCO.out (HA76_.out.cellAt HX1.out (fun x => x)) (HA76_.out.cellAt HX3.out (fun x => x)) (HA76_.out.cellAt HX5.out (fun x => x)) (HA76_.out.cellAt HX7.out (fun x => x)) ?_
        exact HH.out _ HA70_.out
    · refine wa_loud rfl (fun K hK => ?_)
      go_wp2_with fail
      generalize hw14_ : w5_.alloc _ = w13_
      have HM15_ : Hid (SlB w13_ (.slice (some ⟨w5_.heap.size, 0, none⟩) m2 m2) (zerosN m2)) := Lib.hid (by rw [← hw14_]; exact makeN_sl m2 _ (by have := HM2.out; omega))
      have HA17_ : Hid (Fresh w w13_) := Lib.hid ((by rw [← hw14_]; exact HA9_.out.alloc _))
      have HA18_ : Hid (Fresh w w13_) := Lib.hid ((by rw [← hw14_]; exact HA10_.out.alloc _))
      have HA19_ : Hid (Fresh w w13_) := Lib.hid ((by rw [← hw14_]; exact HA11_.out.alloc _))
      have HA20_ : Hid (Fresh w5_ w13_) := Lib.hid ((by rw [← hw14_]; exact HA12_.out.alloc _))
      clear hw14_
      have HA21_ : Hid (Fresh w13_ w13_) := Lib.hid (Keeps.refl _ _)
      refine hK _ _ HA19_.out ?_
      clear hK K
      refine wa_all [5, 9] (by kernel_rfl) (by decide) (fun i hi => ?_)
      simp only [List.mem_cons, List.not_mem_nil, or_false] at hi
      rcases hi with rfl | rfl
      · refine wa_loud rfl (fun K hK => ?_)
        go_wp2_with fail
        refine (at_c (c) _).mono ?_
        rintro e w22_ ⟨rfl, hf⟩
        have HA23_ : Hid (Fresh w w22_) := Lib.hid (HA17_.out.trans hf)
        have HA24_ : Hid (Fresh w w22_) := Lib.hid (HA18_.out.trans hf)
        have HA25_ : Hid (Fresh w w22_) := Lib.hid (HA19_.out.trans hf)
        have HA26_ : Hid (Fresh w5_ w22_) := Lib.hid (HA20_.out.trans hf)
        have HA27_ : Hid (Fresh w13_ w22_) := Lib.hid (HA21_.out.trans hf)
        clear hf
        try simp only [stV, atS]
        go_wp2_with fail
        refine hK _ _ HA25_.out ?_
        clear hK K
        refine wa_all [9] (by kernel_rfl) (by decide) (fun i hi => ?_)
        simp only [List.mem_cons, List.not_mem_nil, or_false] at hi
        subst hi
        refine wa_loud rfl (fun K hK => ?_)
        go_wp2_with fail
        generalize hw29_ : w22_.alloc _ = w28_
        have HM30_ : Hid (SlB w28_ (.slice (some ⟨w22_.heap.size, 0, none⟩) m1 m1) (zerosN m1)) := Lib.hid (by rw [← hw29_]; exact makeN_sl m1 _ (by have := HM1.out; omega))
        have HA32_ : Hid (Fresh w w28_) := Lib.hid ((by rw [← hw29_]; exact HA23_.out.alloc _))
        have HA33_ : Hid (Fresh w w28_) := Lib.hid ((by rw [← hw29_]; exact HA24_.out.alloc _))
        have HA34_ : Hid (Fresh w w28_) := Lib.hid ((by rw [← hw29_]; exact HA25_.out.alloc _))
        have HA35_ : Hid (Fresh w5_ w28_) := Lib.hid ((by rw [← hw29_]; exact HA26_.out.alloc _))
        have HA36_ : Hid (Fresh w13_ w28_) := Lib.hid ((by rw [← hw29_]; exact HA27_.out.alloc _))
        clear hw29_
        have HA37_ : Hid (Fresh w28_ w28_) := Lib.hid (Keeps.refl _ _)
        refine hK _ _ HA34_.out ?_
        clear hK K
        refine wa_all [10] (by kernel_rfl) (by decide) (fun i hi => ?_)
        simp only [List.mem_cons, List.not_mem_nil, or_false] at hi
        subst hi
        refine wa_loud rfl (fun K hK => ?_)
        go_wp2_with fail
        refine (into_c (.slice (some ⟨w22_.heap.size, 0, none⟩) m1 m1) (zerosN m1) _ (HM30_.out.fresh HA37_.out)).mono ?_
        rintro e w38_ ⟨rfl, hf⟩
        have HA39_ : Hid (Fresh w w38_) := Lib.hid (HA32_.out.trans hf)
        have HA40_ : Hid (Fresh w w38_) := Lib.hid (HA33_.out.trans hf)
        have HA41_ : Hid (Fresh w w38_) := Lib.hid (HA34_.out.trans hf)
        have HA42_ : Hid (Fresh w5_ w38_) := Lib.hid (HA35_.out.trans hf)
        have HA43_ : Hid (Fresh w13_ w38_) := Lib.hid (HA36_.out.trans hf)
        have HA44_ : Hid (Fresh w28_ w38_) := Lib.hid (HA37_.out.trans hf)
        clear hf
        try simp only [stV, intoS]
        go_wp2_with fail
        refine hK _ _ HA41_.out ?_
        clear hK K
        refine wa_all [15] (by kernel_rfl) (by decide) (fun i hi => ?_)
        simp only [List.mem_cons, List.not_mem_nil, or_false] at hi
        subst hi
        refine wa_loud rfl (fun K hK => ?_)
        go_wp2_with fail
        refine (into_c (.slice (some ⟨w5_.heap.size, 0, none⟩) m2 m2) (zerosN m2) _ (HM15_.out.fresh HA43_.out)).mono ?_
        rintro e w45_ ⟨rfl, hf⟩
        have HA46_ : Hid (Fresh w w45_) := Lib.hid (HA39_.out.trans hf)
        have HA47_ : Hid (Fresh w w45_) := Lib.hid (HA40_.out.trans hf)
        have HA48_ : Hid (Fresh w w45_) := Lib.hid (HA41_.out.trans hf)
        have HA49_ : Hid (Fresh w5_ w45_) := Lib.hid (HA42_.out.trans hf)
        have HA50_ : Hid (Fresh w13_ w45_) := Lib.hid (HA43_.out.trans hf)
        have HA51_ : Hid (Fresh w28_ w45_) := Lib.hid (HA44_.out.trans hf)
        clear hf
        try simp only [stV, intoS]
        go_wp2_with fail
        refine hK _ _ HA48_.out ?_
        clear hK K
        refine wa_all [17] (by kernel_rfl) (by decide) (fun i hi => ?_)
        simp only [List.mem_cons, List.not_mem_nil, or_false] at hi
        subst hi
        refine wa_loud rfl (fun K hK => ?_)
        go_wp2_with fail
        refine (at_c (d) _).mono ?_
        rintro e w52_ ⟨rfl, hf⟩
        have HA53_ : Hid (Fresh w w52_) := Lib.hid (HA46_.out.trans hf)
        have HA54_ : Hid (Fresh w w52_) := Lib.hid (HA47_.out.trans hf)
        have HA55_ : Hid (Fresh w w52_) := Lib.hid (HA48_.out.trans hf)
        have HA56_ : Hid (Fresh w5_ w52_) := Lib.hid (HA49_.out.trans hf)
        have HA57_ : Hid (Fresh w13_ w52_) := Lib.hid (HA50_.out.trans hf)
        have HA58_ : Hid (Fresh w28_ w52_) := Lib.hid (HA51_.out.trans hf)
        clear hf
        try simp only [stV, atS]
        go_wp2_with fail
        refine hK _ _ HA55_.out ?_
        clear hK K
        refine wa_all [18] (by kernel_rfl) (by decide) (fun i hi => ?_)
        simp only [List.mem_cons, List.not_mem_nil, or_false] at hi
        subst hi
        refine wa_loud rfl (fun K hK => ?_)
        go_wp2_with fail
        generalize hw60_ : w52_.alloc _ = w59_
        have HA62_ : Hid (Fresh w w59_) := Lib.hid ((by rw [← hw60_]; exact HA53_.out.alloc _))
        have HA63_ : Hid (Fresh w w59_) := Lib.hid ((by rw [← hw60_]; exact HA54_.out.alloc _))
        have HA64_ : Hid (Fresh w w59_) := Lib.hid ((by rw [← hw60_]; exact HA55_.out.alloc _))
        have HA65_ : Hid (Fresh w5_ w59_) := Lib.hid ((by rw [← hw60_]; exact HA56_.out.alloc _))
        have HA66_ : Hid (Fresh w13_ w59_) := Lib.hid ((by rw [← hw60_]; exact HA57_.out.alloc _))
        have HA67_ : Hid (Fresh w28_ w59_) := Lib.hid ((by rw [← hw60_]; exact HA58_.out.alloc _))
        have HB61_ := Lib.hid hw60_
        clear hw60_
        refine hK _ _ HA64_.out ?_
        clear hK K
        refine wa_all [19] (by kernel_rfl) (by decide) (fun i hi => ?_)
        simp only [List.mem_cons, List.not_mem_nil, or_false] at hi
        subst hi
        refine wa_loud rfl (fun K hK => ?_)
        go_wp2_with fail
        refine (Run_good (.slice (some ⟨bk, 0, none⟩) 32 32) (.slice p6_ (nonL nonce long).length c7_) _ key (nonL nonce long) [(.slice none 0 0, atS (c)), (.slice (some ⟨w22_.heap.size, 0, none⟩) m1 m1, intoS (zerosN m1)), (.slice (some ⟨w5_.heap.size, 0, none⟩) m2 m2, intoS (zerosN m2)), (.slice none 0 0, atS (d))] _ (SlB.all32 (HA62_.out.at HBK.out) HKL.out (by decide)) (HN8_.out.fresh HA65_.out) HKL.out (nonL_len HNL.out long) (StepsL.lit (b := w52_.heap.size) [(.slice none 0 0, atS (c)), (.slice (some ⟨w22_.heap.size, 0, none⟩) m1 m1, intoS (zerosN m1)), (.slice (some ⟨w5_.heap.size, 0, none⟩) m2 m2, intoS (zerosN m2)), (.slice none 0 0, atS (d))] (by rw [← HB61_.out]; exact heap_alloc_new _ _) rfl (Nat.le_of_ble_eq_true rfl) ?_) (Nat.le_of_ble_eq_true rfl) ?_).mono ?_
        · intro q hq; simp only [List.mem_cons, List.not_mem_nil, or_false] at hq; rcases hq with rfl | rfl | rfl | rfl
          · exact SlB.nil _
          · exact HM30_.out.fresh HA67_.out
          · exact HM15_.out.fresh HA66_.out
          · exact SlB.nil _
        · intro q hq; simp only [List.mem_cons, List.not_mem_nil, or_false] at hq; rcases hq with rfl | rfl | rfl | rfl
          · exact okAt _
          · exact okInto (by rw [zerosN_len]; have := HM1.out; omega)
          · exact okInto (by rw [zerosN_len]; have := HM2.out; omega)
          · exact okAt _
        rintro e w68_ ⟨v, ps, rfl, ho, hp, hf⟩
        have HA69_ : Hid (Fresh w w68_) := Lib.hid (HA62_.out.trans hf)
        have HA70_ : Hid (Fresh w w68_) := Lib.hid (HA63_.out.trans hf)
        have HA71_ : Hid (Fresh w w68_) := Lib.hid (HA64_.out.trans hf)
        have HA72_ : Hid (Fresh w5_ w68_) := Lib.hid (HA65_.out.trans hf)
        have HA73_ : Hid (Fresh w13_ w68_) := Lib.hid (HA66_.out.trans hf)
        have HA74_ : Hid (Fresh w28_ w68_) := Lib.hid (HA67_.out.trans hf)
        have HA75_ : Hid (Fresh w68_ w68_) := Lib.hid (Keeps.refl _ _)
        obtain ⟨B1, B2, hB⟩ := HLS.out
        obtain ⟨gO, cO, rfl, hcO, hx1, hx3, hx5, hx7⟩ := ho.four (hp.trans hB)
        have HX1 := Lib.hid hx1
        have HX3 := Lib.hid hx3
        have HX5 := Lib.hid hx5
        have HX7 := Lib.hid hx7
        have HCO := Lib.hid hcO
        clear ho hp hf hx1 hx3 hx5 hx7 hB hcO
        go_wp2_with fail
        refine hK _ _ HA71_.out ?_
        clear hK K
        refine wa_quiet 20 (by kernel_rfl) rfl HA71_.out (fun K hK => ?_); go_simp; refine hK _ ?_; clear hK K
        refine wa_quiet 21 (by kernel_rfl) rfl HA71_.out (fun K hK => ?_); go_simp; refine hK _ ?_; clear hK K
        refine wa_quiet 23 (by kernel_rfl) rfl HA71_.out (fun K hK => ?_); go_simp; refine hK _ ?_; clear hK K
        refine wa_quiet 22 (by kernel_rfl) rfl HA71_.out (fun K hK => ?_); go_simp; refine hK _ ?_; clear hK K
        refine wa_quiet 24 (by kernel_rfl) rfl HA71_.out (fun K hK => ?_); go_simp; refine hK _ ?_; clear hK K
        refine wa_done (by kernel_rfl) ?_
        go_wp2_with fail
        refine HK2.out _ _ ?_
        refine ls6_c _ gO cO _ _ _ _ _ _ _ _ _ _ _ _ _ _ _ _ _ _ _ _ _ _ _ _ _ _ _ _ _ _ _ _ _ _ _ _ _ _ _ _ _ _ _ _ _ _ _ _ _ _ _ _ _ _ _ _ _ _ _ _ _ _ _ _ _ _ _ _ _ _ _ _ _ _ _ _ _ _ _ _ _ _ _ _ _ _ _ _ _ _ _ _ HCO.out (HA75_.out.cellAt HX1.out (fun x => x)) (HA75_.out.cellAt HX3.out (fun x => x)) (HA75_.out.cellAt HX5.out (fun x => x)) (HA75_.out.cellAt HX7.out (fun x => x)) ?_
        exact HH.out _ HA69_.out
      · refine wa_loud rfl (fun K hK => ?_)
        go_wp2_with fail
        generalize hw23_ : w13_.alloc _ = w22_
        have HM24_ : Hid (SlB w22_ (.slice (some ⟨w13_.heap.size, 0, none⟩) m1 m1) (zerosN m1)) := Lib.hid (by rw [← hw23_]; exact makeN_sl m1 _ (by have := HM1.out; omega))
        have HA26_ : Hid (Fresh w w22_) := Lib.hid ((by rw [← hw23_]; exact HA17_.out.alloc _))
        have HA27_ : Hid (Fresh w w22_) := Lib.hid ((by rw [← hw23_]; exact HA18_.out.alloc _))
        have HA28_ : Hid (Fresh w w22_) := Lib.hid ((by rw [← hw23_]; exact HA19_.out.alloc _))
        have HA29_ : Hid (Fresh w5_ w22_) := Lib.hid ((by rw [← hw23_]; exact HA20_.out.alloc _))
        have HA30_ : Hid (Fresh w13_ w22_) := Lib.hid ((by rw [← hw23_]; exact HA21_.out.alloc _))
        clear hw23_
        have HA31_ : Hid (Fresh w22_ w22_) := Lib.hid (Keeps.refl _ _)
        refine hK _ _ HA28_.out ?_
        clear hK K
        refine wa_all [5] (by kernel_rfl) (by decide) (fun i hi => ?_)
        simp only [List.mem_cons, List.not_mem_nil, or_false] at hi
        subst hi
        refine wa_loud rfl (fun K hK => ?_)
        go_wp2_with fail
        refine (at_c (c) _).mono ?_
        rintro e w32_ ⟨rfl, hf⟩
        have HA33_ : Hid (Fresh w w32_) := Lib.hid (HA26_.out.trans hf)
        have HA34_ : Hid (Fresh w w32_) := Lib.hid (HA27_.out.trans hf)
        have HA35_ : Hid (Fresh w w32_) := Lib.hid (HA28_.out.trans hf)
        have HA36_ : Hid (Fresh w5_ w32_) := Lib.hid (HA29_.out.trans hf)
        have HA37_ : Hid (Fresh w13_ w32_) := Lib.hid (HA30_.out.trans hf)
        have HA38_ : Hid (Fresh w22_ w32_) := Lib.hid (HA31_.out.trans hf)
        clear hf
        try simp only [stV, atS]
        go_wp2_with fail
        refine hK _ _ HA35_.out ?_
        clear hK K
        refine wa_all [10] (by kernel_rfl) (by decide) (fun i hi => ?_)
        simp only [List.mem_cons, List.not_mem_nil, or_false] at hi
        subst hi
        refine wa_loud rfl (fun K hK => ?_)
        go_wp2_with fail
        refine (into_c (.slice (some ⟨w13_.heap.size, 0, none⟩) m1 m1) (zerosN m1) _ (HM24_.out.fresh HA38_.out)).mono ?_
        rintro e w39_ ⟨rfl, hf⟩
        have HA40_ : Hid (Fresh w w39_) := Lib.hid (HA33_.out.trans hf)
        have HA41_ : Hid (Fresh w w39_) := Lib.hid (HA34_.out.trans hf)
        have HA42_ : Hid (Fresh w w39_) := Lib.hid (HA35_.out.trans hf)
        have HA43_ : Hid (Fresh w5_ w39_) := Lib.hid (HA36_.out.trans hf)
        have HA44_ : Hid (Fresh w13_ w39_) := Lib.hid (HA37_.out.trans hf)
        have HA45_ : Hid (Fresh w22_ w39_) := Lib.hid (HA38_.out.trans hf)
        clear hf
        try simp only [stV, intoS]
        go_wp2_with fail
        refine hK _ _ HA42_.out ?_
        clear hK K
        refine wa_all [15] (by kernel_rfl) (by decide) (fun i hi => ?_)
        simp only [List.mem_cons, List.not_mem_nil, or_false] at hi
        subst hi
        refine wa_loud rfl (fun K hK => ?_)
        go_wp2_with fail
        refine (into_c (.slice (some ⟨w5_.heap.size, 0, none⟩) m2 m2) (zerosN m2) _ (HM15_.out.fresh HA44_.out)).mono ?_
        rintro e w46_ ⟨rfl, hf⟩
        have HA47_ : Hid (Fresh w w46_) := Lib.hid (HA40_.out.trans hf)
        have HA48_ : Hid (Fresh w w46_) := Lib.hid (HA41_.out.trans hf)
        have HA49_ : Hid (Fresh w w46_) := Lib.hid (HA42_.out.trans hf)
        have HA50_ : Hid (Fresh w5_ w46_) := Lib.hid (HA43_.out.trans hf)
        have HA51_ : Hid (Fresh w13_ w46_) := Lib.hid (HA44_.out.trans hf)
        have HA52_ : Hid (Fresh w22_ w46_) := Lib.hid (HA45_.out.trans hf)
        clear hf
        try simp only [stV, intoS]
        go_wp2_with fail
        refine hK _ _ HA49_.out ?_
        clear hK K
        refine wa_all [17] (by kernel_rfl) (by decide) (fun i hi => ?_)
        simp only [List.mem_cons, List.not_mem_nil, or_false] at hi
        subst hi
        refine wa_loud rfl (fun K hK => ?_)
        go_wp2_with fail
        refine (at_c (d) _).mono ?_
        rintro e w53_ ⟨rfl, hf⟩
        have HA54_ : Hid (Fresh w w53_) := Lib.hid (HA47_.out.trans hf)
        have HA55_ : Hid (Fresh w w53_) := Lib.hid (HA48_.out.trans hf)
        have HA56_ : Hid (Fresh w w53_) := Lib.hid (HA49_.out.trans hf)
        have HA57_ : Hid (Fresh w5_ w53_) := Lib.hid (HA50_.out.trans hf)
        have HA58_ : Hid (Fresh w13_ w53_) := Lib.hid (HA51_.out.trans hf)
        have HA59_ : Hid (Fresh w22_ w53_) := Lib.hid (HA52_.out.trans hf)
        clear hf
        try simp only [stV, atS]
        go_wp2_with fail
        refine hK _ _ HA56_.out ?_
        clear hK K
        refine wa_all [18] (by kernel_rfl) (by decide) (fun i hi => ?_)
        simp only [List.mem_cons, List.not_mem_nil, or_false] at hi
        subst hi
        refine wa_loud rfl (fun K hK => ?_)
        go_wp2_with fail
        generalize hw61_ : w53_.alloc _ = w60_
        have HA63_ : Hid (Fresh w w60_) := Lib.hid ((by rw [← hw61_]; exact HA54_.out.alloc _))
        have HA64_ : Hid (Fresh w w60_) := Lib.hid ((by rw [← hw61_]; exact HA55_.out.alloc _))
        have HA65_ : Hid (Fresh w w60_) := Lib.hid ((by rw [← hw61_]; exact HA56_.out.alloc _))
        have HA66_ : Hid (Fresh w5_ w60_) := Lib.hid ((by rw [← hw61_]; exact HA57_.out.alloc _))
        have HA67_ : Hid (Fresh w13_ w60_) := Lib.hid ((by rw [← hw61_]; exact HA58_.out.alloc _))
        have HA68_ : Hid (Fresh w22_ w60_) := Lib.hid ((by rw [← hw61_]; exact HA59_.out.alloc _))
        have HB62_ := Lib.hid hw61_
        clear hw61_
        refine hK _ _ HA65_.out ?_
        clear hK K
        refine wa_all [19] (by kernel_rfl) (by decide) (fun i hi => ?_)
        simp only [List.mem_cons, List.not_mem_nil, or_false] at hi
        subst hi
        refine wa_loud rfl (fun K hK => ?_)
        go_wp2_with fail
        refine (Run_good (.slice (some ⟨bk, 0, none⟩) 32 32) (.slice p6_ (nonL nonce long).length c7_) _ key (nonL nonce long) [(.slice none 0 0, atS (c)), (.slice (some ⟨w13_.heap.size, 0, none⟩) m1 m1, intoS (zerosN m1)), (.slice (some ⟨w5_.heap.size, 0, none⟩) m2 m2, intoS (zerosN m2)), (.slice none 0 0, atS (d))] _ (SlB.all32 (HA63_.out.at HBK.out) HKL.out (by decide)) (HN8_.out.fresh HA66_.out) HKL.out (nonL_len HNL.out long) (StepsL.lit (b := w53_.heap.size) [(.slice none 0 0, atS (c)), (.slice (some ⟨w13_.heap.size, 0, none⟩) m1 m1, intoS (zerosN m1)), (.slice (some ⟨w5_.heap.size, 0, none⟩) m2 m2, intoS (zerosN m2)), (.slice none 0 0, atS (d))] (by rw [← HB62_.out]; exact heap_alloc_new _ _) rfl (Nat.le_of_ble_eq_true rfl) ?_) (Nat.le_of_ble_eq_true rfl) ?_).mono ?_
        · intro q hq; simp only [List.mem_cons, List.not_mem_nil, or_false] at hq; rcases hq with rfl | rfl | rfl | rfl
          · exact SlB.nil _
          · exact HM24_.out.fresh HA68_.out
          · exact HM15_.out.fresh HA67_.out
          · exact SlB.nil _
        · intro q hq; simp only [List.mem_cons, List.not_mem_nil, or_false] at hq; rcases hq with rfl | rfl | rfl | rfl
          · exact okAt _
          · exact okInto (by rw [zerosN_len]; have := HM1.out; omega)
          · exact okInto (by rw [zerosN_len]; have := HM2.out; omega)
          · exact okAt _
        rintro e w69_ ⟨v, ps, rfl, ho, hp, hf⟩
        have HA70_ : Hid (Fresh w w69_) := Lib.hid (HA63_.out.trans hf)
        have HA71_ : Hid (Fresh w w69_) := Lib.hid (HA64_.out.trans hf)
        have HA72_ : Hid (Fresh w w69_) := Lib.hid (HA65_.out.trans hf)
        have HA73_ : Hid (Fresh w5_ w69_) := Lib.hid (HA66_.out.trans hf)
        have HA74_ : Hid (Fresh w13_ w69_) := Lib.hid (HA67_.out.trans hf)
        have HA75_ : Hid (Fresh w22_ w69_) := Lib.hid (HA68_.out.trans hf)
        have HA76_ : Hid (Fresh w69_ w69_) := Lib.hid (Keeps.refl _ _)
        obtain ⟨B1, B2, hB⟩ := HLS.out
        obtain ⟨gO, cO, rfl, hcO, hx1, hx3, hx5, hx7⟩ := ho.four (hp.trans hB)
        have HX1 := Lib.hid hx1
        have HX3 := Lib.hid hx3
        have HX5 := Lib.hid hx5
        have HX7 := Lib.hid hx7
        have HCO := Lib.hid hcO
        clear ho hp hf hx1 hx3 hx5 hx7 hB hcO
        go_wp2_with fail
        refine hK _ _ HA72_.out ?_
        clear hK K
        refine wa_quiet 20 (by kernel_rfl) rfl HA72_.out (fun K hK => ?_); go_simp; refine hK _ ?_; clear hK K
        refine wa_quiet 21 (by kernel_rfl) rfl HA72_.out (fun K hK => ?_); go_simp; refine hK _ ?_; clear hK K
        refine wa_quiet 23 (by kernel_rfl) rfl HA72_.out (fun K hK => ?_); go_simp; refine hK _ ?_; clear hK K
        refine wa_quiet 22 (by kernel_rfl) rfl HA72_.out (fun K hK => ?_); go_simp; refine hK _ ?_; clear hK K
        refine wa_quiet 24 (by kernel_rfl) rfl HA72_.out (fun K hK => ?_); go_simp; refine hK _ ?_; clear hK K
        refine wa_done (by kernel_rfl) ?_
        go_wp2_with fail
        refine HK2.out _ _ ?_
        refine ls6_c _ gO cO _ _ _ _ _ _ _ _ _ _ _ _ _ _ _ _ _ _ _ _ _ _ _ _ _ _ _ _ _ _ _ _ _ _ _ _ _ _ _ _ _ _ _ _ _ _ _ _ _ _ _ _ _ _ _ _ _ _ _ _ _ _ _ _ _ _ _ _ _ _ _ _ _ _ _ _ _ _ _ _ _ _ _ _ _ _ _ _ _ _ _ _ HCO.out (HA76_.out.cellAt HX1.out (fun x => x)) (HA76_.out.cellAt HX3.out (fun x => x)) (HA76_.out.cellAt HX5.out (fun x => x)) (HA76_.out.cellAt HX7.out (fun x => x)) ?_
        exact HH.out _ HA70_.out
  · refine wa_loud rfl (fun K hK => ?_)
    go_wp2_with fail
    generalize hw6_ : w.alloc _ = w5_
    have HM7_ : Hid (SlB w5_.drew (.slice (some ⟨w.heap.size, 0, none⟩) m1 m1) (zerosN m1)) := Lib.hid (by rw [← hw6_]; exact makeN_sl m1 _ (by have := HM1.out; omega))
    have HA9_ : Hid (Fresh w w5_.drew) := Lib.hid ((by rw [← hw6_]; exact HA2_.out.alloc _))
    have HA10_ : Hid (Fresh w w5_.drew) := Lib.hid ((by rw [← hw6_]; exact HA3_.out.alloc _))
    have HA11_ : Hid (Fresh w w5_.drew) := Lib.hid ((by rw [← hw6_]; exact HA4_.out.alloc _))
    clear hw6_
    have HA12_ : Hid (Fresh w5_.drew w5_.drew) := Lib.hid (Keeps.refl _ _)
    refine hK _ _ HA11_.out ?_
    clear hK K
    refine wa_all [3, 14] (by kernel_rfl) (by decide) (fun i hi => ?_)
    simp only [List.mem_cons, List.not_mem_nil, or_false] at hi
    rcases hi with rfl | rfl
    · refine wa_loud rfl (fun K hK => ?_)
      go_wp2_with fail
      refine (nonceOf_c nonce long _ HNL.out).mono ?_
      rintro e w13_ ⟨vN, rfl, hs, hf⟩
      obtain ⟨p14_, c15_, rfl⟩ := hs.slice
      have HN16_ := Lib.hid hs
      have HA17_ : Hid (Fresh w w13_) := Lib.hid (HA9_.out.trans hf)
      have HA18_ : Hid (Fresh w w13_) := Lib.hid (HA10_.out.trans hf)
      have HA19_ : Hid (Fresh w w13_) := Lib.hid (HA11_.out.trans hf)
      have HA20_ : Hid (Fresh w5_.drew w13_) := Lib.hid (HA12_.out.trans hf)
      clear hs hf
      have HA21_ : Hid (Fresh w13_ w13_) := Lib.hid (Keeps.refl _ _)
      go_wp2_with fail
      refine hK _ _ HA19_.out ?_
      clear hK K
      refine wa_all [5, 14] (by kernel_rfl) (by decide) (fun i hi => ?_)
      simp only [List.mem_cons, List.not_mem_nil, or_false] at hi
      rcases hi with rfl | rfl
      · refine wa_loud rfl (fun K hK => ?_)
        go_wp2_with fail
        refine (at_c (c) _).mono ?_
        rintro e w22_ ⟨rfl, hf⟩
        have HA23_ : Hid (Fresh w w22_) := Lib.hid (HA17_.out.trans hf)
        have HA24_ : Hid (Fresh w w22_) := Lib.hid (HA18_.out.trans hf)
        have HA25_ : Hid (Fresh w w22_) := Lib.hid (HA19_.out.trans hf)
        have HA26_ : Hid (Fresh w5_.drew w22_) := Lib.hid (HA20_.out.trans hf)
        have HA27_ : Hid (Fresh w13_ w22_) := Lib.hid (HA21_.out.trans hf)
        clear hf
        try simp only [stV, atS]
        go_wp2_with fail
        refine hK _ _ HA25_.out ?_
        clear hK K
        refine wa_all [10, 14] (by kernel_rfl) (by decide) (fun i hi => ?_)
        simp only [List.mem_cons, List.not_mem_nil, or_false] at hi
        rcases hi with rfl | rfl
        · refine wa_loud rfl (fun K hK => ?_)
          go_wp2_with fail
          refine (into_c (.slice (some ⟨w.heap.size, 0, none⟩) m1 m1) (zerosN m1) _ (HM7_.out.fresh HA26_.out)).mono ?_
          rintro e w28_ ⟨rfl, hf⟩
          have HA29_ : Hid (Fresh w w28_) := Lib.hid (HA23_.out.trans hf)
          have HA30_ : Hid (Fresh w w28_) := Lib.hid (HA24_.out.trans hf)
          have HA31_ : Hid (Fresh w w28_) := Lib.hid (HA25_.out.trans hf)
          have HA32_ : Hid (Fresh w5_.drew w28_) := Lib.hid (HA26_.out.trans hf)
          have HA33_ : Hid (Fresh w13_ w28_) := Lib.hid (HA27_.out.trans hf)
          clear hf
          try simp only [stV, intoS]
          go_wp2_with fail
          refine hK _ _ HA31_.out ?_
          clear hK K
          refine wa_all [14] (by kernel_rfl) (by decide) (fun i hi => ?_)
          simp only [List.mem_cons, List.not_mem_nil, or_false] at hi
          subst hi
          refine wa_loud rfl (fun K hK => ?_)
          go_wp2_with fail
          generalize hw35_ : w28_.alloc _ = w34_
          have HM36_ : Hid (SlB w34_ (.slice (some ⟨w28_.heap.size, 0, none⟩) m2 m2) (zerosN m2)) := Lib.hid (by rw [← hw35_]; exact makeN_sl m2 _ (by have := HM2.out; omega))
          have HA38_ : Hid (Fresh w w34_) := Lib.hid ((by rw [← hw35_]; exact HA29_.out.alloc _))
          have HA39_ : Hid (Fresh w w34_) := Lib.hid ((by rw [← hw35_]; exact HA30_.out.alloc _))
          have HA40_ : Hid (Fresh w w34_) := Lib.hid ((by rw [← hw35_]; exact HA31_.out.alloc _))
          have HA41_ : Hid (Fresh w5_.drew w34_) := Lib.hid ((by rw [← hw35_]; exact HA32_.out.alloc _))
          have HA42_ : Hid (Fresh w13_ w34_) := Lib.hid ((by rw [← hw35_]; exact HA33_.out.alloc _))
          clear hw35_
          have HA43_ : Hid (Fresh w34_ w34_) := Lib.hid (Keeps.refl _ _)
          refine hK _ _ HA40_.out ?_
          clear hK K
          refine wa_all [15] (by kernel_rfl) (by decide) (fun i hi => ?_)
          simp only [List.mem_cons, List.not_mem_nil, or_false] at hi
          subst hi
          refine wa_loud rfl (fun K hK => ?_)
          go_wp2_with fail
          refine (into_c (.slice (some ⟨w28_.heap.size, 0, none⟩) m2 m2) (zerosN m2) _ (HM36_.out.fresh HA43_.out)).mono ?_
          rintro e w44_ ⟨rfl, hf⟩
          have HA45_ : Hid (Fresh w w44_) := Lib.hid (HA38_.out.trans hf)
          have HA46_ : Hid (Fresh w w44_) := Lib.hid (HA39_.out.trans hf)
          have HA47_ : Hid (Fresh w w44_) := Lib.hid (HA40_.out.trans hf)
          have HA48_ : Hid (Fresh w5_.drew w44_) := Lib.hid (HA41_.out.trans hf)
          have HA49_ : Hid (Fresh w13_ w44_) := Lib.hid (HA42_.out.trans hf)
          have HA50_ : Hid (Fresh w34_ w44_) := Lib.hid (HA43_.out.trans hf)
          clear hf
          try simp only [stV, intoS]
          go_wp2_with fail
          refine hK _ _ HA47_.out ?_
          clear hK K
          refine wa_all [17] (by kernel_rfl) (by decide) (fun i hi => ?_)
          simp only [List.mem_cons, List.not_mem_nil, or_false] at hi
          subst hi
          refine wa_loud rfl (fun K hK => ?_)
          go_wp2_with fail
          refine (at_c (d) _).mono ?_
          rintro e w51_ ⟨rfl, hf⟩
          have HA52_ : Hid (Fresh w w51_) := Lib.hid (HA45_.out.trans hf)
          have HA53_ : Hid (Fresh w w51_) := Lib.hid (HA46_.out.trans hf)
          have HA54_ : Hid (Fresh w w51_) := Lib.hid (HA47_.out.trans hf)
          have HA55_ : Hid (Fresh w5_.drew w51_) := Lib.hid (HA48_.out.trans hf)
          have HA56_ : Hid (Fresh w13_ w51_) := Lib.hid (HA49_.out.trans hf)
          have HA57_ : Hid (Fresh w34_ w51_) := Lib.hid (HA50_.out.trans hf)
          clear hf
          try simp only [stV, atS]
          go_wp2_with fail
          refine hK _ _ HA54_.out ?_
          clear hK K
          refine wa_all [18] (by kernel_rfl) (by decide) (fun i hi => ?_)
          simp only [List.mem_cons, List.not_mem_nil, or_false] at hi
          subst hi
          refine wa_loud rfl (fun K hK => ?_)
          go_wp2_with fail
          generalize hw59_ : w51_.alloc _ = w58_
          have HA61_ : Hid (Fresh w w58_) := Lib.hid ((by rw [← hw59_]; exact HA52_.out.alloc _))
          have HA62_ : Hid (Fresh w w58_) := Lib.hid ((by rw [← hw59_]; exact HA53_.out.alloc _))
          have HA63_ : Hid (Fresh w w58_) := Lib.hid ((by rw [← hw59_]; exact HA54_.out.alloc _))
          have HA64_ : Hid (Fresh w5_.drew w58_) := Lib.hid ((by rw [← hw59_]; exact HA55_.out.alloc _))
          have HA65_ : Hid (Fresh w13_ w58_) := Lib.hid ((by rw [← hw59_]; exact HA56_.out.alloc _))
          have HA66_ : Hid (Fresh w34_ w58_) := Lib.hid ((by rw [← hw59_]; exact HA57_.out.alloc _))
          have HB60_ := Lib.hid hw59_
          clear hw59_
          refine hK _ _ HA63_.out ?_
          clear hK K
          refine wa_all [19] (by kernel_rfl) (by decide) (fun i hi => ?_)
          simp only [List.mem_cons, List.not_mem_nil, or_false] at hi
          subst hi
          refine wa_loud rfl (fun K hK => ?_)
          go_wp2_with fail
          refine (Run_good (.slice (some ⟨bk, 0, none⟩) 32 32) (.slice p14_ (nonL nonce long).length c15_) _ key (nonL nonce long) [(.slice none 0 0, atS (c)), (.slice (some ⟨w.heap.size, 0, none⟩) m1 m1, intoS (zerosN m1)), (.slice (some ⟨w28_.heap.size, 0, none⟩) m2 m2, intoS (zerosN m2)), (.slice none 0 0, atS (d))] _ (SlB.all32 (HA61_.out.at HBK.out) HKL.out (by decide)) (HN16_.out.fresh HA65_.out) HKL.out (nonL_len HNL.out long) (StepsL.lit (b := w51_.heap.size) [(.slice none 0 0, atS (c)), (.slice (some ⟨w.heap.size, 0, none⟩) m1 m1, intoS (zerosN m1)), (.slice (some ⟨w28_.heap.size, 0, none⟩) m2 m2, intoS (zerosN m2)), (.slice none 0 0, atS (d))] (by rw [← HB60_.out]; exact heap_alloc_new _ _) rfl (Nat.le_of_ble_eq_true rfl) ?_) (Nat.le_of_ble_eq_true rfl) ?_).mono ?_
          · intro q hq; simp only [List.mem_cons, List.not_mem_nil, or_false] at hq; rcases hq with rfl | rfl | rfl | rfl
            · exact SlB.nil _
            · exact HM7_.out.fresh HA64_.out
            · exact HM36_.out.fresh HA66_.out
            · exact SlB.nil _
          · intro q hq; simp only [List.mem_cons, List.not_mem_nil, or_false] at hq; rcases hq with rfl | rfl | rfl | rfl
            · exact okAt _
            · exact okInto (by rw [zerosN_len]; have := HM1.out; omega)
            · exact okInto (by rw [zerosN_len]; have := HM2.out; omega)
            · exact okAt _
          rintro e w67_ ⟨v, ps, rfl, ho, hp, hf⟩
          have HA68_ : Hid (Fresh w w67_) := Lib.hid (HA61_.out.trans hf)
          have HA69_ : Hid (Fresh w w67_) := Lib.hid (HA62_.out.trans hf)
          have HA70_ : Hid (Fresh w w67_) := Lib.hid (HA63_.out.trans hf)
          have HA71_ : Hid (Fresh w5_.drew w67_) := Lib.hid (HA64_.out.trans hf)
          have HA72_ : Hid (Fresh w13_ w67_) := Lib.hid (HA65_.out.trans hf)
          have HA73_ : Hid (Fresh w34_ w67_) := Lib.hid (HA66_.out.trans hf)
          have HA74_ : Hid (Fresh w67_ w67_) := Lib.hid (Keeps.refl _ _)
          obtain ⟨B1, B2, hB⟩ := HLS.out
          obtain ⟨gO, cO, rfl, hcO, hx1, hx3, hx5, hx7⟩ := ho.four (hp.trans hB)
          have HX1 := Lib.hid hx1
          have HX3 := Lib.hid hx3
          have HX5 := Lib.hid hx5
          have HX7 := Lib.hid hx7
          have HCO := Lib.hid hcO
          clear ho hp hf hx1 hx3 hx5 hx7 hB hcO
          go_wp2_with fail
          refine hK _ _ HA70_.out ?_
          clear hK K
          refine wa_quiet 20 (by kernel_rfl) rfl HA70_.out (fun K hK => ?_); go_simp; refine hK _ ?_; clear hK K
          refine wa_quiet 21 (by kernel_rfl) rfl HA70_.out (fun K hK => ?_); go_simp; refine hK _ ?_; clear hK K
          refine wa_quiet 23 (by kernel_rfl) rfl HA70_.out (fun K hK => ?_); go_simp; refine hK _ ?_; clear hK K
          refine wa_quiet 22 (by kernel_rfl) rfl HA70_.out (fun K hK => ?_); go_simp; refine hK _ ?_; clear hK K
          refine wa_quiet 24 (by kernel_rfl) rfl HA70_.out (fun K hK => ?_); go_simp; refine hK _ ?_; clear hK K
          refine wa_done (by kernel_rfl) ?_
          go_wp2_with fail
          refine HK2.out _ _ ?_
          refine ls6_c _ gO cO _ _ _ _ _ _ _ _ _ _ _ _ _ _ _ _ _ _ _ _ _ _ _ _ _ _ _ _ _ _ _ _ _ _ _ _ _ _ _ _ _ _ _ _ _ _ _ _ _ _ _ _ _ _ _ _ _ _ _ _ _ _ _ _ _ _ _ _ _ _ _ _ _ _ _ _ _ _ _ _ _ _ _ _ _ _ _ _ _ _ _ _ HCO.out (HA74_.out.cellAt HX1.out (fun x => x)) (HA74_.out.cellAt HX3.out (fun x => x)) (HA74_.out.cellAt HX5.out (fun x => x)) (HA74_.out.cellAt HX7.out (fun x => x)) ?_
          exact HH.out _ HA68_.out
        · refine wa_loud rfl (fun K hK => ?_)
          go_wp2_with fail
          generalize hw29_ : w22_.alloc _ = w28_
          have HM30_ : Hid (SlB w28_ (.slice (some ⟨w22_.heap.size, 0, none⟩) m2 m2) (zerosN m2)) := Lib.hid (by rw [← hw29_]; exact makeN_sl m2 _ (by have := HM2.out; omega))
          have HA32_ : Hid (Fresh w w28_) := Lib.hid ((by rw [← hw29_]; exact HA23_.out.alloc _))
          have HA33_ : Hid (Fresh w w28_) := Lib.hid ((by rw [← hw29_]; exact HA24_.out.alloc _))
          have HA34_ : Hid (Fresh w w28_) := Lib.hid ((by rw [← hw29_]; exact HA25_.out.alloc _))
          have HA35_ : Hid (Fresh w5_.drew w28_) := Lib.hid ((by rw [← hw29_]; exact HA26_.out.alloc _))
          have HA36_ : Hid (Fresh w13_ w28_) := Lib.hid ((by rw [← hw29_]; exact HA27_.out.alloc _))
          clear hw29_
          have HA37_ : Hid (Fresh w28_ w28_) := Lib.hid (Keeps.refl _ _)
          refine hK _ _ HA34_.out ?_
          clear hK K
          refine wa_all [10] (by kernel_rfl) (by decide) (fun i hi => ?_)
          simp only [List.mem_cons, List.not_mem_nil, or_false] at hi
          subst hi
          refine wa_loud rfl (fun K hK => ?_)
          go_wp2_with fail
          refine (into_c (.slice (some ⟨w.heap.size, 0, none⟩) m1 m1) (zerosN m1) _ (HM7_.out.fresh HA35_.out)).mono ?_
          rintro e w38_ ⟨rfl, hf⟩
          have HA39_ : Hid (Fresh w w38_) := Lib.hid (HA32_.out.trans hf)
          have HA40_ : Hid (Fresh w w38_) := Lib.hid (HA33_.out.trans hf)
          have HA41_ : Hid (Fresh w w38_) := Lib.hid (HA34_.out.trans hf)
          have HA42_ : Hid (Fresh w5_.drew w38_) := Lib.hid (HA35_.out.trans hf)
          have HA43_ : Hid (Fresh w13_ w38_) := Lib.hid (HA36_.out.trans hf)
          have HA44_ : Hid (Fresh w28_ w38_) := Lib.hid (HA37_.out.trans hf)
          clear hf
          try simp only [stV, intoS]
          go_wp2_with fail
          refine hK _ _ HA41_.out ?_
          clear hK K
          refine wa_all [15] (by kernel_rfl) (by decide) (fun i hi => ?_)
          simp only [List.mem_cons, List.not_mem_nil, or_false] at hi
          subst hi
          refine wa_loud rfl (fun K hK => ?_)
          go_wp2_with fail
          refine (into_c (.slice (some ⟨w22_.heap.size, 0, none⟩) m2 m2) (zerosN m2) _ (HM30_.out.fresh HA44_.out)).mono ?_
          rintro e w45_ ⟨rfl, hf⟩
          have HA46_ : Hid (Fresh w w45_) := Lib.hid (HA39_.out.trans hf)
          have HA47_ : Hid (Fresh w w45_) := Lib.hid (HA40_.out.trans hf)
          have HA48_ : Hid (Fresh w w45_) := Lib.hid (HA41_.out.trans hf)
          have HA49_ : Hid (Fresh w5_.drew w45_) := Lib.hid (HA42_.out.trans hf)
          have HA50_ : Hid (Fresh w13_ w45_) := Lib.hid (HA43_.out.trans hf)
          have HA51_ : Hid (Fresh w28_ w45_) := Lib.hid (HA44_.out.trans hf)
          clear hf
          try simp only [stV, intoS]
          go_wp2_with fail
          refine hK _ _ HA48_.out ?_
          clear hK K
          refine wa_all [17] (by kernel_rfl) (by decide) (fun i hi => ?_)
          simp only [List.mem_cons, List.not_mem_nil, or_false] at hi
          subst hi
          refine wa_loud rfl (fun K hK => ?_)
          go_wp2_with fail
          refine (at_c (d) _).mono ?_
          rintro e w52_ ⟨rfl, hf⟩
          have HA53_ : Hid (Fresh w w52_) := Lib.hid (HA46_.out.trans hf)
          have HA54_ : Hid (Fresh w w52_) := Lib.hid (HA47_.out.trans hf)
          have HA55_ : Hid (Fresh w w52_) := Lib.hid (HA48_.out.trans hf)
          have HA56_ : Hid (Fresh w5_.drew w52_) := Lib.hid (HA49_.out.trans hf)
          have HA57_ : Hid (Fresh w13_ w52_) := Lib.hid (HA50_.out.trans hf)
          have HA58_ : Hid (Fresh w28_ w52_) := Lib.hid (HA51_.out.trans hf)
          clear hf
          try simp only [stV, atS]
          go_wp2_with fail
          refine hK _ _ HA55_.out ?_
          clear hK K
          refine wa_all [18] (by kernel_rfl) (by decide) (fun i hi => ?_)
          simp only [List.mem_cons, List.not_mem_nil, or_false] at hi
          subst hi
          refine wa_loud rfl (fun K hK => ?_)
          go_wp2_with fail
          generalize hw60_ : w52_.alloc _ = w59_
          have HA62_ : Hid (Fresh w w59_) := Lib.hid ((by rw [← hw60_]; exact HA53_.out.alloc _))
          have HA63_ : Hid (Fresh w w59_) := Lib.hid ((by rw [← hw60_]; exact HA54_.out.alloc _))
          have HA64_ : Hid (Fresh w w59_) := Lib.hid ((by rw [← hw60_]; exact HA55_.out.alloc _))
          have HA65_ : Hid (Fresh w5_.drew w59_) := Lib.hid ((by rw [← hw60_]; exact HA56_.out.alloc _))
          have HA66_ : Hid (Fresh w13_ w59_) := Lib.hid ((by rw [← hw60_]; exact HA57_.out.alloc _))
          have HA67_ : Hid (Fresh w28_ w59_) := Lib.hid ((by rw [← hw60_]; exact HA58_.out.alloc _))
          have HB61_ := Lib.hid hw60_
          clear hw60_
          refine hK _ _ HA64_.out ?_
          clear hK K
          refine wa_all [19] (by kernel_rfl) (by decide) (fun i hi => ?_)
          simp only [List.mem_cons, List.not_mem_nil, or_false] at hi
          subst hi
          refine wa_loud rfl (fun K hK => ?_)
          go_wp2_with fail
          refine (Run_good (.slice (some ⟨bk, 0, none⟩) 32 32) (.slice p14_ (nonL nonce long).length c15_) _ key (nonL nonce long) [(.slice none 0 0, atS (c)), (.slice (some ⟨w.heap.size, 0, none⟩) m1 m1, intoS (zerosN m1)), (.slice (some ⟨w22_.heap.size, 0, none⟩) m2 m2, intoS (zerosN m2)), (.slice none 0 0, atS (d))] _ (SlB.all32 (HA62_.out.at HBK.out) HKL.out (by decide)) (HN16_.out.fresh HA66_.out) HKL.out (nonL_len HNL.out long) (StepsL.lit (b := w52_.heap.size) [(.slice none 0 0, atS (c)), (.slice (some ⟨w.heap.size, 0, none⟩) m1 m1, intoS (zerosN m1)), (.slice (some ⟨w22_.heap.size, 0, none⟩) m2 m2, intoS (zerosN m2)), (.slice none 0 0, atS (d))] (by rw [← HB61_.out]; exact heap_alloc_new _ _) rfl (Nat.le_of_ble_eq_true rfl) ?_) (Nat.le_of_ble_eq_true rfl) ?_).mono ?_
          · intro q hq; simp only [List.mem_cons, List.not_mem_nil, or_false] at hq; rcases hq with rfl | rfl | rfl | rfl
            · exact SlB.nil _
            · exact HM7_.out.fresh HA65_.out
            · exact HM30_.out.fresh HA67_.out
            · exact SlB.nil _
          · intro q hq; simp only [List.mem_cons, List.not_mem_nil, or_false] at hq; rcases hq with rfl | rfl | rfl | rfl
            · exact okAt _
            · exact okInto (by rw [zerosN_len]; have := HM1.out; omega)
            · exact okInto (by rw [zerosN_len]; have := HM2.out; omega)
            · exact okAt _
          rintro e w68_ ⟨v, ps, rfl, ho, hp, hf⟩
          have HA69_ : Hid (Fresh w w68_) := Lib.hid (HA62_.out.trans hf)
          have HA70_ : Hid (Fresh w w68_) := Lib.hid (HA63_.out.trans hf)
          have HA71_ : Hid (Fresh w w68_) := Lib.hid (HA64_.out.trans hf)
          have HA72_ : Hid (Fresh w5_.drew w68_) := Lib.hid (HA65_.out.trans hf)
          have HA73_ : Hid (Fresh w13_ w68_) := Lib.hid (HA66_.out.trans hf)
          have HA74_ : Hid (Fresh w28_ w68_) := Lib.hid (HA67_.out.trans hf)
          have HA75_ : Hid (Fresh w68_ w68_) := Lib.hid (Keeps.refl _ _)
          obtain ⟨B1, B2, hB⟩ := HLS.out
          obtain ⟨gO, cO, rfl, hcO, hx1, hx3, hx5, hx7⟩ := ho.four (hp.trans hB)
          have HX1 := Lib.hid hx1
          have HX3 := Lib.hid hx3
          have HX5 := Lib.hid hx5
          have HX7 := Lib.hid hx7
          have HCO := Lib.hid hcO
          clear ho hp hf hx1 hx3 hx5 hx7 hB hcO
          go_wp2_with fail
          refine hK _ _ HA71_.out ?_
          clear hK K
          refine wa_quiet 20 (by kernel_rfl) rfl HA71_.out (fun K hK => ?_); go_simp; refine hK _ ?_; clear hK K
          refine wa_quiet 21 (by kernel_rfl) rfl HA71_.out (fun K hK => ?_); go_simp; refine hK _ ?_; clear hK K
          refine wa_quiet 23 (by kernel_rfl) rfl HA71_.out (fun K hK => ?_); go_simp; refine hK _ ?_; clear hK K
          refine wa_quiet 22 (by kernel_rfl) rfl HA71_.out (fun K hK => ?_); go_simp; refine hK _ ?_; clear hK K
          refine wa_quiet 24 (by kernel_rfl) rfl HA71_.out (fun K hK => ?_); go_simp; refine hK _ ?_; clear hK K
          refine wa_done (by kernel_rfl) ?_
          go_wp2_with fail
          refine HK2.out _ _ ?_
          refine ls6_c _ gO cO _ _ _ _ _ _ _ _ _ _ _ _ _ _ _ _ _ _ _ _ _ _ _ _ _ _ _ _ _ _ _ _ _ _ _ _ _ _ _ _ _ _ _ _ _ _ _ _ _ _ _ _ _ _ _ _ _ _ _ _ _ _ _ _ _ _ _ _ _ _ _ _ _ _ _ _ _ _ _ _ _ _ _ _ _ _ _ _ _ _ _ _ HCO.out (HA75_.out.cellAt HX1.out (fun x => x)) (HA75_.out.cellAt HX3.out (fun x => x)) (HA75_.out.cellAt HX5.out (fun x => x)) (HA75_.out.cellAt HX7.out (fun x => x)) ?_
          exact HH.out _ HA69_.out
      · refine wa_loud rfl (fun K hK => ?_)
        go_wp2_with fail
        generalize hw23_ : w13_.alloc _ = w22_
        have HM24_ : Hid (SlB w22_ (.slice (some ⟨w13_.heap.size, 0, none⟩) m2 m2) (zerosN m2)) := Lib.hid (by rw [← hw23_]; exact makeN_sl m2 _ (by have := HM2.out; omega))
        have HA26_ : Hid (Fresh w w22_) := Lib.hid ((by rw [← hw23_]; exact HA17_.out.alloc _))
        have HA27_ : Hid (Fresh w w22_) := Lib.hid ((by rw [← hw23_]; exact HA18_.out.alloc _))
        have HA28_ : Hid (Fresh w w22_) := Lib.hid ((by rw [← hw23_]; exact HA19_.out.alloc _))
        have HA29_ : Hid (Fresh w5_.drew w22_) := Lib.hid ((by rw [← hw23_]; exact HA20_.out.alloc _))
        have HA30_ : Hid (Fresh w13_ w22_) := Lib.hid ((by rw [← hw23_]; exact HA21_.out.alloc _))
        clear hw23_
        have HA31_ : Hid (Fresh w22_ w22_) := Lib.hid (Keeps.refl _ _)
        refine hK _ _ HA28_.out ?_
        clear hK K
        refine wa_all [5] (by kernel_rfl) (by decide) (fun i hi => ?_)
        simp only [List.mem_cons, List.not_mem_nil, or_false] at hi
        subst hi
        refine wa_loud rfl (fun K hK => ?_)
        go_wp2_with fail
        refine (at_c (c) _).mono ?_
        rintro e w32_ ⟨rfl, hf⟩
        have HA33_ : Hid (Fresh w w32_) := Lib.hid (HA26_.out.trans hf)
        have HA34_ : Hid (Fresh w w32_) := Lib.hid (HA27_.out.trans hf)
        have HA35_ : Hid (Fresh w w32_) := Lib.hid (HA28_.out.trans hf)
        have HA36_ : Hid (Fresh w5_.drew w32_) := Lib.hid (HA29_.out.trans hf)
        have HA37_ : Hid (Fresh w13_ w32_) := Lib.hid (HA30_.out.trans hf)
        have HA38_ : Hid (Fresh w22_ w32_) := Lib.hid (HA31_.out.trans hf)
        clear hf
        try simp only [stV, atS]
        go_wp2_with fail
        refine hK _ _ HA35_.out ?_
        clear hK K
        refine wa_all [10] (by kernel_rfl) (by decide) (fun i hi => ?_)
        simp only [List.mem_cons, List.not_mem_nil, or_false] at hi
        subst hi
        refine wa_loud rfl (fun K hK => ?_)
        go_wp2_with fail
        refine (into_c (.slice (some ⟨w.heap.size, 0, none⟩) m1 m1) (zerosN m1) _ (HM7_.out.fresh HA36_.out)).mono ?_
        rintro e w39_ ⟨rfl, hf⟩
        have HA40_ : Hid (Fresh w w39_) := Lib.hid (HA33_.out.trans hf)
        have HA41_ : Hid (Fresh w w39_) := Lib.hid (HA34_.out.trans hf)
        have HA42_ : Hid (Fresh w w39_) := Lib.hid (HA35_.out.trans hf)
        have HA43_ : Hid (Fresh w5_.drew w39_) := Lib.hid (HA36_.out.trans hf)
        have HA44_ : Hid (Fresh w13_ w39_) := Lib.hid (HA37_.out.trans hf)
        have HA45_ : Hid (Fresh w22_ w39_) := Lib.hid (HA38_.out.trans hf)
        clear hf
        try simp only [stV, intoS]
        go_wp2_with fail
        refine hK _ _ HA42_.out ?_
        clear hK K
        refine wa_all [15] (by kernel_rfl) (by decide) (fun i hi => ?_)
        simp only [List.mem_cons, List.not_mem_nil, or_false] at hi
        subst hi
        refine wa_loud rfl (fun K hK => ?_)
        go_wp2_with fail
        refine (into_c (.slice (some ⟨w13_.heap.size, 0, none⟩) m2 m2) (zerosN m2) _ (HM24_.out.fresh HA45_.out)).mono ?_
        rintro e w46_ ⟨rfl, hf⟩
        have HA47_ : Hid (Fresh w w46_) := Lib.hid (HA40_.out.trans hf)
        have HA48_ : Hid (Fresh w w46_) := Lib.hid (HA41_.out.trans hf)
        have HA49_ : Hid (Fresh w w46_) := Lib.hid (HA42_.out.trans hf)
        have HA50_ : Hid (Fresh w5_.drew w46_) := Lib.hid (HA43_.out.trans hf)
        have HA51_ : Hid (Fresh w13_ w46_) := Lib.hid (HA44_.out.trans hf)
        have HA52_ : Hid (Fresh w22_ w46_) := Lib.hid (HA45_.out.trans hf)
        clear hf
        try simp only [stV, intoS]
        go_wp2_with fail
        refine hK _ _ HA49_.out ?_
        clear hK K
        refine wa_all [17] (by kernel_rfl) (by decide) (fun i hi => ?_)
        simp only [List.mem_cons, List.not_mem_nil, or_false] at hi
        subst hi
        refine wa_loud rfl (fun K hK => ?_)
        go_wp2_with fail
        refine (at_c (d) _).mono ?_
        rintro e w53_ ⟨rfl, hf⟩
        have HA54_ : Hid (Fresh w w53_) := Lib.hid (HA47_.out.trans hf)
        have HA55_ : Hid (Fresh w w53_) := Lib.hid (HA48_.out.trans hf)
        have HA56_ : Hid (Fresh w w53_) := Lib.hid (HA49_.out.trans hf)
        have HA57_ : Hid (Fresh w5_.drew w53_) := Lib.hid (HA50_.out.trans hf)
        have HA58_ : Hid (Fresh w13_ w53_) := Lib.hid (HA51_.out.trans hf)
        have HA59_ : Hid (Fresh w22_ w53_) := Lib.hid (HA52_.out.trans hf)
        clear hf
        try simp only [stV, atS]
        go_wp2_with fail
        refine hK _ _ HA56_.out ?_
        clear hK K
        refine wa_all [18] (by kernel_rfl) (by decide) (fun i hi => ?_)
        simp only [List.mem_cons, List.not_mem_nil, or_false] at hi
        subst hi
        refine wa_loud rfl (fun K hK => ?_)
        go_wp2_with fail
        generalize hw61_ : w53_.alloc _ = w60_
        have HA63_ : Hid (Fresh w w60_) := Lib.hid ((by rw [← hw61_]; exact HA54_.out.alloc _))
        have HA64_ : Hid (Fresh w w60_) := Lib.hid ((by rw [← hw61_]; exact HA55_.out.alloc _))
        have HA65_ : Hid (Fresh w w60_) := Lib.hid ((by rw [← hw61_]; exact HA56_.out.alloc _))
        have HA66_ : Hid (Fresh w5_.drew w60_) := Lib.hid ((by rw [← hw61_]; exact HA57_.out.alloc _))
        have HA67_ : Hid (Fresh w13_ w60_) := Lib.hid ((by rw [← hw61_]; exact HA58_.out.alloc _))
        have HA68_ : Hid (Fresh w22_ w60_) := Lib.hid ((by rw [← hw61_]; exact HA59_.out.alloc _))
        have HB62_ := Lib.hid hw61_
        clear hw61_
        refine hK _ _ HA65_.out ?_
        clear hK K
        refine wa_all [19] (by kernel_rfl) (by decide) (fun i hi => ?_)
        simp only [List.mem_cons, List.not_mem_nil, or_false] at hi
        subst hi
        refine wa_loud rfl (fun K hK => ?_)
        go_wp2_with fail
        refine (Run_good (.slice (some ⟨bk, 0, none⟩) 32 32) (.slice p14_ (nonL nonce long).length c15_) _ key (nonL nonce long) [(.slice none 0 0, atS (c)), (.slice (some ⟨w.heap.size, 0, none⟩) m1 m1, intoS (zerosN m1)), (.slice (some ⟨w13_.heap.size, 0, none⟩) m2 m2, intoS (zerosN m2)), (.slice none 0 0, atS (d))] _ (SlB.all32 (HA63_.out.at HBK.out) HKL.out (by decide)) (HN16_.out.fresh HA67_.out) HKL.out (nonL_len HNL.out long) (StepsL.lit (b := w53_.heap.size) [(.slice none 0 0, atS (c)), (.slice (some ⟨w.heap.size, 0, none⟩) m1 m1, intoS (zerosN m1)), (.slice (some ⟨w13_.heap.size, 0, none⟩) m2 m2, intoS (zerosN m2)), (.slice none 0 0, atS (d))] (by rw [← HB62_.out]; exact heap_alloc_new _ _) rfl (Nat.le_of_ble_eq_true rfl) ?_) (Nat.le_of_ble_eq_true rfl) ?_).mono ?_
        · intro q hq; simp only [List.mem_cons, List.not_mem_nil, or_false] at hq; rcases hq with rfl | rfl | rfl | rfl
          · exact SlB.nil _
          · exact HM7_.out.fresh HA66_.out
          · exact HM24_.out.fresh HA68_.out
          · exact SlB.nil _
        · intro q hq; simp only [List.mem_cons, List.not_mem_nil, or_false] at hq; rcases hq with rfl | rfl | rfl | rfl
          · exact okAt _
          · exact okInto (by rw [zerosN_len]; have := HM1.out; omega)
          · exact okInto (by rw [zerosN_len]; have := HM2.out; omega)
          · exact okAt _
        rintro e w69_ ⟨v, ps, rfl, ho, hp, hf⟩
        have HA70_ : Hid (Fresh w w69_) := Lib.hid (HA63_.out.trans hf)
        have HA71_ : Hid (Fresh w w69_) := Lib.hid (HA64_.out.trans hf)
        have HA72_ : Hid (Fresh w w69_) := Lib.hid (HA65_.out.trans hf)
        have HA73_ : Hid (Fresh w5_.drew w69_) := Lib.hid (HA66_.out.trans hf)
        have HA74_ : Hid (Fresh w13_ w69_) := Lib.hid (HA67_.out.trans hf)
        have HA75_ : Hid (Fresh w22_ w69_) := Lib.hid (HA68_.out.trans hf)
        have HA76_ : Hid (Fresh w69_ w69_) := Lib.hid (Keeps.refl _ _)
        obtain ⟨B1, B2, hB⟩ := HLS.out
        obtain ⟨gO, cO, rfl, hcO, hx1, hx3, hx5, hx7⟩ := ho.four (hp.trans hB)
        have HX1 := Lib.hid hx1
        have HX3 := Lib.hid hx3
        have HX5 := Lib.hid hx5
        have HX7 := Lib.hid hx7
        have HCO := Lib.hid hcO
        clear ho hp hf hx1 hx3 hx5 hx7 hB hcO
        go_wp2_with fail
        refine hK _ _ HA72_.out ?_
        clear hK K
        refine wa_quiet 20 (by kernel_rfl) rfl HA72_.out (fun K hK => ?_); go_simp; refine hK _ ?_; clear hK K
        refine wa_quiet 21 (by kernel_rfl) rfl HA72_.out (fun K hK => ?_); go_simp; refine hK _ ?_; clear hK K
        refine wa_quiet 23 (by kernel_rfl) rfl HA72_.out (fun K hK => ?_); go_simp; refine hK _ ?_; clear hK K
        refine wa_quiet 22 (by kernel_rfl) rfl HA72_.out (fun K hK => ?_); go_simp; refine hK _ ?_; clear hK K
        refine wa_quiet 24 (by kernel_rfl) rfl HA72_.out (fun K hK => ?_); go_simp; refine hK _ ?_; clear hK K
        refine wa_done (by kernel_rfl) ?_
        go_wp2_with fail
        refine HK2.out _ _ ?_
        refine ls6_c _ gO cO _ _ _ _ _ _ _ _ _ _ _ _ _ _ _ _ _ _ _ _ _ _ _ _ _ _ _ _ _ _ _ _ _ _ _ _ _ _ _ _ _ _ _ _ _ _ _ _ _ _ _ _ _ _ _ _ _ _ _ _ _ _ _ _ _ _ _ _ _ _ _ _ _ _ _ _ _ _ _ _ _ _ _ _ _ _ _ _ _ _ _ _ HCO.out (HA76_.out.cellAt HX1.out (fun x => x)) (HA76_.out.cellAt HX3.out (fun x => x)) (HA76_.out.cellAt HX5.out (fun x => x)) (HA76_.out.cellAt HX7.out (fun x => x)) ?_
        exact HH.out _ HA70_.out
    · refine wa_loud rfl (fun K hK => ?_)
      go_wp2_with fail
      generalize hw14_ : w5_.alloc _ = w13_
      have HM15_ : Hid (SlB w13_.drew (.slice (some ⟨w5_.heap.size, 0, none⟩) m2 m2) (zerosN m2)) := Lib.hid (by rw [← hw14_]; exact makeN_sl m2 _ (by have := HM2.out; omega))
      have HA17_ : Hid (Fresh w w13_.drew) := Lib.hid ((by rw [← hw14_]; exact HA9_.out.alloc _))
      have HA18_ : Hid (Fresh w w13_.drew) := Lib.hid ((by rw [← hw14_]; exact HA10_.out.alloc _))
      have HA19_ : Hid (Fresh w w13_.drew) := Lib.hid ((by rw [← hw14_]; exact HA11_.out.alloc _))
      have HA20_ : Hid (Fresh w5_.drew w13_.drew) := Lib.hid ((by rw [← hw14_]; exact HA12_.out.alloc _))
      clear hw14_
      have HA21_ : Hid (Fresh w13_.drew w13_.drew) := Lib.hid (Keeps.refl _ _)
      refine hK _ _ HA19_.out ?_
      clear hK K
      refine wa_all [3] (by kernel_rfl) (by decide) (fun i hi => ?_)
      simp only [List.mem_cons, List.not_mem_nil, or_false] at hi
      subst hi
      refine wa_loud rfl (fun K hK => ?_)
      go_wp2_with fail
      refine (nonceOf_c nonce long _ HNL.out).mono ?_
      rintro e w22_ ⟨vN, rfl, hs, hf⟩
      obtain ⟨p23_, c24_, rfl⟩ := hs.slice
      have HN25_ := Lib.hid hs
      have HA26_ : Hid (Fresh w w22_) := Lib.hid (HA17_.out.trans hf)
      have HA27_ : Hid (Fresh w w22_) := Lib.hid (HA18_.out.trans hf)
      have HA28_ : Hid (Fresh w w22_) := Lib.hid (HA19_.out.trans hf)
      have HA29_ : Hid (Fresh w5_.drew w22_) := Lib.hid (HA20_.out.trans hf)
      have HA30_ : Hid (Fresh w13_.drew w22_) := Lib.hid (HA21_.out.trans hf)
      clear hs hf
      have HA31_ : Hid (Fresh w22_ w22_) := Lib.hid (Keeps.refl _ _)
      go_wp2_with fail
      refine hK _ _ HA28_.out ?_
      clear hK K
      refine wa_all [5] (by kernel_rfl) (by decide) (fun i hi => ?_)
      simp only [List.mem_cons, List.not_mem_nil, or_false] at hi
      subst hi
      refine wa_loud rfl (fun K hK => ?_)
      go_wp2_with fail
      refine (at_c (c) _).mono ?_
      rintro e w32_ ⟨rfl, hf⟩
      have HA33_ : Hid (Fresh w w32_) := Lib.hid (HA26_.out.trans hf)
      have HA34_ : Hid (Fresh w w32_) := Lib.hid (HA27_.out.trans hf)
      have HA35_ : Hid (Fresh w w32_) := Lib.hid (HA28_.out.trans hf)
      have HA36_ : Hid (Fresh w5_.drew w32_) := Lib.hid (HA29_.out.trans hf)
      have HA37_ : Hid (Fresh w13_.drew w32_) := Lib.hid (HA30_.out.trans hf)
      have HA38_ : Hid (Fresh w22_ w32_) := Lib.hid (HA31_.out.trans hf)
      clear hf
      try simp only [stV, atS]
      go_wp2_with fail
      refine hK _ _ HA35_.out ?_
      clear hK K
      refine wa_all [10] (by kernel_rfl) (by decide) (fun i hi => ?_)
      simp only [List.mem_cons, List.not_mem_nil, or_false] at hi
      subst hi
      refine wa_loud rfl (fun K hK => ?_)
      go_wp2_with fail
      refine (into_c (.slice (some ⟨w.heap.size, 0, none⟩) m1 m1) (zerosN m1) _ (HM7_.out.fresh HA36_.out)).mono ?_
      rintro e w39_ ⟨rfl, hf⟩
      have HA40_ : Hid (Fresh w w39_) := Lib.hid (HA33_.out.trans hf)
      have HA41_ : Hid (Fresh w w39_) := Lib.hid (HA34_.out.trans hf)
      have HA42_ : Hid (Fresh w w39_) := Lib.hid (HA35_.out.trans hf)
      have HA43_ : Hid (Fresh w5_.drew w39_) := Lib.hid (HA36_.out.trans hf)
      have HA44_ : Hid (Fresh w13_.drew w39_) := Lib.hid (HA37_.out.trans hf)
      have HA45_ : Hid (Fresh w22_ w39_) := Lib.hid (HA38_.out.trans hf)
      clear hf
      try simp only [stV, intoS]
      go_wp2_with fail
      refine hK _ _ HA42_.out ?_
      clear hK K
      refine wa_all [15] (by kernel_rfl) (by decide) (fun i hi => ?_)
      simp only [List.mem_cons, List.not_mem_nil, or_false] at hi
      subst hi
      refine wa_loud rfl (fun K hK => ?_)
      go_wp2_with fail
      refine (into_c (.slice (some ⟨w5_.heap.size, 0, none⟩) m2 m2) (zerosN m2) _ (HM15_.out.fresh HA44_.out)).mono ?_
      rintro e w46_ ⟨rfl, hf⟩
      have HA47_ : Hid (Fresh w w46_) := Lib.hid (HA40_.out.trans hf)
      have HA48_ : Hid (Fresh w w46_) := Lib.hid (HA41_.out.trans hf)
      have HA49_ : Hid (Fresh w w46_) := Lib.hid (HA42_.out.trans hf)
      have HA50_ : Hid (Fresh w5_.drew w46_) := Lib.hid (HA43_.out.trans hf)
      have HA51_ : Hid (Fresh w13_.drew w46_) := Lib.hid (HA44_.out.trans hf)
      have HA52_ : Hid (Fresh w22_ w46_) := Lib.hid (HA45_.out.trans hf)
      clear hf
      try simp only [stV, intoS]
      go_wp2_with fail
      refine hK _ _ HA49_.out ?_
      clear hK K
      refine wa_all [17] (by kernel_rfl) (by decide) (fun i hi => ?_)
      simp only [List.mem_cons, List.not_mem_nil, or_false] at hi
      subst hi
      refine wa_loud rfl (fun K hK => ?_)
      go_wp2_with fail
      refine (at_c (d) _).mono ?_
      rintro e w53_ ⟨rfl, hf⟩
      have HA54_ : Hid (Fresh w w53_) := Lib.hid (HA47_.out.trans hf)
      have HA55_ : Hid (Fresh w w53_) := Lib.hid (HA48_.out.trans hf)
      have HA56_ : Hid (Fresh w w53_) := Lib.hid (HA49_.out.trans hf)
      have HA57_ : Hid (Fresh w5_.drew w53_) := Lib.hid (HA50_.out.trans hf)
      have HA58_ : Hid (Fresh w13_.drew w53_) := Lib.hid (HA51_.out.trans hf)
      have HA59_ : Hid (Fresh w22_ w53_) := Lib.hid (HA52_.out.trans hf)
      clear hf
      try simp only [stV, atS]
      go_wp2_with fail
      refine hK _ _ HA56_.out ?_
      clear hK K
      refine wa_all [18] (by kernel_rfl) (by decide) (fun i hi => ?_)
      simp only [List.mem_cons, List.not_mem_nil, or_false] at hi
      subst hi
      refine wa_loud rfl (fun K hK => ?_)
      go_wp2_with fail
      generalize hw61_ : w53_.alloc _ = w60_
      have HA63_ : Hid (Fresh w w60_) := Lib.hid ((by rw [← hw61_]; exact HA54_.out.alloc _))
      have HA64_ : Hid (Fresh w w60_) := Lib.hid ((by rw [← hw61_]; exact HA55_.out.alloc _))
      have HA65_ : Hid (Fresh w w60_) := Lib.hid ((by rw [← hw61_]; exact HA56_.out.alloc _))
      have HA66_ : Hid (Fresh w5_.drew w60_) := Lib.hid ((by rw [← hw61_]; exact HA57_.out.alloc _))
      have HA67_ : Hid (Fresh w13_.drew w60_) := Lib.hid ((by rw [← hw61_]; exact HA58_.out.alloc _))
      have HA68_ : Hid (Fresh w22_ w60_) := Lib.hid ((by rw [← hw61_]; exact HA59_.out.alloc _))
      have HB62_ := Lib.hid hw61_
      clear hw61_
      refine hK _ _ HA65_.out ?_
      clear hK K
      refine wa_all [19] (by kernel_rfl) (by decide) (fun i hi => ?_)
      simp only [List.mem_cons, List.not_mem_nil, or_false] at hi
      subst hi
      refine wa_loud rfl (fun K hK => ?_)
      go_wp2_with fail
      refine (Run_good (.slice (some ⟨bk, 0, none⟩) 32 32) (.slice p23_ (nonL nonce long).length c24_) _ key (nonL nonce long) [(.slice none 0 0, atS (c)), (.slice (some ⟨w.heap.size, 0, none⟩) m1 m1, intoS (zerosN m1)), (.slice (some ⟨w5_.heap.size, 0, none⟩) m2 m2, intoS (zerosN m2)), (.slice none 0 0, atS (d))] _ (SlB.all32 (HA63_.out.at HBK.out) HKL.out (by decide)) (HN25_.out.fresh HA68_.out) HKL.out (nonL_len HNL.out long) (StepsL.lit (b := w53_.heap.size) [(.slice none 0 0, atS (c)), (.slice (some ⟨w.heap.size, 0, none⟩) m1 m1, intoS (zerosN m1)), (.slice (some ⟨w5_.heap.size, 0, none⟩) m2 m2, intoS (zerosN m2)), (.slice none 0 0, atS (d))] (by rw [← HB62_.out]; exact heap_alloc_new _ _) rfl (Nat.le_of_ble_eq_true rfl) ?_) (Nat.le_of_ble_eq_true rfl) ?_).mono ?_
      · intro q hq; simp only [List.mem_cons, List.not_mem_nil, or_false] at hq; rcases hq with rfl | rfl | rfl | rfl
        · exact SlB.nil _
        · exact HM7_.out.fresh HA66_.out
        · exact HM15_.out.fresh HA67_.out
        · exact SlB.nil _
      · intro q hq; simp only [List.mem_cons, List.not_mem_nil, or_false] at hq; rcases hq with rfl | rfl | rfl | rfl
        · exact okAt _
        · exact okInto (by rw [zerosN_len]; have := HM1.out; omega)
        · exact okInto (by rw [zerosN_len]; have := HM2.out; omega)
        · exact okAt _
      rintro e w69_ ⟨v, ps, rfl, ho, hp, hf⟩
      have HA70_ : Hid (Fresh w w69_) := Lib.hid (HA63_.out.trans hf)
      have HA71_ : Hid (Fresh w w69_) := Lib.hid (HA64_.out.trans hf)
      have HA72_ : Hid (Fresh w w69_) := Lib.hid (HA65_.out.trans hf)
      have HA73_ : Hid (Fresh w5_.drew w69_) := Lib.hid (HA66_.out.trans hf)
      have HA74_ : Hid (Fresh w13_.drew w69_) := Lib.hid (HA67_.out.trans hf)
      have HA75_ : Hid (Fresh w22_ w69_) := Lib.hid (HA68_.out.trans hf)
      have HA76_ : Hid (Fresh w69_ w69_) := Lib.hid (Keeps.refl _ _)
      obtain ⟨B1, B2, hB⟩ := HLS.out
      obtain ⟨gO, cO, rfl, hcO, hx1, hx3, hx5, hx7⟩ := ho.four (hp.trans hB)
      have HX1 := Lib.hid hx1
      have HX3 := Lib.hid hx3
      have HX5 := Lib.hid hx5
      have HX7 := Lib.hid hx7
      have HCO := Lib.hid hcO
      clear ho hp hf hx1 hx3 hx5 hx7 hB hcO
      go_wp2_with fail
      refine hK _ _ HA72_.out ?_
      clear hK K
      refine wa_quiet 20 (by kernel_rfl) rfl HA72_.out (fun K hK => ?_); go_simp; refine hK _ ?_; clear hK K
      refine wa_quiet 21 (by kernel_rfl) rfl HA72_.out (fun K hK => ?_); go_simp; refine hK _ ?_; clear hK K
      refine wa_quiet 23 (by kernel_rfl) rfl HA72_.out (fun K hK => ?_); go_simp; refine hK _ ?_; clear hK K
      refine wa_quiet 22 (by kernel_rfl) rfl HA72_.out (fun K hK => ?_); go_simp; refine hK _ ?_; clear hK K
      refine wa_quiet 24 (by kernel_rfl) rfl HA72_.out (fun K hK => ?_); go_simp; refine hK _ ?_; clear hK K
      refine wa_done (by kernel_rfl) ?_
      go_wp2_with fail
      refine HK2.out _ _ ?_
      refine ls6_c _ gO cO _ _ _ _ _ _ _ _ _ _ _ _ _ _ _ _ _ _ _ _ _ _ _ _ _ _ _ _ _ _ _ _ _ _ _ _ _ _ _ _ _ _ _ _ _ _ _ _ _ _ _ _ _ _ _ _ _ _ _ _ _ _ _ _ _ _ _ _ _ _ _ _ _ _ _ _ _ _ _ _ _ _ _ _ _ _ _ _ _ _ _ _ HCO.out (HA76_.out.cellAt HX1.out (fun x => x)) (HA76_.out.cellAt HX3.out (fun x => x)) (HA76_.out.cellAt HX5.out (fun x => x)) (HA76_.out.cellAt HX7.out (fun x => x)) ?_
      exact HH.out _ HA70_.out
  · refine wa_loud rfl (fun K hK => ?_)
    go_wp2_with fail
    generalize hw6_ : w.alloc _ = w5_
    have HM7_ : Hid (SlB w5_.drew (.slice (some ⟨w.heap.size, 0, none⟩) m2 m2) (zerosN m2)) := Lib.hid (by rw [← hw6_]; exact makeN_sl m2 _ (by have := HM2.out; omega))
    have HA9_ : Hid (Fresh w w5_.drew) := Lib.hid ((by rw [← hw6_]; exact HA2_.out.alloc _))
    have HA10_ : Hid (Fresh w w5_.drew) := Lib.hid ((by rw [← hw6_]; exact HA3_.out.alloc _))
    have HA11_ : Hid (Fresh w w5_.drew) := Lib.hid ((by rw [← hw6_]; exact HA4_.out.alloc _))
    clear hw6_
    have HA12_ : Hid (Fresh w5_.drew w5_.drew) := Lib.hid (Keeps.refl _ _)
    refine hK _ _ HA11_.out ?_
    clear hK K
    refine wa_all [3, 9] (by kernel_rfl) (by decide) (fun i hi => ?_)
    simp only [List.mem_cons, List.not_mem_nil, or_false] at hi
    rcases hi with rfl | rfl
    · refine wa_loud rfl (fun K hK => ?_)
      go_wp2_with fail
      refine (nonceOf_c nonce long _ HNL.out).mono ?_
      rintro e w13_ ⟨vN, rfl, hs, hf⟩
      obtain ⟨p14_, c15_, rfl⟩ := hs.slice
      have HN16_ := Lib.hid hs
      have HA17_ : Hid (Fresh w w13_) := Lib.hid (HA9_.out.trans hf)
      have HA18_ : Hid (Fresh w w13_) := Lib.hid (HA10_.out.trans hf)
      have HA19_ : Hid (Fresh w w13_) := Lib.hid (HA11_.out.trans hf)
      have HA20_ : Hid (Fresh w5_.drew w13_) := Lib.hid (HA12_.out.trans hf)
      clear hs hf
      have HA21_ : Hid (Fresh w13_ w13_) := Lib.hid (Keeps.refl _ _)
      go_wp2_with fail
      refine hK _ _ HA19_.out ?_
      clear hK K
      refine wa_all [5, 9] (by kernel_rfl) (by decide) (fun i hi => ?_)
      simp only [List.mem_cons, List.not_mem_nil, or_false] at hi
      rcases hi with rfl | rfl
      · refine wa_loud rfl (fun K hK => ?_)
        go_wp2_with fail
        refine (at_c (c) _).mono ?_
        rintro e w22_ ⟨rfl, hf⟩
        have HA23_ : Hid (Fresh w w22_) := Lib.hid (HA17_.out.trans hf)
        have HA24_ : Hid (Fresh w w22_) := Lib.hid (HA18_.out.trans hf)
        have HA25_ : Hid (Fresh w w22_) := Lib.hid (HA19_.out.trans hf)
        have HA26_ : Hid (Fresh w5_.drew w22_) := Lib.hid (HA20_.out.trans hf)
        have HA27_ : Hid (Fresh w13_ w22_) := Lib.hid (HA21_.out.trans hf)
        clear hf
        try simp only [stV, atS]
        go_wp2_with fail
        refine hK _ _ HA25_.out ?_
        clear hK K
        refine wa_all [9] (by kernel_rfl) (by decide) (fun i hi => ?_)
        simp only [List.mem_cons, List.not_mem_nil, or_false] at hi
        subst hi
        refine wa_loud rfl (fun K hK => ?_)
        go_wp2_with fail
        generalize hw29_ : w22_.alloc _ = w28_
        have HM30_ : Hid (SlB w28_ (.slice (some ⟨w22_.heap.size, 0, none⟩) m1 m1) (zerosN m1)) := Lib.hid (by rw [← hw29_]; exact makeN_sl m1 _ (by have := HM1.out; omega))
        have HA32_ : Hid (Fresh w w28_) := Lib.hid ((by rw [← hw29_]; exact HA23_.out.alloc _))
        have HA33_ : Hid (Fresh w w28_) := Lib.hid ((by rw [← hw29_]; exact HA24_.out.alloc _))
        have HA34_ : Hid (Fresh w w28_) := Lib.hid ((by rw [← hw29_]; exact HA25_.out.alloc _))
        have HA35_ : Hid (Fresh w5_.drew w28_) := Lib.hid ((by rw [← hw29_]; exact HA26_.out.alloc _))
        have HA36_ : Hid (Fresh w13_ w28_) := Lib.hid ((by rw [← hw29_]; exact HA27_.out.alloc _))
        clear hw29_
        have HA37_ : Hid (Fresh w28_ w28_) := Lib.hid (Keeps.refl _ _)
        refine hK _ _ HA34_.out ?_
        clear hK K
        refine wa_all [10] (by kernel_rfl) (by decide) (fun i hi => ?_)
        simp only [List.mem_cons, List.not_mem_nil, or_false] at hi
        subst hi
        refine wa_loud rfl (fun K hK => ?_)
        go_wp2_with fail
        refine (into_c (.slice (some ⟨w22_.heap.size, 0, none⟩) m1 m1) (zerosN m1) _ (HM30_.out.fresh HA37_.out)).mono ?_
        rintro e w38_ ⟨rfl, hf⟩
        have HA39_ : Hid (Fresh w w38_) := Lib.hid (HA32_.out.trans hf)
        have HA40_ : Hid (Fresh w w38_) := Lib.hid (HA33_.out.trans hf)
        have HA41_ : Hid (Fresh w w38_) := Lib.hid (HA34_.out.trans hf)
        have HA42_ : Hid (Fresh w5_.drew w38_) := Lib.hid (HA35_.out.trans hf)
        have HA43_ : Hid (Fresh w13_ w38_) := Lib.hid (HA36_.out.trans hf)
        have HA44_ : Hid (Fresh w28_ w38_) := Lib.hid (HA37_.out.trans hf)
        clear hf
        try simp only [stV, intoS]
        go_wp2_with fail
        refine hK _ _ HA41_.out ?_
        clear hK K
        refine wa_all [15] (by kernel_rfl) (by decide) (fun i hi => ?_)
        simp only [List.mem_cons, List.not_mem_nil, or_false] at hi
        subst hi
        refine wa_loud rfl (fun K hK => ?_)
        go_wp2_with fail
        refine (into_c (.slice (some ⟨w.heap.size, 0, none⟩) m2 m2) (zerosN m2) _ (HM7_.out.fresh HA42_.out)).mono ?_
        rintro e w45_ ⟨rfl, hf⟩
        have HA46_ : Hid (Fresh w w45_) := Lib.hid (HA39_.out.trans hf)
        have HA47_ : Hid (Fresh w w45_) := Lib.hid (HA40_.out.trans hf)
        have HA48_ : Hid (Fresh w w45_) := Lib.hid (HA41_.out.trans hf)
        have HA49_ : Hid (Fresh w5_.drew w45_) := Lib.hid (HA42_.out.trans hf)
        have HA50_ : Hid (Fresh w13_ w45_) := Lib.hid (HA43_.out.trans hf)
        have HA51_ : Hid (Fresh w28_ w45_) := Lib.hid (HA44_.out.trans hf)
        clear hf
        try simp only [stV, intoS]
        go_wp2_with fail
        refine hK _ _ HA48_.out ?_
        clear hK K
        refine wa_all [17] (by kernel_rfl) (by decide) (fun i hi => ?_)
        simp only [List.mem_cons, List.not_mem_nil, or_false] at hi
        subst hi
        refine wa_loud rfl (fun K hK => ?_)
        go_wp2_with fail
        refine (at_c (d) _).mono ?_
        rintro e w52_ ⟨rfl, hf⟩
        have HA53_ : Hid (Fresh w w52_) := Lib.hid (HA46_.out.trans hf)
        have HA54_ : Hid (Fresh w w52_) := Lib.hid (HA47_.out.trans hf)
        have HA55_ : Hid (Fresh w w52_) := Lib.hid (HA48_.out.trans hf)
        have HA56_ : Hid (Fresh w5_.drew w52_) := Lib.hid (HA49_.out.trans hf)
        have HA57_ : Hid (Fresh w13_ w52_) := Lib.hid (HA50_.out.trans hf)
        have HA58_ : Hid (Fresh w28_ w52_) := Lib.hid (HA51_.out.trans hf)
        clear hf
        try simp only [stV, atS]
        go_wp2_with fail
        refine hK _ _ HA55_.out ?_
        clear hK K
        refine wa_all [18] (by kernel_rfl) (by decide) (fun i hi => ?_)
        simp only [List.mem_cons, List.not_mem_nil, or_false] at hi
        subst hi
        refine wa_loud rfl (fun K hK => ?_)
        go_wp2_with fail
        generalize hw60_ : w52_.alloc _ = w59_
        have HA62_ : Hid (Fresh w w59_) := Lib.hid ((by rw [← hw60_]; exact HA53_.out.alloc _))
        have HA63_ : Hid (Fresh w w59_) := Lib.hid ((by rw [← hw60_]; exact HA54_.out.alloc _))
        have HA64_ : Hid (Fresh w w59_) := Lib.hid ((by rw [← hw60_]; exact HA55_.out.alloc _))
        have HA65_ : Hid (Fresh w5_.drew w59_) := Lib.hid ((by rw [← hw60_]; exact HA56_.out.alloc _))
        have HA66_ : Hid (Fresh w13_ w59_) := Lib.hid ((by rw [← hw60_]; exact HA57_.out.alloc _))
        have HA67_ : Hid (Fresh w28_ w59_) := Lib.hid ((by rw [← hw60_]; exact HA58_.out.alloc _))
        have HB61_ := Lib.hid hw60_
        clear hw60_
        refine hK _ _ HA64_.out ?_
        clear hK K
        refine wa_all [19] (by kernel_rfl) (by decide) (fun i hi => ?_)
        simp only [List.mem_cons, List.not_mem_nil, or_false] at hi
        subst hi
        refine wa_loud rfl (fun K hK => ?_)
        go_wp2_with fail
        refine (Run_good (.slice (some ⟨bk, 0, none⟩) 32 32) (.slice p14_ (nonL nonce long).length c15_) _ key (nonL nonce long) [(.slice none 0 0, atS (c)), (.slice (some ⟨w22_.heap.size, 0, none⟩) m1 m1, intoS (zerosN m1)), (.slice (some ⟨w.heap.size, 0, none⟩) m2 m2, intoS (zerosN m2)), (.slice none 0 0, atS (d))] _ (SlB.all32 (HA62_.out.at HBK.out) HKL.out (by decide)) (HN16_.out.fresh HA66_.out) HKL.out (nonL_len HNL.out long) (StepsL.lit (b := w52_.heap.size) [(.slice none 0 0, atS (c)), (.slice (some ⟨w22_.heap.size, 0, none⟩) m1 m1, intoS (zerosN m1)), (.slice (some ⟨w.heap.size, 0, none⟩) m2 m2, intoS (zerosN m2)), (.slice none 0 0, atS (d))] (by rw [← HB61_.out]; exact heap_alloc_new _ _) rfl (Nat.le_of_ble_eq_true rfl) ?_) (Nat.le_of_ble_eq_true rfl) ?_).mono ?_
        · intro q hq; simp only [List.mem_cons, List.not_mem_nil, or_false] at hq; rcases hq with rfl | rfl | rfl | rfl
          · exact SlB.nil _
          · exact HM30_.out.fresh HA67_.out
          · exact HM7_.out.fresh HA65_.out
          · exact SlB.nil _
        · intro q hq; simp only [List.mem_cons, List.not_mem_nil, or_false] at hq; rcases hq with rfl | rfl | rfl | rfl
          · exact okAt _
          · exact okInto (by rw [zerosN_len]; have := HM1.out; omega)
          · exact okInto (by rw [zerosN_len]; have := HM2.out; omega)
          · exact okAt _
        rintro e w68_ ⟨v, ps, rfl, ho, hp, hf⟩
        have HA69_ : Hid (Fresh w w68_) := Lib.hid (HA62_.out.trans hf)
        have HA70_ : Hid (Fresh w w68_) := Lib.hid (HA63_.out.trans hf)
        have HA71_ : Hid (Fresh w w68_) := Lib.hid (HA64_.out.trans hf)
        have HA72_ : Hid (Fresh w5_.drew w68_) := Lib.hid (HA65_.out.trans hf)
        have HA73_ : Hid (Fresh w13_ w68_) := Lib.hid (HA66_.out.trans hf)
        have HA74_ : Hid (Fresh w28_ w68_) := Lib.hid (HA67_.out.trans hf)
        have HA75_ : Hid (Fresh w68_ w68_) := Lib.hid (Keeps.refl _ _)
        obtain ⟨B1, B2, hB⟩ := HLS.out
        obtain ⟨gO, cO, rfl, hcO, hx1, hx3, hx5, hx7⟩ := ho.four (hp.trans hB)
        have HX1 := Lib.hid hx1
        have HX3 := Lib.hid hx3
        have HX5 := Lib.hid hx5
        have HX7 := Lib.hid hx7
        have HCO := Lib.hid hcO
        clear ho hp hf hx1 hx3 hx5 hx7 hB hcO
        go_wp2_with fail
        refine hK _ _ HA71_.out ?_
        clear hK K
        refine wa_quiet 20 (by kernel_rfl) rfl HA71_.out (fun K hK => ?_); go_simp; refine hK _ ?_; clear hK K
        refine wa_quiet 21 (by kernel_rfl) rfl HA71_.out (fun K hK => ?_); go_simp; refine hK _ ?_; clear hK K
        refine wa_quiet 23 (by kernel_rfl) rfl HA71_.out (fun K hK => ?_); go_simp; refine hK _ ?_; clear hK K
        refine wa_quiet 22 (by kernel_rfl) rfl HA71_.out (fun K hK => ?_); go_simp; refine hK _ ?_; clear hK K
        refine wa_quiet 24 (by kernel_rfl) rfl HA71_.out (fun K hK => ?_); go_simp; refine hK _ ?_; clear hK K
        refine wa_done (by kernel_rfl) ?_
        go_wp2_with fail
        refine HK2.out _ _ ?_
        refine ls6_c _ gO cO _ _ _ _ _ _ _ _ _ _ _ _ _ _ _ _ _ _ _ _ _ _ _ _ _ _ _ _ _ _ _ _ _ _ _ _ _ _ _ _ _ _ _ _ _ _ _ _ _ _ _ _ _ _ _ _ _ _ _ _ _ _ _ _ _ _ _ _ _ _ _ _ _ _ _ _ _ _ _ _ _ _ _ _ _ _ _ _ _ _ _ _ HCO.out (HA75_.out.cellAt HX1.out (fun x => x)) (HA75_.out.cellAt HX3.out (fun x => x)) (HA75_.out.cellAt HX5.out (fun x => x)) (HA75_.out.cellAt HX7.out (fun x => x)) ?_
        exact HH.out _ HA69_.out
      · refine wa_loud rfl (fun K hK => ?_)
        go_wp2_with fail
        generalize hw23_ : w13_.alloc _ = w22_
        have HM24_ : Hid (SlB w22_ (.slice (some ⟨w13_.heap.size, 0, none⟩) m1 m1) (zerosN m1)) := Lib.hid (by rw [← hw23_]; exact makeN_sl m1 _ (by have := HM1.out; omega))
        have HA26_ : Hid (Fresh w w22_) := Lib.hid ((by rw [← hw23_]; exact HA17_.out.alloc _))
        have HA27_ : Hid (Fresh w w22_) := Lib.hid ((by rw [← hw23_]; exact HA18_.out.alloc _))
        have HA28_ : Hid (Fresh w w22_) := Lib.hid ((by rw [← hw23_]; exact HA19_.out.alloc _))
        have HA29_ : Hid (Fresh w5_.drew w22_) := Lib.hid ((by rw [← hw23_]; exact HA20_.out.alloc _))
        have HA30_ : Hid (Fresh w13_ w22_) := Lib.hid ((by rw [← hw23_]; exact HA21_.out.alloc _))
        clear hw23_
        have HA31_ : Hid (Fresh w22_ w22_) := Lib.hid (Keeps.refl _ _)
        refine hK _ _ HA28_.out ?_
        clear hK K
        refine wa_all [5] (by kernel_rfl) (by decide) (fun i hi => ?_)
        simp only [List.mem_cons, List.not_mem_nil, or_false] at hi
        subst hi
        refine wa_loud rfl (fun K hK => ?_)
        go_wp2_with fail
        refine (at_c (c) _).mono ?_
        rintro e w32_ ⟨rfl, hf⟩
        have HA33_ : Hid (Fresh w w32_) := Lib.hid (HA26_.out.trans hf)
        have HA34_ : Hid (Fresh w w32_) := Lib.hid (HA27_.out.trans hf)
        have HA35_ : Hid (Fresh w w32_) := Lib.hid (HA28_.out.trans hf)
        have HA36_ : Hid (Fresh w5_.drew w32_) := Lib.hid (HA29_.out.trans hf)
        have HA37_ : Hid (Fresh w13_ w32_) := Lib.hid (HA30_.out.trans hf)
        have HA38_ : Hid (Fresh w22_ w32_) := Lib.hid (HA31_.out.trans hf)
        clear hf
        try simp only [stV, atS]
        go_wp2_with fail
        refine hK _ _ HA35_.out ?_
        clear hK K
        refine wa_all [10] (by kernel_rfl) (by decide) (fun i hi => ?_)
        simp only [List.mem_cons, List.not_mem_nil, or_false] at hi
        subst hi
        refine wa_loud rfl (fun K hK => ?_)
        go_wp2_with fail
        refine (into_c (.slice (some ⟨w13_.heap.size, 0, none⟩) m1 m1) (zerosN m1) _ (HM24_.out.fresh HA38_.out)).mono ?_
        rintro e w39_ ⟨rfl, hf⟩
        have HA40_ : Hid (Fresh w w39_) := Lib.hid (HA33_.out.trans hf)
        have HA41_ : Hid (Fresh w w39_) := Lib.hid (HA34_.out.trans hf)
        have HA42_ : Hid (Fresh w w39_) := Lib.hid (HA35_.out.trans hf)
        have HA43_ : Hid (Fresh w5_.drew w39_) := Lib.hid (HA36_.out.trans hf)
        have HA44_ : Hid (Fresh w13_ w39_) := Lib.hid (HA37_.out.trans hf)
        have HA45_ : Hid (Fresh w22_ w39_) := Lib.hid (HA38_.out.trans hf)
        clear hf
        try simp only [stV, intoS]
        go_wp2_with fail
        refine hK _ _ HA42_.out ?_
        clear hK K
        refine wa_all [15] (by kernel_rfl) (by decide) (fun i hi => ?_)
        simp only [List.mem_cons, List.not_mem_nil, or_false] at hi
        subst hi
        refine wa_loud rfl (fun K hK => ?_)
        go_wp2_with fail
        refine (into_c (.slice (some ⟨w.heap.size, 0, none⟩) m2 m2) (zerosN m2) _ (HM7_.out.fresh HA43_.out)).mono ?_
        rintro e w46_ ⟨rfl, hf⟩
        have HA47_ : Hid (Fresh w w46_) := Lib.hid (HA40_.out.trans hf)
        have HA48_ : Hid (Fresh w w46_) := Lib.hid (HA41_.out.trans hf)
        have HA49_ : Hid (Fresh w w46_) := Lib.hid (HA42_.out.trans hf)
        have HA50_ : Hid (Fresh w5_.drew w46_) := Lib.hid (HA43_.out.trans hf)
        have HA51_ : Hid (Fresh w13_ w46_) := Lib.hid (HA44_.out.trans hf)
        have HA52_ : Hid (Fresh w22_ w46_) := Lib.hid (HA45_.out.trans hf)
        clear hf
        try simp only [stV, intoS]
        go_wp2_with fail
        refine hK _ _ HA49_.out ?_
        clear hK K
        refine wa_all [17] (by kernel_rfl) (by decide) (fun i hi => ?_)
        simp only [List.mem_cons, List.not_mem_nil, or_false] at hi
        subst hi
        refine wa_loud rfl (fun K hK => ?_)
        go_wp2_with fail
        refine (at_c (d) _).mono ?_
        rintro e w53_ ⟨rfl, hf⟩
        have HA54_ : Hid (Fresh w w53_) := Lib.hid (HA47_.out.trans hf)
        have HA55_ : Hid (Fresh w w53_) := Lib.hid (HA48_.out.trans hf)
        have HA56_ : Hid (Fresh w w53_) := Lib.hid (HA49_.out.trans hf)
        have HA57_ : Hid (Fresh w5_.drew w53_) := Lib.hid (HA50_.out.trans hf)
        have HA58_ : Hid (Fresh w13_ w53_) := Lib.hid (HA51_.out.trans hf)
        have HA59_ : Hid (Fresh w22_ w53_) := Lib.hid (HA52_.out.trans hf)
        clear hf
        try simp only [stV, atS]
        go_wp2_with fail
        refine hK _ _ HA56_.out ?_
        clear hK K
        refine wa_all [18] (by kernel_rfl) (by decide) (fun i hi => ?_)
        simp only [List.mem_cons, List.not_mem_nil, or_false] at hi
        subst hi
        refine wa_loud rfl (fun K hK => ?_)
        go_wp2_with fail
        generalize hw61_ : w53_.alloc _ = w60_
        have HA63_ : Hid (Fresh w w60_) := Lib.hid ((by rw [← hw61_]; exact HA54_.out.alloc _))
        have HA64_ : Hid (Fresh w w60_) := Lib.hid ((by rw [← hw61_]; exact HA55_.out.alloc _))
        have HA65_ : Hid (Fresh w w60_) := Lib.hid ((by rw [← hw61_]; exact HA56_.out.alloc _))
        have HA66_ : Hid (Fresh w5_.drew w60_) := Lib.hid ((by rw [← hw61_]; exact HA57_.out.alloc _))
        have HA67_ : Hid (Fresh w13_ w60_) := Lib.hid ((by rw [← hw61_]; exact HA58_.out.alloc _))
        have HA68_ : Hid (Fresh w22_ w60_) := Lib.hid ((by rw [← hw61_]; exact HA59_.out.alloc _))
        have HB62_ := Lib.hid hw61_
        clear hw61_
        refine hK _ _ HA65_.out ?_
        clear hK K
        refine wa_all [19] (by kernel_rfl) (by decide) (fun i hi => ?_)
        simp only [List.mem_cons, List.not_mem_nil, or_false] at hi
        subst hi
        refine wa_loud rfl (fun K hK => ?_)
        go_wp2_with fail
        refine (Run_good (.slice (some ⟨bk, 0, none⟩) 32 32) (.slice p14_ (nonL nonce long).length c15_) _ key (nonL nonce long) [(.slice none 0 0, atS (c)), (.slice (some ⟨w13_.heap.size, 0, none⟩) m1 m1, intoS (zerosN m1)), (.slice (some ⟨w.heap.size, 0, none⟩) m2 m2, intoS (zerosN m2)), (.slice none 0 0, atS (d))] _ (SlB.all32 (HA63_.out.at HBK.out) HKL.out (by decide)) (HN16_.out.fresh HA67_.out) HKL.out (nonL_len HNL.out long) (StepsL.lit (b := w53_.heap.size) [(.slice none 0 0, atS (c)), (.slice (some ⟨w13_.heap.size, 0, none⟩) m1 m1, intoS (zerosN m1)), (.slice (some ⟨w.heap.size, 0, none⟩) m2 m2, intoS (zerosN m2)), (.slice none 0 0, atS (d))] (by rw [← HB62_.out]; exact heap_alloc_new _ _) rfl (Nat.le_of_ble_eq_true rfl) ?_) (Nat.le_of_ble_eq_true rfl) ?_).mono ?_
        · intro q hq; simp only [List.mem_cons, List.not_mem_nil, or_false] at hq; rcases hq with rfl | rfl | rfl | rfl
          · exact SlB.nil _
          · exact HM24_.out.fresh HA68_.out
          · exact HM7_.out.fresh HA66_.out
          · exact SlB.nil _
        · intro q hq; simp only [List.mem_cons, List.not_mem_nil, or_false] at hq; rcases hq with rfl | rfl | rfl | rfl
          · exact okAt _
          · exact okInto (by rw [zerosN_len]; have := HM1.out; omega)
          · exact okInto (by rw [zerosN_len]; have := HM2.out; omega)
          · exact okAt _
        rintro e w69_ ⟨v, ps, rfl, ho, hp, hf⟩
        have HA70_ : Hid (Fresh w w69_) := Lib.hid (HA63_.out.trans hf)
        have HA71_ : Hid (Fresh w w69_) := Lib.hid (HA64_.out.trans hf)
        have HA72_ : Hid (Fresh w w69_) := Lib.hid (HA65_.out.trans hf)
        have HA73_ : Hid (Fresh w5_.drew w69_) := Lib.hid (HA66_.out.trans hf)
        have HA74_ : Hid (Fresh w13_ w69_) := Lib.hid (HA67_.out.trans hf)
        have HA75_ : Hid (Fresh w22_ w69_) := Lib.hid (HA68_.out.trans hf)
        have HA76_ : Hid (Fresh w69_ w69_) := Lib.hid (Keeps.refl _ _)
        obtain ⟨B1, B2, hB⟩ := HLS.out
        obtain ⟨gO, cO, rfl, hcO, hx1, hx3, hx5, hx7⟩ := ho.four (hp.trans hB)
        have HX1 := Lib.hid hx1
        have HX3 := Lib.hid hx3
        have HX5 := Lib.hid hx5
        have HX7 := Lib.hid hx7
        have HCO := Lib.hid hcO
        clear ho hp hf hx1 hx3 hx5 hx7 hB hcO
        go_wp2_with fail
        refine hK _ _ HA72_.out ?_
        clear hK K
        refine wa_quiet 20 (by kernel_rfl) rfl HA72_.out (fun K hK => ?_); go_simp; refine hK _ ?_; clear hK K
        refine wa_quiet 21 (by kernel_rfl) rfl HA72_.out (fun K hK => ?_); go_simp; refine hK _ ?_; clear hK K
        refine wa_quiet 23 (by kernel_rfl) rfl HA72_.out (fun K hK => ?_); go_simp; refine hK _ ?_; clear hK K
        refine wa_quiet 22 (by kernel_rfl) rfl HA72_.out (fun K hK => ?_); go_simp; refine hK _ ?_; clear hK K
        refine wa_quiet 24 (by kernel_rfl) rfl HA72_.out (fun K hK => ?_); go_simp; refine hK _ ?_; clear hK K
        refine wa_done (by kernel_rfl) ?_
        go_wp2_with fail
        refine HK2.out _ _ ?_
        refine ls6_c _ gO cO _ _ _ _ _ _ _ _ _ _ _ _ _ _ _ _ _ _ _ _ _ _ _ _ _ _ _ _ _ _ _ _ _ _ _ _ _ _ _ _ _ _ _ _ _ _ _ _ _ _ _ _ _ _ _ _ _ _ _ _ _ _ _ _ _ _ _ _ _ _ _ _ _ _ _ _ _ _ _ _ _ _ _ _ _ _ _ _ _ _ _ _ HCO.out (HA76_.out.cellAt HX1.out (fun x => x)) (HA76_.out.cellAt HX3.out (fun x => x)) (HA76_.out.cellAt HX5.out (fun x => x)) (HA76_.out.cellAt HX7.out (fun x => x)) ?_
        exact HH.out _ HA70_.out
    · refine wa_loud rfl (fun K hK => ?_)
      go_wp2_with fail
      generalize hw14_ : w5_.alloc _ = w13_
      have HM15_ : Hid (SlB w13_.drew (.slice (some ⟨w5_.heap.size, 0, none⟩) m1 m1) (zerosN m1)) := Lib.hid (by rw [← hw14_]; exact makeN_sl m1 _ (by have := HM1.out; omega))
      have HA17_ : Hid (Fresh w w13_.drew) := Lib.hid ((by rw [← hw14_]; exact HA9_.out.alloc _))
      have HA18_ : Hid (Fresh w w13_.drew) := Lib.hid ((by rw [← hw14_]; exact HA10_.out.alloc _))
      have HA19_ : Hid (Fresh w w13_.drew) := Lib.hid ((by rw [← hw14_]; exact HA11_.out.alloc _))
      have HA20_ : Hid (Fresh w5_.drew w13_.drew) := Lib.hid ((by rw [← hw14_]; exact HA12_.out.alloc _))
      clear hw14_
      have HA21_ : Hid (Fresh w13_.drew w13_.drew) := Lib.hid (Keeps.refl _ _)
      refine hK _ _ HA19_.out ?_
      clear hK K
      refine wa_all [3] (by kernel_rfl) (by decide) (fun i hi => ?_)
      simp only [List.mem_cons, List.not_mem_nil, or_false] at hi
      subst hi
      refine wa_loud rfl (fun K hK => ?_)
      go_wp2_with fail
      refine (nonceOf_c nonce long _ HNL.out).mono ?_
      rintro e w22_ ⟨vN, rfl, hs, hf⟩
      obtain ⟨p23_, c24_, rfl⟩ := hs.slice
      have HN25_ := Lib.hid hs
      have HA26_ : Hid (Fresh w w22_) := Lib.hid (HA17_.out.trans hf)
      have HA27_ : Hid (Fresh w w22_) := Lib.hid (HA18_.out.trans hf)
      have HA28_ : Hid (Fresh w w22_) := Lib.hid (HA19_.out.trans hf)
      have HA29_ : Hid (Fresh w5_.drew w22_) := Lib.hid (HA20_.out.trans hf)
      have HA30_ : Hid (Fresh w13_.drew w22_) := Lib.hid (HA21_.out.trans hf)
      clear hs hf
      have HA31_ : Hid (Fresh w22_ w22_) := Lib.hid (Keeps.refl _ _)
      go_wp2_with fail
      refine hK _ _ HA28_.out ?_
      clear hK K
      refine wa_all [5] (by kernel_rfl) (by decide) (fun i hi => ?_)
      simp only [List.mem_cons, List.not_mem_nil, or_false] at hi
      subst hi
      refine wa_loud rfl (fun K hK => ?_)
      go_wp2_with fail
      refine (at_c (c) _).mono ?_
      rintro e w32_ ⟨rfl, hf⟩
      have HA33_ : Hid (Fresh w w32_) := Lib.hid (HA26_.out.trans hf)
      have HA34_ : Hid (Fresh w w32_) := Lib.hid (HA27_.out.trans hf)
      have HA35_ : Hid (Fresh w w32_) := Lib.hid (HA28_.out.trans hf)
      have HA36_ : Hid (Fresh w5_.drew w32_) := Lib.hid (HA29_.out.trans hf)
      have HA37_ : Hid (Fresh w13_.drew w32_) := Lib.hid (HA30_.out.trans hf)
      have HA38_ : Hid (Fresh w22_ w32_) := Lib.hid (HA31_.out.trans hf)
      clear hf
      try simp only [stV, atS]
      go_wp2_with fail
      refine hK _ _ HA35_.out ?_
      clear hK K
      refine wa_all [10] (by kernel_rfl) (by decide) (fun i hi => ?_)
      simp only [List.mem_cons, List.not_mem_nil, or_false] at hi
      subst hi
      refine wa_loud rfl (fun K hK => ?_)
      go_wp2_with fail
      refine (into_c (.slice (some ⟨w5_.heap.size, 0, none⟩) m1 m1) (zerosN m1) _ (HM15_.out.fresh HA37_.out)).mono ?_
      rintro e w39_ ⟨rfl, hf⟩
      have HA40_ : Hid (Fresh w w39_) := Lib.hid (HA33_.out.trans hf)
      have HA41_ : Hid (Fresh w w39_) := Lib.hid (HA34_.out.trans hf)
      have HA42_ : Hid (Fresh w w39_) := Lib.hid (HA35_.out.trans hf)
      have HA43_ : Hid (Fresh w5_.drew w39_) := Lib.hid (HA36_.out.trans hf)
      have HA44_ : Hid (Fresh w13_.drew w39_) := Lib.hid (HA37_.out.trans hf)
      have HA45_ : Hid (Fresh w22_ w39_) := Lib.hid (HA38_.out.trans hf)
      clear hf
      try simp only [stV, intoS]
      go_wp2_with fail
      refine hK _ _ HA42_.out ?_
      clear hK K
      refine wa_all [15] (by kernel_rfl) (by decide) (fun i hi => ?_)
      simp only [List.mem_cons, List.not_mem_nil, or_false] at hi
      subst hi
      refine wa_loud rfl (fun K hK => ?_)
      go_wp2_with fail
      refine (into_c (.slice (some ⟨w.heap.size, 0, none⟩) m2 m2) (zerosN m2) _ (HM7_.out.fresh HA43_.out)).mono ?_
      rintro e w46_ ⟨rfl, hf⟩
      have HA47_ : Hid (Fresh w w46_) := Lib.hid (HA40_.out.trans hf)
      have HA48_ : Hid (Fresh w w46_) := Lib.hid (HA41_.out.trans hf)
      have HA49_ : Hid (Fresh w w46_) := Lib.hid (HA42_.out.trans hf)
      have HA50_ : Hid (Fresh w5_.drew w46_) := Lib.hid (HA43_.out.trans hf)
      have HA51_ : Hid (Fresh w13_.drew w46_) := Lib.hid (HA44_.out.trans hf)
      have HA52_ : Hid (Fresh w22_ w46_) := Lib.hid (HA45_.out.trans hf)
      clear hf
      try simp only [stV, intoS]
      go_wp2_with fail
      refine hK _ _ HA49_.out ?_
      clear hK K
      refine wa_all [17] (by kernel_rfl) (by decide) (fun i hi => ?_)
      simp only [List.mem_cons, List.not_mem_nil, or_false] at hi
      subst hi
      refine wa_loud rfl (fun K hK => ?_)
      go_wp2_with fail
      refine (at_c (d) _).mono ?_
      rintro e w53_ ⟨rfl, hf⟩
      have HA54_ : Hid (Fresh w w53_) := Lib.hid (HA47_.out.trans hf)
      have HA55_ : Hid (Fresh w w53_) := Lib.hid (HA48_.out.trans hf)
      have HA56_ : Hid (Fresh w w53_) := Lib.hid (HA49_.out.trans hf)
      have HA57_ : Hid (Fresh w5_.drew w53_) := Lib.hid (HA50_.out.trans hf)
      have HA58_ : Hid (Fresh w13_.drew w53_) := Lib.hid (HA51_.out.trans hf)
      have HA59_ : Hid (Fresh w22_ w53_) := Lib.hid (HA52_.out.trans hf)
      clear hf
      try simp only [stV, atS]
      go_wp2_with fail
      refine hK _ _ HA56_.out ?_
      clear hK K
      refine wa_all [18] (by kernel_rfl) (by decide) (fun i hi => ?_)
      simp only [List.mem_cons, List.not_mem_nil, or_false] at hi
      subst hi
      refine wa_loud rfl (fun K hK => ?_)
      go_wp2_with fail
      generalize hw61_ : w53_.alloc _ = w60_
      have HA63_ : Hid (Fresh w w60_) := Lib.hid ((by rw [← hw61_]; exact HA54_.out.alloc _))
      have HA64_ : Hid (Fresh w w60_) := Lib.hid ((by rw [← hw61_]; exact HA55_.out.alloc _))
      have HA65_ : Hid (Fresh w w60_) := Lib.hid ((by rw [← hw61_]; exact HA56_.out.alloc _))
      have HA66_ : Hid (Fresh w5_.drew w60_) := Lib.hid ((by rw [← hw61_]; exact HA57_.out.alloc _))
      have HA67_ : Hid (Fresh w13_.drew w60_) := Lib.hid ((by rw [← hw61_]; exact HA58_.out.alloc _))
      have HA68_ : Hid (Fresh w22_ w60_) := Lib.hid ((by rw [← hw61_]; exact HA59_.out.alloc _))
      have HB62_ := Lib.hid hw61_
      clear hw61_
      refine hK _ _ HA65_.out ?_
      clear hK K
      refine wa_all [19] (by kernel_rfl) (by decide) (fun i hi => ?_)
      simp only [List.mem_cons, List.not_mem_nil, or_false] at hi
      subst hi
      refine wa_loud rfl (fun K hK => ?_)
      go_wp2_with fail
      refine (Run_good (.slice (some ⟨bk, 0, none⟩) 32 32) (.slice p23_ (nonL nonce long).length c24_) _ key (nonL nonce long) [(.slice none 0 0, atS (c)), (.slice (some ⟨w5_.heap.size, 0, none⟩) m1 m1, intoS (zerosN m1)), (.slice (some ⟨w.heap.size, 0, none⟩) m2 m2, intoS (zerosN m2)), (.slice none 0 0, atS (d))] _ (SlB.all32 (HA63_.out.at HBK.out) HKL.out (by decide)) (HN25_.out.fresh HA68_.out) HKL.out (nonL_len HNL.out long) (StepsL.lit (b := w53_.heap.size) [(.slice none 0 0, atS (c)), (.slice (some ⟨w5_.heap.size, 0, none⟩) m1 m1, intoS (zerosN m1)), (.slice (some ⟨w.heap.size, 0, none⟩) m2 m2, intoS (zerosN m2)), (.slice none 0 0, atS (d))] (by rw [← HB62_.out]; exact heap_alloc_new _ _) rfl (Nat.le_of_ble_eq_true rfl) ?_) (Nat.le_of_ble_eq_true rfl) ?_).mono ?_
      · intro q hq; simp only [List.mem_cons, List.not_mem_nil, or_false] at hq; rcases hq with rfl | rfl | rfl | rfl
        · exact SlB.nil _
        · exact HM15_.out.fresh HA67_.out
        · exact HM7_.out.fresh HA66_.out
        · exact SlB.nil _
      · intro q hq; simp only [List.mem_cons, List.not_mem_nil, or_false] at hq; rcases hq with rfl | rfl | rfl | rfl
        · exact okAt _
        · exact okInto (by rw [zerosN_len]; have := HM1.out; omega)
        · exact okInto (by rw [zerosN_len]; have := HM2.out; omega)
        · exact okAt _
      rintro e w69_ ⟨v, ps, rfl, ho, hp, hf⟩
      have HA70_ : Hid (Fresh w w69_) := Lib.hid (HA63_.out.trans hf)
      have HA71_ : Hid (Fresh w w69_) := Lib.hid (HA64_.out.trans hf)
      have HA72_ : Hid (Fresh w w69_) := Lib.hid (HA65_.out.trans hf)
      have HA73_ : Hid (Fresh w5_.drew w69_) := Lib.hid (HA66_.out.trans hf)
      have HA74_ : Hid (Fresh w13_.drew w69_) := Lib.hid (HA67_.out.trans hf)
      have HA75_ : Hid (Fresh w22_ w69_) := Lib.hid (HA68_.out.trans hf)
      have HA76_ : Hid (Fresh w69_ w69_) := Lib.hid (Keeps.refl _ _)
      obtain ⟨B1, B2, hB⟩ := HLS.out
      obtain ⟨gO, cO, rfl, hcO, hx1, hx3, hx5, hx7⟩ := ho.four (hp.trans hB)
      have HX1 := Lib.hid hx1
      have HX3 := Lib.hid hx3
      have HX5 := Lib.hid hx5
      have HX7 := Lib.hid hx7
      have HCO := Lib.hid hcO
      clear ho hp hf hx1 hx3 hx5 hx7 hB hcO
      go_wp2_with fail
      refine hK _ _ HA72_.out ?_
      clear hK K
      refine wa_quiet 20 (by kernel_rfl) rfl HA72_.out (fun K hK => ?_); go_simp; refine hK _ ?_; clear hK K
      refine wa_quiet 21 (by kernel_rfl) rfl HA72_.out (fun K hK => ?_); go_simp; refine hK _ ?_; clear hK K
      refine wa_quiet 23 (by kernel_rfl) rfl HA72_.out (fun K hK => ?_); go_simp; refine hK _ ?_; clear hK K
      refine wa_quiet 22 (by kernel_rfl) rfl HA72_.out (fun K hK => ?_); go_simp; refine hK _ ?_; clear hK K
      refine wa_quiet 24 (by kernel_rfl) rfl HA72_.out (fun K hK => ?_); go_simp; refine hK _ ?_; clear hK K
      refine wa_done (by kernel_rfl) ?_
      go_wp2_with fail
      refine HK2.out _ _ ?_
      refine ls6_c _ gO cO _ _ _ _ _ _ _ _ _ _ _ _ _ _ _ _ _ _ _ _ _ _ _ _ _ _ _ _ _ _ _ _ _ _ _ _ _ _ _ _ _ _ _ _ _ _ _ _ _ _ _ _ _ _ _ _ _ _ _ _ _ _ _ _ _ _ _ _ _ _ _ _ _ _ _ _ _ _ _ _ _ _ _ _ _ _ _ _ _ _ _ _ HCO.out (HA76_.out.cellAt HX1.out (fun x => x)) (HA76_.out.cellAt HX3.out (fun x => x)) (HA76_.out.cellAt HX5.out (fun x => x)) (HA76_.out.cellAt HX7.out (fun x => x)) ?_
      exact HH.out _ HA70_.out
end Go.Proofs.Ytaapglpnofmmlaa
