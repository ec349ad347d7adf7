/-
  Contracts: chacha20.newUnauthenticatedCipher, chacha20.NewUnauthenticatedCipher.
-/
import Derived.Test.YtlafnkcmdnfcpaaCipS
import Derived.Test.YtlafnkcmdnfcpaaXksP
import Derived.Test.YtlafnkcmdnfcpaaDerive
import Derived.Test.YtlafnkcmdnfcpaaOrd
import Derived.BigQuiet
namespace Go.Proofs.Ytlafnkcmdnfcpaa
open Go Go.RowKit
set_option linter.unusedVariables false
attribute [local irreducible] Cha.iter Cha.rounds Cha.dbl Cha.qr
theorem le_wd (b o n c k O : Nat) (l : List UInt8) (w : World) (hk : k + 4 ≤ l.length) (hO : O = o + k) (hn : (4 : Int) ≤ n) (hb : BytesAt w b o l) :
    Calls Try.prog 69 #[.agg #[], .slice (some ⟨b, O, none⟩) n c] w fun e w' => e = .returned (.int .u32 (u32 (wd l k))) ∧ Fresh w w' := by
  subst hO
  have hl : ((l.drop k).take 4).length = 4 := by rw [List.length_take, List.length_drop]; omega
  refine (le_Uint32_c b (o + k) n c ((l.drop k).take 4) w hl hn (hb.sub k 4)).mono ?_
  rintro e w' ⟨rfl, hf⟩
  refine ⟨?_, hf⟩
  have g : ∀ i, i < 4 → ((l.drop k).take 4).getD i 0 = l.getD (k + i) 0 := fun i hi => by
    simp [List.getD, hi, List.getElem?_drop]
  rw [g 0 (by decide), g 1 (by decide), g 2 (by decide), g 3 (by decide)]
  rfl
theorem setCells_block {b : Nat} {T : TypeId} : ∀ (vs : List Value) (w : World) (L : List Value) (o : Nat), w.heap[b]? = some (.cells L.toArray T (0, 0)) → o + vs.length ≤ L.length → (w.setCells b o vs).heap[b]? = some (.cells (splice L o vs).toArray T (0, 0)) := by
  intro vs
  induction vs with
  | nil => intro w L o h _; simpa [splice_nil, World.setCells] using h
  | cons v vs ih =>
    intro w L o h hk
    simp only [List.length_cons] at hk
    have h1 := block_set (i := o) (v := v) h
    rw [List.setIfInBounds_toArray] at h1
    have h2 := ih _ _ (o + 1) h1 (by rw [List.length_set]; omega)
    have e : splice (L.set o v) (o + 1) vs = splice L o (v :: vs) := by
      unfold splice
      rw [List.take_succ_eq_append_getElem (by rw [List.length_set]; omega), List.take_set_of_le (Nat.le_refl o), List.drop_set_of_lt (by omega)]
      simp [Nat.add_comm, Nat.add_left_comm]
    rw [e] at h2
    exact h2
theorem info8W : (Try.prog.info? 92).map (·.size) = some 8 := by kernel_rfl
theorem info3W : (Try.prog.info? 93).map (·.size) = some 3 := by kernel_rfl
theorem CipB.thereK {w : World} {b : Nat} {K : CK} {c : UInt32} {buf : List UInt8} {len : Nat} {ovf pre : Bool} {p : List UInt32} (h : CipB w b K c buf len ovf pre p) {o n : Nat} (ho : o + n ≤ 12) : w.there b o n := by
  intro j hj
  refine ⟨?_, h.free _⟩
  rw [h.cell]
  have hlt : o + j < (crow K c buf len ovf pre p).length := by unfold crow; simp; omega
  rw [List.getElem?_eq_getElem hlt]
  rfl
/-- the key is put in -/
def CK.key (K : CK) (k : List UInt8) : CK := ⟨wd k 0, wd k 4, wd k 8, wd k 12, wd k 16, wd k 20, wd k 24, wd k 28, K.c13, K.c14, K.c15⟩
def CK.non (K : CK) (n : List UInt8) : CK := ⟨K.c4, K.c5, K.c6, K.c7, K.c8, K.c9, K.c10, K.c11, wd n 0, wd n 4, wd n 8⟩
def CK.zero : CK := ⟨0, 0, 0, 0, 0, 0, 0, 0, 0, 0, 0⟩
theorem ck12_eq (k n : List UInt8) : (CK.zero.key k).non n = ck12 k n := rfl
def keyVs (k : List UInt8) : List Value := [.int .u32 (u32 (wd k 0)), .int .u32 (u32 (wd k 4)), .int .u32 (u32 (wd k 8)), .int .u32 (u32 (wd k 12)), .int .u32 (u32 (wd k 16)), .int .u32 (u32 (wd k 20)), .int .u32 (u32 (wd k 24)), .int .u32 (u32 (wd k 28))]
def nonVs (n : List UInt8) : List Value := [.int .u32 (u32 (wd n 0)), .int .u32 (u32 (wd n 4)), .int .u32 (u32 (wd n 8))]
theorem crow_key {K : CK} {c : UInt32} {buf : List UInt8} {len : Nat} {ovf pre : Bool} {p : List UInt32} (k : List UInt8) : splice (crow K c buf len ovf pre p) 0 (keyVs k) = crow (K.key k) c buf len ovf pre p := rfl
theorem crow_non {K : CK} {c : UInt32} {buf : List UInt8} {len : Nat} {ovf pre : Bool} {p : List UInt32} (n : List UInt8) : splice (crow K c buf len ovf pre p) 9 (nonVs n) = crow (K.non n) c buf len ovf pre p := rfl
section
variable {ops : Array Oper} {rest : List Oper} {o : Oper} {a : Act} {w : World} {Q : Exit → Act → World → Prop}
/-- s.key = .. -/
theorem wpList_putKey (hgd : o.guard = none) (x y : Operand) (ho : o.op = .store 92 x y) (k : List UInt8)
    {b : Nat} {K : CK} {c : UInt32} {buf : List UInt8} {len : Nat} {ovf pre : Bool} {p : List UInt32} (hx : a.eval x = .pointer (some ⟨b, 0, none⟩)) (hy : a.eval y = .agg (keyVs k).toArray)
    (hc : CipB w b K c buf len ovf pre p)
    (h : ∀ w', Hid (CipB w' b (K.key k) c buf len ovf pre p) → Hid (Keeps (fun q => q = b) w w') → wpList Try.prog ops Q rest (a.put o.dst undef) w') : wpList Try.prog ops Q (o :: rest) a w := by
  refine wpList_store_mid hgd 92 x y ho b 0 (keyVs k).toArray hx hy (hc.thereK (o := 0) (n := 8) (by decide)) info8W (all_oneCell_toArray (by intro v hv; simp only [keyVs, List.mem_cons, List.not_mem_nil, or_false] at hv; rcases hv with rfl | rfl | rfl | rfl | rfl | rfl | rfl | rfl <;> rfl)) ?_
  refine h _ (Lib.hid ?_) (Lib.hid (Keeps.setMany _ _ _ (Keeps.refl _ w)))
  have := setCells_block (keyVs k) w _ 0 hc (by unfold crow keyVs; simp)
  rw [crow_key] at this
  exact this
/-- s.nonce = .. -/
theorem wpList_putNon (hgd : o.guard = none) (x y : Operand) (ho : o.op = .store 93 x y) (n : List UInt8)
    {b : Nat} {K : CK} {c : UInt32} {buf : List UInt8} {len : Nat} {ovf pre : Bool} {p : List UInt32} (hx : a.eval x = .pointer (some ⟨b, 9, none⟩)) (hy : a.eval y = .agg (nonVs n).toArray)
    (hc : CipB w b K c buf len ovf pre p)
    (h : ∀ w', Hid (CipB w' b (K.non n) c buf len ovf pre p) → Hid (Keeps (fun q => q = b) w w') → wpList Try.prog ops Q rest (a.put o.dst undef) w') : wpList Try.prog ops Q (o :: rest) a w := by
  refine wpList_store_mid hgd 93 x y ho b 9 (nonVs n).toArray hx hy (hc.thereK (o := 9) (n := 3) (by decide)) info3W (all_oneCell_toArray (by intro v hv; simp only [nonVs, List.mem_cons, List.not_mem_nil, or_false] at hv; rcases hv with rfl | rfl | rfl <;> rfl)) ?_
  refine h _ (Lib.hid ?_) (Lib.hid (Keeps.setMany _ _ _ (Keeps.refl _ w)))
  have := setCells_block (nonVs n) w _ 9 hc (by unfold crow nonVs; simp)
  rw [crow_non] at this
  exact this
end
/-- a new cipher -/
def NewR (K : CK) (b : Nat) (w : World) (e : Ending) (w' : World) : Prop :=
  e = .returned (.tuple #[.pointer (some ⟨b, 0, none⟩), .nilIface]) ∧ CipB w' b K 0 (List.replicate 64 0) 0 false false (List.replicate 12 0) ∧ Keeps (fun q => q = b) w w'
/-- no cipher -/
def NewN (w : World) (e : Ending) (w' : World) : Prop := ∃ x, e = .returned (.tuple #[.pointer none, .iface 141 x]) ∧ Fresh w w'
theorem new_badkey (vb vn : Value) (a : Option Addr) (n c : Nat) (w : World) (hn : ((n : Int) != 32) = true) :
    Calls Try.prog 50 #[vb, .slice a n c, vn] w (NewN w) := by
  go_enter Try.func50, Try.ntmps50
  go_wp2_with (go_at_call 68; refine (errorsNew_c _ _).mono ?_; rintro e w' ⟨x, rfl, hf⟩)
  go_ret2
  exact ⟨_, rfl, by assumption⟩
set_option maxRecDepth 100000 in
theorem new_badnonce (vb : Value) (a a2 : Option Addr) (c n c2 : Nat) (w : World) (hn : ((n : Int) != 12) = true) (hn2 : ¬ (n : Int) = 24) :
    Calls Try.prog 50 #[vb, .slice a 32 c, .slice a2 n c2] w (NewN w) := by
  go_enter Try.func50, Try.ntmps50
  go_wp2_with (go_at_call 68; refine (errorsNew_c _ _).mono ?_; rintro e w' ⟨x, rfl, hf⟩)
  go_ret2
  exact ⟨_, rfl, by assumption⟩
noncomputable def nwBody : Code := Try.f50.body.getD .skip
noncomputable def nw11 : Code := rgt (rgt (rgt (rgt nwBody)))
set_option maxRecDepth 1000000 in
set_option maxHeartbeats 4000000 in
theorem nw12_c (R : Ending → World → Prop) (b bk ok ck bn on cn : Nat) (key nonce : List UInt8) (r3 r4 r5 r6 r7 r8 r9 r10 r11 r12 r13 r14 r15 r16 r17 r18 r19 r20 r21 r22 r23 r24 r25 r26 r27 r28 r29 r30 r31 r32 r33 r34 r35 r36 r37 r38 r39 r40 r41 r42 r43 r44 r45 r46 r47 r48 r49 r50 r51 r52 r53 r54 r55 r56 r57 r58 r59 r60 r61 r62 r63 r64 r65 r66 r67 r68 r69 r70 r71 r72 r73 r74 r75 r76 r77 r78 r79 r80 r81 r82 r83 r84 r85 r86 r87 r88 r89 r90 : Value) (w : World) (hn : nonce.length = 12) (h2 : BytesAt w bn on nonce) (hcn : (12 : Int) ≤ cn) (hbn : bn ≠ b)
    (hc : CipB w b (CK.zero.key key) 0 (List.replicate 64 0) 0 false false (List.replicate 12 0))
    (h : ∀ w', CipB w' b (ck12 key nonce) 0 (List.replicate 64 0) 0 false false (List.replicate 12 0) → Keeps (fun q => q = b) w w' → R (.returned (.tuple #[.pointer (some ⟨b, 0, none⟩), .nilIface])) w') :
    Code.wp Try.prog (rgt nw11) (bodyPost Try.prog Try.f50 R) ⟨#[.pointer (some ⟨b, 0, none⟩), .slice (some ⟨bk, ok, none⟩) 32 ck, .slice (some ⟨bn, on, none⟩) 12 cn, r3, r4, r5, r6, r7, r8, r9, r10, r11, r12, r13, r14, r15, r16, r17, r18, r19, r20, r21, r22, r23, r24, r25, r26, r27, r28, r29, r30, r31, r32, r33, r34, r35, r36, r37, r38, r39, r40, r41, r42, r43, r44, r45, r46, r47, r48, r49, r50, r51, r52, r53, r54, r55, r56, r57, r58, r59, r60, r61, r62, r63, r64, r65, r66, r67, r68, r69, r70, r71, r72, r73, r74, r75, r76, r77, r78, r79, r80, r81, r82, r83, r84, r85, r86, r87, r88, r89, r90], []⟩ w := by
  conv => arg 2; whnf
  dsimp only
  have H2 := Lib.hid h2
  have HN := Lib.hid hn
  have HC := Lib.hid hc
  have HH := Lib.hid h
  have HW := Lib.hid (Keeps.refl (fun q => q = b) w)
  clear h2 hn hc h
  have gcn0 : ¬ cn = 0 := by omega
  have fcn0 : (4 : Int) ≤ cn := by omega
  have gcn4 : ¬ cn = 4 := by omega
  have fcn4 : (8 : Int) ≤ cn := by omega
  have gcn8 : ¬ cn = 8 := by omega
  have fcn8 : (12 : Int) ≤ cn := by omega
  apply wp_seq
  refine wp_region_ord (fun _ => True) [(0, true), (1, true), (2, true), (3, true), (5, true), (6, true), (7, true), (9, true), (10, true), (11, true), (4, false), (8, false), (12, false), (13, true), (14, true), (15, true), (16, false)] (by kernel_rfl) (by kernel_rfl) trivial ?_
  iterate 10 (refine ord_quiet rfl (fun K hK => ?_); go_simp; refine hK _ ?_; clear hK K)
  have HA0 : Hid (Keeps (fun q => q = b) w w.drew) := Lib.hid (HW.out.drew)
  have HB0 : Hid (CipB w.drew b (CK.zero.key key) 0 (List.replicate 64 0) 0 false false (List.replicate 12 0)) := Lib.hid HC.out
  refine ord_loud rfl (fun K hK => ?_)
  go_wp2_with fail
  refine (le_wd bn on 4 _ 0 _ nonce _ (by rw [HN.out]; decide) rfl (by decide) (H2.out.keeps HA0.out (by omega))).mono ?_
  rintro e wa1 ⟨rfl, hf⟩
  have HA1 : Hid (Keeps (fun q => q = b) w wa1) := Lib.hid (HA0.out.trans (Fresh.to hf))
  have HB1 := Lib.hid (CipB.keeps (S := fun _ => False) HB0.out hf (fun x => x))
  clear hf
  go_wp2_with fail
  refine hK _ _ trivial ?_
  clear hK K
  refine ord_loud rfl (fun K hK => ?_)
  go_wp2_with fail
  refine (le_wd bn on 4 _ 4 _ nonce _ (by rw [HN.out]; decide) rfl (by decide) (H2.out.keeps HA1.out (by omega))).mono ?_
  rintro e wa2 ⟨rfl, hf⟩
  have HA2 : Hid (Keeps (fun q => q = b) w wa2) := Lib.hid (HA1.out.trans (Fresh.to hf))
  have HB2 := Lib.hid (CipB.keeps (S := fun _ => False) HB1.out hf (fun x => x))
  clear hf
  go_wp2_with fail
  refine hK _ _ trivial ?_
  clear hK K
  refine ord_loud rfl (fun K hK => ?_)
  go_wp2_with fail
  refine (le_wd bn on 4 _ 8 _ nonce _ (by rw [HN.out]; decide) rfl (by decide) (H2.out.keeps HA2.out (by omega))).mono ?_
  rintro e wa3 ⟨rfl, hf⟩
  have HA3 : Hid (Keeps (fun q => q = b) w wa3) := Lib.hid (HA2.out.trans (Fresh.to hf))
  have HB3 := Lib.hid (CipB.keeps (S := fun _ => False) HB2.out hf (fun x => x))
  clear hf
  go_wp2_with fail
  refine hK _ _ trivial ?_
  clear hK K
  iterate 3 (refine ord_quiet rfl (fun K hK => ?_); go_simp; refine hK _ ?_; clear hK K)
  refine ord_loud rfl (fun K hK => ?_)
  refine wpList_putNon rfl (.tmp 89) (.tmp 87) rfl nonce (b := b) rfl rfl HB3.out ?_
  intro wp HP HKP
  have HAP := Lib.hid (HA3.out.trans HKP.out)
  refine wpList_nil (hK _ _ trivial ?_)
  clear hK K
  refine ord_last ?_
  go_wp2_with fail
  exact HH.out _ HP.out HAP.out
set_option maxRecDepth 1000000 in
set_option maxHeartbeats 4000000 in
theorem nw11_c (R : Ending → World → Prop) (b bk ok ck bn on cn : Nat) (key nonce : List UInt8) (r3 r4 r5 r6 r7 r8 r9 r10 r11 r12 r13 r14 r15 r16 r17 r18 r19 r20 r21 r22 r23 r24 r25 r26 r27 r28 r29 r30 r31 r32 r33 r34 r35 r36 r37 r38 r39 r40 r41 r42 r43 r44 r45 r46 r47 r48 r49 r50 r51 r52 r53 r54 r55 r56 r57 r58 r59 r60 r61 r62 r63 r64 r65 r66 r67 r68 r69 r70 r71 r72 r73 r74 r75 r76 r77 r78 r79 r80 r81 r82 r83 r84 r85 r86 r87 r88 r89 r90 : Value) (w : World) (hk : key.length = 32) (hn : nonce.length = 12) (h1 : BytesAt w bk ok key) (h2 : BytesAt w bn on nonce) (hck : (32 : Int) ≤ ck) (hcn : (12 : Int) ≤ cn) (hbk : bk ≠ b) (hbn : bn ≠ b)
    (hc : CipB w b CK.zero 0 (List.replicate 64 0) 0 false false (List.replicate 12 0))
    (h : ∀ w', CipB w' b (ck12 key nonce) 0 (List.replicate 64 0) 0 false false (List.replicate 12 0) → Keeps (fun q => q = b) w w' → R (.returned (.tuple #[.pointer (some ⟨b, 0, none⟩), .nilIface])) w') :
    Code.wp Try.prog nw11 (bodyPost Try.prog Try.f50 R) ⟨#[.pointer (some ⟨b, 0, none⟩), .slice (some ⟨bk, ok, none⟩) 32 ck, .slice (some ⟨bn, on, none⟩) 12 cn, r3, r4, r5, r6, r7, r8, r9, r10, r11, r12, r13, r14, r15, r16, r17, r18, r19, r20, r21, r22, r23, r24, r25, r26, r27, r28, r29, r30, r31, r32, r33, r34, r35, r36, r37, r38, r39, r40, r41, r42, r43, r44, r45, r46, r47, r48, r49, r50, r51, r52, r53, r54, r55, r56, r57, r58, r59, r60, r61, r62, r63, r64, r65, r66, r67, r68, r69, r70, r71, r72, r73, r74, r75, r76, r77, r78, r79, r80, r81, r82, r83, r84, r85, r86, r87, r88, r89, r90], []⟩ w := by
  conv => arg 2; whnf
  dsimp only
  have H1 := Lib.hid h1
  have H2 := Lib.hid h2
  have HK := Lib.hid hk
  have HN := Lib.hid hn
  have HC := Lib.hid hc
  have HH := Lib.hid h
  have HW := Lib.hid (Keeps.refl (fun q => q = b) w)
  clear h1 h2 hk hn hc h
  have gck0 : ¬ ck = 0 := by omega
  have fck0 : (4 : Int) ≤ ck := by omega
  have gck4 : ¬ ck = 4 := by omega
  have fck4 : (8 : Int) ≤ ck := by omega
  have gck8 : ¬ ck = 8 := by omega
  have fck8 : (12 : Int) ≤ ck := by omega
  have gck12 : ¬ ck = 12 := by omega
  have fck12 : (16 : Int) ≤ ck := by omega
  have gck16 : ¬ ck = 16 := by omega
  have fck16 : (20 : Int) ≤ ck := by omega
  have gck20 : ¬ ck = 20 := by omega
  have fck20 : (24 : Int) ≤ ck := by omega
  have gck24 : ¬ ck = 24 := by omega
  have fck24 : (28 : Int) ≤ ck := by omega
  have gck28 : ¬ ck = 28 := by omega
  have fck28 : (32 : Int) ≤ ck := by omega
  refine wp_seq_hold (fun K1 HK1 => ?_)
  refine wp_region_ord (fun _ => True) [(0, true), (1, true), (2, true), (3, true), (5, true), (6, true), (7, true), (9, true), (10, true), (11, true), (13, true), (14, true), (15, true), (17, true), (18, true), (19, true), (21, true), (22, true), (23, true), (25, true), (26, true), (27, true), (29, true), (30, true), (31, true), (4, false), (8, false), (12, false), (16, false), (20, false), (24, false), (28, false), (32, false), (33, true), (34, true), (35, true), (36, false)] (by kernel_rfl) (by kernel_rfl) trivial ?_
  iterate 25 (refine ord_quiet rfl (fun K hK => ?_); go_simp; refine hK _ ?_; clear hK K)
  have HA0 : Hid (Keeps (fun q => q = b) w w.drew) := Lib.hid (HW.out.drew)
  have HB0 : Hid (CipB w.drew b CK.zero 0 (List.replicate 64 0) 0 false false (List.replicate 12 0)) := Lib.hid HC.out
  refine ord_loud rfl (fun K hK => ?_)
  go_wp2_with fail
  refine (le_wd bk ok 4 _ 0 _ key _ (by rw [HK.out]; decide) rfl (by decide) (H1.out.keeps HA0.out (by omega))).mono ?_
  rintro e wa1 ⟨rfl, hf⟩
  have HA1 : Hid (Keeps (fun q => q = b) w wa1) := Lib.hid (HA0.out.trans (Fresh.to hf))
  have HB1 := Lib.hid (CipB.keeps (S := fun _ => False) HB0.out hf (fun x => x))
  clear hf
  go_wp2_with fail
  refine hK _ _ trivial ?_
  clear hK K
  refine ord_loud rfl (fun K hK => ?_)
  go_wp2_with fail
  refine (le_wd bk ok 4 _ 4 _ key _ (by rw [HK.out]; decide) rfl (by decide) (H1.out.keeps HA1.out (by omega))).mono ?_
  rintro e wa2 ⟨rfl, hf⟩
  have HA2 : Hid (Keeps (fun q => q = b) w wa2) := Lib.hid (HA1.out.trans (Fresh.to hf))
  have HB2 := Lib.hid (CipB.keeps (S := fun _ => False) HB1.out hf (fun x => x))
  clear hf
  go_wp2_with fail
  refine hK _ _ trivial ?_
  clear hK K
  refine ord_loud rfl (fun K hK => ?_)
  go_wp2_with fail
  refine (le_wd bk ok 4 _ 8 _ key _ (by rw [HK.out]; decide) rfl (by decide) (H1.out.keeps HA2.out (by omega))).mono ?_
  rintro e wa3 ⟨rfl, hf⟩
  have HA3 : Hid (Keeps (fun q => q = b) w wa3) := Lib.hid (HA2.out.trans (Fresh.to hf))
  have HB3 := Lib.hid (CipB.keeps (S := fun _ => False) HB2.out hf (fun x => x))
  clear hf
  go_wp2_with fail
  refine hK _ _ trivial ?_
  clear hK K
  refine ord_loud rfl (fun K hK => ?_)
  go_wp2_with fail
  refine (le_wd bk ok 4 _ 12 _ key _ (by rw [HK.out]; decide) rfl (by decide) (H1.out.keeps HA3.out (by omega))).mono ?_
  rintro e wa4 ⟨rfl, hf⟩
  have HA4 : Hid (Keeps (fun q => q = b) w wa4) := Lib.hid (HA3.out.trans (Fresh.to hf))
  have HB4 := Lib.hid (CipB.keeps (S := fun _ => False) HB3.out hf (fun x => x))
  clear hf
  go_wp2_with fail
  refine hK _ _ trivial ?_
  clear hK K
  refine ord_loud rfl (fun K hK => ?_)
  go_wp2_with fail
  refine (le_wd bk ok 4 _ 16 _ key _ (by rw [HK.out]; decide) rfl (by decide) (H1.out.keeps HA4.out (by omega))).mono ?_
  rintro e wa5 ⟨rfl, hf⟩
  have HA5 : Hid (Keeps (fun q => q = b) w wa5) := Lib.hid (HA4.out.trans (Fresh.to hf))
  have HB5 := Lib.hid (CipB.keeps (S := fun _ => False) HB4.out hf (fun x => x))
  clear hf
  go_wp2_with fail
  refine hK _ _ trivial ?_
  clear hK K
  refine ord_loud rfl (fun K hK => ?_)
  go_wp2_with fail
  refine (le_wd bk ok 4 _ 20 _ key _ (by rw [HK.out]; decide) rfl (by decide) (H1.out.keeps HA5.out (by omega))).mono ?_
  rintro e wa6 ⟨rfl, hf⟩
  have HA6 : Hid (Keeps (fun q => q = b) w wa6) := Lib.hid (HA5.out.trans (Fresh.to hf))
  have HB6 := Lib.hid (CipB.keeps (S := fun _ => False) HB5.out hf (fun x => x))
  clear hf
  go_wp2_with fail
  refine hK _ _ trivial ?_
  clear hK K
  refine ord_loud rfl (fun K hK => ?_)
  go_wp2_with fail
  refine (le_wd bk ok 4 _ 24 _ key _ (by rw [HK.out]; decide) rfl (by decide) (H1.out.keeps HA6.out (by omega))).mono ?_
  rintro e wa7 ⟨rfl, hf⟩
  have HA7 : Hid (Keeps (fun q => q = b) w wa7) := Lib.hid (HA6.out.trans (Fresh.to hf))
  have HB7 := Lib.hid (CipB.keeps (S := fun _ => False) HB6.out hf (fun x => x))
  clear hf
  go_wp2_with fail
  refine hK _ _ trivial ?_
  clear hK K
  refine ord_loud rfl (fun K hK => ?_)
  go_wp2_with fail
  refine (le_wd bk ok 4 _ 28 _ key _ (by rw [HK.out]; decide) rfl (by decide) (H1.out.keeps HA7.out (by omega))).mono ?_
  rintro e wa8 ⟨rfl, hf⟩
  have HA8 : Hid (Keeps (fun q => q = b) w wa8) := Lib.hid (HA7.out.trans (Fresh.to hf))
  have HB8 := Lib.hid (CipB.keeps (S := fun _ => False) HB7.out hf (fun x => x))
  clear hf
  go_wp2_with fail
  refine hK _ _ trivial ?_
  clear hK K
  iterate 3 (refine ord_quiet rfl (fun K hK => ?_); go_simp; refine hK _ ?_; clear hK K)
  refine ord_loud rfl (fun K hK => ?_)
  refine wpList_putKey rfl (.tmp 73) (.tmp 71) rfl key (b := b) rfl rfl HB8.out ?_
  intro wp HP HKP
  have HAP := Lib.hid (HA8.out.trans HKP.out)
  refine wpList_nil (hK _ _ trivial ?_)
  clear hK K
  refine ord_last ?_
  dsimp only [Exit.then]
  refine HK1.out _ _ ?_
  refine nw12_c _ b bk ok ck bn on cn key nonce _ _ _ _ _ _ _ _ _ _ _ _ _ _ _ _ _ _ _ _ _ _ _ _ _ _ _ _ _ _ _ _ _ _ _ _ _ _ _ _ _ _ _ _ _ _ _ _ _ _ _ _ _ _ _ _ _ _ _ _ _ _ _ _ _ _ _ _ _ _ _ _ _ _ _ _ _ _ _ _ _ _ _ _ _ _ _ _ _ HN.out (H2.out.keeps HAP.out hbn) hcn hbn HP.out ?_
  intro w' h1 h2
  exact HH.out w' h1 (HAP.out.trans h2)
end Go.Proofs.Ytlafnkcmdnfcpaa
