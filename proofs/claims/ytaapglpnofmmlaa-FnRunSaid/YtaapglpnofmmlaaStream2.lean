/-
  Contract: spec.Stream, with a nonce of 12 or of 24 bytes.
-/
import Derived.Test.YtaapglpnofmmlaaStream
import Derived.Test.YtaapglpnofmmlaaHeld
import Derived.Test.YtaapglpnofmmlaaAppS
import Derived.Deep.QuietTactic
namespace Go.Proofs.Ytaapglpnofmmlaa
open Go Go.RowKit
set_option linter.unusedVariables false
attribute [local irreducible] Cha.iter Cha.rounds Cha.dbl Cha.qr blkB CK.ks
theorem make4 (w : World) : (Instr.makeSlice 22 (.int .i64 4) (.int .i64 4)).run Try.prog w = .ok (.slice (some ⟨w.heap.size, 0, none⟩) 4 4) (w.alloc (.cells (cells8 [0, 0, 0, 0]) 5)) := by kernel_rfl
theorem own4 (w : World) (base : Nat) (hb : base ≤ w.heap.size) : OwnB 5 (w.alloc (.cells (cells8 [0, 0, 0, 0]) 5)) base (.slice (some ⟨w.heap.size, 0, none⟩) 4 4) [0, 0, 0, 0] :=
  ⟨rfl, Or.inr ⟨w.heap.size, 4, _, rfl, hb, heap_alloc_new w _, Nat.le_refl _, by decide, rfl, rfl⟩⟩
set_option maxRecDepth 100000 in
theorem stream_12 (bk ok ck : Nat) (pn : Option Addr) (cn f n : Nat) (key nonce : List UInt8) (w : World) (hk : key.length = 32) (hn : nonce.length = 12) (h1 : BytesAt w bk ok key) (h2 : SlB w (.slice pn 12 cn) nonce) (hf : f + n ≤ endK) :
    Calls Try.prog 25 #[.slice (some ⟨bk, ok, none⟩) 32 ck, .slice pn 12 cn, .int .i64 (f : Int), .int .i64 (n : Int)] w (RetB 5 w (ksL (ckOf key nonce) f n)) := by
  go_enter Try.func25, Try.ntmps25
  refine wp_seq_hold (fun K1 HK1 => ?_)
  go_wp2_with fail
  refine HK1.out _ _ ?_
  clear HK1
  refine wp_seq_hold (fun K1 HK1 => ?_)
  go_wp2_with fail
  refine HK1.out _ _ ?_
  clear HK1
  refine sm3_c _ bk ok ck pn cn f n key nonce _ _ _ _ _ _ _ _ _ _ _ _ _ _ _ _ _ _ _ _ _ _ _ _ _ _ _ _ _ _ _ _ _ _ _ _ _ _ _ _ _ _ _ _ _ _ _ _ _ _ _ _ _ _ _ w hk hn h1 h2 hf ?_
  intro v w' ho hf'
  exact ⟨v, rfl, by rw [ckOf_12 hn]; exact ho, hf'⟩
set_option maxRecDepth 100000 in
set_option maxHeartbeats 4000000 in
theorem stream_24 (bk ok ck bn on cn f n : Nat) (key nonce : List UInt8) (w : World) (hk : key.length = 32) (hn : nonce.length = 24) (h1 : BytesAt w bk ok key) (h2 : SlB w (.slice (some ⟨bn, on, none⟩) 24 cn) nonce) (hf : f + n ≤ endK) :
    Calls Try.prog 25 #[.slice (some ⟨bk, ok, none⟩) 32 ck, .slice (some ⟨bn, on, none⟩) 24 cn, .int .i64 (f : Int), .int .i64 (n : Int)] w (RetB 5 w (ksL (ckOf key nonce) f n)) := by
  have hcap := h2.cap
  have fcn : (16 : Int) ≤ cn := by omega
  have gcn : ¬ cn = 16 := by omega
  have hmk := make4
  have hb2 : BytesAt w bn on nonce := by
    obtain ⟨b', o', c', he, -, -, -, hq⟩ := h2.form (by omega)
    injection he with e1 e2 e3
    injection e1 with e1
    injection e1 with e1 e4 e5
    subst e1 e4
    exact hq
  have HSD := Lib.hid (h2.behind hn.symm (show 16 < 24 by decide))
  have HDL : Hid ((nonce.drop 16).length = 8) := Lib.hid (by rw [List.length_drop, hn])
  have HK := Lib.hid hk
  have HN := Lib.hid hn
  have H1 := Lib.hid h1
  have H2 := Lib.hid hb2
  have HFN := Lib.hid hf
  have HW0 := Lib.hid (Keeps.refl (fun _ => False) w)
  clear hk hn h1 h2 hb2 hf hcap
  go_enter Try.func25, Try.ntmps25
  refine wp_seq_hold (fun K1 HK1 => ?_)
  go_wp2_with fail
  refine HK1.out _ _ ?_
  clear HK1
  refine wp_seq_hold (fun K2 HK2 => ?_)
  go_wp2_with fail
  refine wp_region_wa (fun w' => Fresh w w') 10 rfl (by kernel_rfl) ?_
  have HA1_ : Hid (Fresh w w) := Lib.hid (Keeps.refl _ _)
  have HA2_ : Hid (Fresh w w.drew) := Lib.hid (HW0.out.drew)
  have HA3_ : Hid (Fresh w w.drew) := Lib.hid (HA1_.out.drew)
  refine wa_quiet 0 (by kernel_rfl) rfl HA3_.out (fun K hK => ?_); go_simp; refine hK _ ?_; clear hK K
  refine wa_quiet 1 (by kernel_rfl) rfl HA3_.out (fun K hK => ?_); go_simp; refine hK _ ?_; clear hK K
  refine wa_quiet 2 (by kernel_rfl) rfl HA3_.out (fun K hK => ?_); go_simp; refine hK _ ?_; clear hK K
  refine wa_quiet 5 (by kernel_rfl) rfl HA3_.out (fun K hK => ?_); go_simp; refine hK _ ?_; clear hK K
  refine wa_quiet 6 (by kernel_rfl) rfl HA3_.out (fun K hK => ?_); go_simp; refine hK _ ?_; clear hK K
  refine wa_all [3, 4] (by kernel_rfl) (by decide) (fun i hi => ?_)
  simp only [List.mem_cons, List.not_mem_nil, or_false] at hi
  rcases hi with rfl | rfl
  · refine wa_loud rfl (fun K hK => ?_)
    go_wp2_with fail
    refine (hash_c bk ok 32 ck bn on 16 cn key (nonce.take 16) _ HK.out (by rw [List.length_take, HN.out]; rfl) rfl rfl (H1.out.keeps HA2_.out (fun x => x)) ((H2.out.keeps HA2_.out (fun x => x)).sub 0 16)).mono ?_
    rintro e w4_ ⟨vH, rfl, ho, hf⟩
    obtain ⟨gH, oH, cH, e1, k1, m1, l1, q1⟩ := ho.sl.form (by rw [hashL_len]; decide)
    have hgH := (ho.lt gH (by rw [e1]; rfl)).1
    rw [hashL_len] at e1 k1
    subst e1
    have HQ := Lib.hid q1
    have hlH : gH < w4_.heap.size := l1
    have HA5_ : Hid (Fresh w w4_) := Lib.hid (HA2_.out.trans hf)
    have HA6_ : Hid (Fresh w w4_) := Lib.hid (HA3_.out.trans hf)
    have hszH := hf.size
    have HA7_ : Hid (Fresh w4_ w4_) := Lib.hid (Keeps.refl _ _)
    clear ho hf q1 l1 m1
    go_wp2_with fail
    refine hK _ _ HA6_.out ?_
    clear hK K
    refine wa_all [4] (by kernel_rfl) (by decide) (fun i hi => ?_)
    simp only [List.mem_cons, List.not_mem_nil, or_false] at hi
    subst hi
    refine wa_loud rfl (fun K hK => ?_)
    go_wp2_with fail
    generalize hw9_ : w4_.alloc _ = w8_
    have hszM : w4_.heap.size < w8_.heap.size := by rw [← hw9_]; simp
    have hszm0 : w.heap.size ≤ w4_.heap.size := HA5_.out.size
    have HOM : Hid (OwnB 5 w8_ w.heap.size (.slice (some ⟨w4_.heap.size, 0, none⟩) 4 4) [0, 0, 0, 0]) := Lib.hid (by rw [← hw9_]; exact own4 w4_ _ hszm0)
    have HA10_ : Hid (Fresh w w8_) := Lib.hid ((by rw [← hw9_]; exact (HA5_.out.alloc _)))
    have HA11_ : Hid (Fresh w w8_) := Lib.hid ((by rw [← hw9_]; exact (HA6_.out.alloc _)))
    have HA12_ : Hid (Fresh w4_ w8_) := Lib.hid ((by rw [← hw9_]; exact (HA7_.out.alloc _)))
    have HA13_ : Hid (Fresh w8_ w8_) := Lib.hid (Keeps.refl _ _)
    clear hw9_
    refine hK _ _ HA11_.out ?_
    clear hK K
    refine wa_all [7] (by kernel_rfl) (by decide) (fun i hi => ?_)
    simp only [List.mem_cons, List.not_mem_nil, or_false] at hi
    subst hi
    refine wa_loud rfl (fun K hK => ?_)
    refine wpList_appS rfl (.tmp 20) (.tmp 22) rfl w.heap.size _ _ [0, 0, 0, 0] (nonce.drop 16) rfl rfl (HOM.out.kept HA13_.out (fun _ _ x => x)) (HSD.out.fresh HA10_.out) (by rw [HDL.out]; decide) HA10_.out.size ?_
    intro v9 w9 HA1 HA2
    have HF9 : Hid (Fresh w w9) := Lib.hid (Fresh.then HA10_.out HA2.out (fun q hq e => by have e2 : w4_.heap.size = q := Option.some.inj e; omega))
    have HQ9 : Hid (BytesAt w9 gH oH (hashL key (nonce.take 16))) := Lib.hid (BytesAt.keeps (BytesAt.keeps HQ.out HA12_.out (fun x => x)) HA2.out (fun e => by have e2 : w4_.heap.size = gH := Option.some.inj e; omega))
    have hl12 : ([0, 0, 0, 0] ++ nonce.drop 16).length = 12 := by rw [List.length_append, HDL.out]; rfl
    obtain ⟨pv, cv, hv⟩ := HA1.out.slice
    rw [hl12] at hv
    subst hv
    have HS9 := Lib.hid HA1.out.sl
    refine wpList_nil (hK _ _ HF9.out ?_)
    clear hK K
    refine wa_quiet 8 (by kernel_rfl) rfl HF9.out (fun K hK => ?_); go_simp; refine hK _ ?_; clear hK K
    refine wa_quiet 9 (by kernel_rfl) rfl HF9.out (fun K hK => ?_); go_simp; refine hK _ ?_; clear hK K
    refine wa_done (by kernel_rfl) ?_
    go_wp2_with fail
    refine HK2.out _ _ ?_
    refine sm3_c _ gH oH cH pv cv f n (hashL key (nonce.take 16)) ([0, 0, 0, 0] ++ nonce.drop 16) _ _ _ _ _ _ _ _ _ _ _ _ _ _ _ _ _ _ _ _ _ _ _ _ _ _ _ _ _ _ _ _ _ _ _ _ _ _ _ _ _ _ _ _ _ _ _ _ _ _ _ _ _ _ _ _ (hashL_len _ _) hl12 HQ9.out HS9.out HFN.out ?_
    intro v w' ho hf'
    exact ⟨v, rfl, by rw [ckOf_24 HN.out]; exact ho.mono HF9.out.size, HF9.out.trans hf'⟩
  · refine wa_loud rfl (fun K hK => ?_)
    go_wp2_with fail
    generalize hw5_ : w.alloc _ = w4_
    have hdr : w4_.drew.heap.size = w4_.heap.size := rfl
    have hszM : w.heap.size < w4_.heap.size := by rw [← hw5_]; simp
    have hszm0 : w.heap.size ≤ w.heap.size := HA2_.out.size
    have HOM : Hid (OwnB 5 w4_.drew w.heap.size (.slice (some ⟨w.heap.size, 0, none⟩) 4 4) [0, 0, 0, 0]) := Lib.hid (by rw [← hw5_]; exact own4 w _ hszm0)
    have HA6_ : Hid (Fresh w w4_.drew) := Lib.hid ((by rw [← hw5_]; exact (HA2_.out.alloc _)))
    have HA7_ : Hid (Fresh w w4_.drew) := Lib.hid ((by rw [← hw5_]; exact (HA3_.out.alloc _)))
    have HA8_ : Hid (Fresh w4_.drew w4_.drew) := Lib.hid (Keeps.refl _ _)
    clear hw5_
    refine hK _ _ HA7_.out ?_
    clear hK K
    refine wa_all [3] (by kernel_rfl) (by decide) (fun i hi => ?_)
    simp only [List.mem_cons, List.not_mem_nil, or_false] at hi
    subst hi
    refine wa_loud rfl (fun K hK => ?_)
    go_wp2_with fail
    refine (hash_c bk ok 32 ck bn on 16 cn key (nonce.take 16) _ HK.out (by rw [List.length_take, HN.out]; rfl) rfl rfl (H1.out.keeps HA6_.out (fun x => x)) ((H2.out.keeps HA6_.out (fun x => x)).sub 0 16)).mono ?_
    rintro e w9_ ⟨vH, rfl, ho, hf⟩
    obtain ⟨gH, oH, cH, e1, k1, m1, l1, q1⟩ := ho.sl.form (by rw [hashL_len]; decide)
    have hgH := (ho.lt gH (by rw [e1]; rfl)).1
    rw [hashL_len] at e1 k1
    subst e1
    have HQ := Lib.hid q1
    have hlH : gH < w9_.heap.size := l1
    have HA10_ : Hid (Fresh w w9_) := Lib.hid (HA6_.out.trans hf)
    have HA11_ : Hid (Fresh w w9_) := Lib.hid (HA7_.out.trans hf)
    have HA12_ : Hid (Fresh w4_.drew w9_) := Lib.hid (HA8_.out.trans hf)
    have hszH := hf.size
    have HA13_ : Hid (Fresh w9_ w9_) := Lib.hid (Keeps.refl _ _)
    clear ho hf q1 l1 m1
    go_wp2_with fail
    refine hK _ _ HA11_.out ?_
    clear hK K
    refine wa_all [7] (by kernel_rfl) (by decide) (fun i hi => ?_)
    simp only [List.mem_cons, List.not_mem_nil, or_false] at hi
    subst hi
    refine wa_loud rfl (fun K hK => ?_)
    refine wpList_appS rfl (.tmp 20) (.tmp 22) rfl w.heap.size _ _ [0, 0, 0, 0] (nonce.drop 16) rfl rfl (HOM.out.kept HA12_.out (fun _ _ x => x)) (HSD.out.fresh HA10_.out) (by rw [HDL.out]; decide) HA10_.out.size ?_
    intro v9 w9 HA1 HA2
    have HF9 : Hid (Fresh w w9) := Lib.hid (Fresh.then HA10_.out HA2.out (fun q hq e => by have e2 : w.heap.size = q := Option.some.inj e; omega))
    have HQ9 : Hid (BytesAt w9 gH oH (hashL key (nonce.take 16))) := Lib.hid (BytesAt.keeps (BytesAt.keeps HQ.out HA13_.out (fun x => x)) HA2.out (fun e => by have e2 : w.heap.size = gH := Option.some.inj e; omega))
    have hl12 : ([0, 0, 0, 0] ++ nonce.drop 16).length = 12 := by rw [List.length_append, HDL.out]; rfl
    obtain ⟨pv, cv, hv⟩ := HA1.out.slice
    rw [hl12] at hv
    subst hv
    have HS9 := Lib.hid HA1.out.sl
    refine wpList_nil (hK _ _ HF9.out ?_)
    clear hK K
    refine wa_quiet 8 (by kernel_rfl) rfl HF9.out (fun K hK => ?_); go_simp; refine hK _ ?_; clear hK K
    refine wa_quiet 9 (by kernel_rfl) rfl HF9.out (fun K hK => ?_); go_simp; refine hK _ ?_; clear hK K
    refine wa_done (by kernel_rfl) ?_
    go_wp2_with fail
    refine HK2.out _ _ ?_
    refine sm3_c _ gH oH cH pv cv f n (hashL key (nonce.take 16)) ([0, 0, 0, 0] ++ nonce.drop 16) _ _ _ _ _ _ _ _ _ _ _ _ _ _ _ _ _ _ _ _ _ _ _ _ _ _ _ _ _ _ _ _ _ _ _ _ _ _ _ _ _ _ _ _ _ _ _ _ _ _ _ _ _ _ _ _ (hashL_len _ _) hl12 HQ9.out HS9.out HFN.out ?_
    intro v w' ho hf'
    exact ⟨v, rfl, by rw [ckOf_24 HN.out]; exact ho.mono HF9.out.size, HF9.out.trans hf'⟩
end Go.Proofs.Ytaapglpnofmmlaa
