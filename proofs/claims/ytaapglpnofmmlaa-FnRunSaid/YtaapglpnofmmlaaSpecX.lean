/-
  Contract: spec.Xored.
-/
import Derived.Test.YtaapglpnofmmlaaLawR
namespace Go.Proofs.Ytaapglpnofmmlaa
open Go Go.RowKit
attribute [local irreducible] Cha.iter Cha.rounds Cha.dbl Cha.qr ckOf run doA doN
theorem xs_snoc (z : Nat → UInt8) (s : List UInt8) (k : Nat) (h : k < s.length) : xs z (s.take (k + 1)) = xs z (s.take k) ++ [s.getD k 0 ^^^ z k] := by
  rw [List.take_succ_eq_append_getElem h, xs_append, List.length_take, Nat.min_eq_left (Nat.le_of_lt h)]
  congr 1
  simp [xs, h]
def XorRel (w : World) (a b : List UInt8) (v i : Value) (wr : World) : Prop :=
  ∃ k : Nat, k ≤ a.length ∧ i = .int .i64 k ∧ OwnB 5 wr w.heap.size v (xs (fun i => b.getD i 0) (a.take k)) ∧ Fresh w wr
set_option maxRecDepth 100000 in
theorem xored_c (va vb : Value) (a b : List UInt8) (w : World) (ha : SlB w va a) (hb : SlB w vb b) (hab : a.length ≤ b.length) (hl : a.length ≤ 140737488351232) :
    Calls Try.prog 22 #[va, vb] w (RetB 5 w (xs (fun i => b.getD i 0) a)) := by
  obtain ⟨pa, ca, rfl⟩ := ha.slice
  obtain ⟨pb, cb, rfl⟩ := hb.slice
  obtain ⟨n, hn⟩ : ∃ n, n = a.length := ⟨_, rfl⟩
  obtain ⟨m, hm⟩ : ∃ m, m = b.length := ⟨_, rfl⟩
  rw [← hn] at ha hab hl ⊢
  rw [← hm] at hb hab ⊢
  have HA := Lib.hid ha
  have HB := Lib.hid hb
  have HN := Lib.hid hn
  have HM := Lib.hid hm
  clear ha hb hn hm
  go_enter Try.func22, Try.ntmps22
  go_wp2_with fail
  go_loopw [5, 10] (fun v i wr => XorRel w a b v i wr) (fun _ i _ => n - (intOf i).toNat)
  case atStart => exact ⟨0, Nat.zero_le _, rfl, World.ownsRow_lit w #[] 0 (Nat.le_refl _) (by decide) rfl, (Keeps.refl _ w).alloc _⟩
  case round =>
    obtain ⟨k, hk, rfl, hown, hf⟩ := hrel
    rw [← HN.out] at hk
    have HF := Lib.hid hf
    have HO := Lib.hid hown
    have hsz := hf.size
    clear hf hown
    by_cases hlt : k < n
    · obtain ⟨ba, oa, ca', he, -, -, -, qa⟩ := HA.out.form (by rw [← HN.out]; omega)
      obtain ⟨bb, ob, cb', he2, -, -, -, qb⟩ := HB.out.form (by rw [← HM.out]; omega)
      injection he with e1 e2 e3
      injection he2 with e4 e5 e6
      subst e1 e3 e4 e6
      clear e2 e5
      have fa := qa k (by rw [← HN.out]; exact hlt)
      have fb := qb k (by rw [← HM.out]; omega)
      have FA := Lib.hid fa
      have FB := Lib.hid fb
      have hkm : (k : Int) < m := by omega
      have hkb : k < b.length := by rw [← HM.out]; omega
      have hka : k < a.length := by rw [← HN.out]; exact hlt
      have HS := Lib.hid (xs_snoc (fun i => b.getD i 0) a k (by rw [← HN.out]; exact hlt))
      obtain ⟨x, hx⟩ : ∃ x, x = a.getD k 0 := ⟨_, rfl⟩
      obtain ⟨y, hy⟩ : ∃ y, y = b.getD k 0 := ⟨_, rfl⟩
      rw [← hx] at FA HS
      rw [← hy] at FB
      have HY := Lib.hid hy
      clear qa qb fa fb hx hy
      go_wp2_with fail
      refine wp_region_ord (fun w' => Fresh w w') [(0, true), (1, true), (2, true), (3, true), (4, true), (5, true), (6, true), (7, true), (8, true), (9, true), (10, false), (11, false), (12, true)] (by kernel_rfl) (by kernel_rfl) (HF.out.drew) ?_
      iterate 4 (refine ord_quiet rfl (fun K hK => ?_); go_simp; refine hK _ ?_; clear hK K)
      refine ord_load (.int .u8 (Go.Proofs.Ytaapglpnofmmlaa.u8 x)) rfl (by rfl) (fun w' hw' => ?_) ?_
      · have hc := Keeps.cellAt hw' FA.out (fun x => x)
        go_simp
      iterate 3 (refine ord_quiet rfl (fun K hK => ?_); go_simp; refine hK _ ?_; clear hK K)
      refine ord_load (.int .u8 (Go.Proofs.Ytaapglpnofmmlaa.u8 y)) rfl (by rfl) (fun w' hw' => ?_) ?_
      · have hc := Keeps.cellAt hw' FB.out (fun x => x)
        go_simp
      refine ord_quiet rfl (fun K hK => ?_); go_simp; refine hK _ ?_; clear hK K
      refine ord_loud rfl (fun K hK => ?_)
      go_wp2_with fail
      generalize hwb : wr.alloc _ = wa
      have HFB : Hid (Fresh wr wa.drew) := Lib.hid (by rw [← hwb]; exact ((Keeps.refl _ wr).alloc _).drew)
      have HSX : Hid (SlB wa.drew (.slice (some ⟨wr.heap.size, 0, none⟩) 1 1) [x ^^^ y]) := Lib.hid (by rw [← hwb]; exact SlB.one wr (x ^^^ y) _)
      clear hwb
      generalize wa.drew = wb at HFB HSX ⊢
      refine hK _ _ (HF.out.trans HFB.out) ?_
      clear hK K
      have HO1 := Lib.hid (OwnB.kept HO.out HFB.out (fun _ _ x => x))
      have hszb := HFB.out.size
      refine ord_loud rfl (fun K hK => ?_)
      refine wpList_appB rfl (.tmp 13) (.tmp 23) rfl w.heap.size _ _ (xs (fun i => b.getD i 0) (a.take k)) [x ^^^ y] rfl rfl HO1.out HSX.out (by rw [xs_len, List.length_take, ← HN.out]; simp; omega) (by omega) ?_
      intro v1 w1 hA
      have HK1 := Lib.hid hA.2.1
      have HO2 := Lib.hid hA.1
      have HF1 : Hid (Fresh w w1) := Lib.hid (Fresh.then (HF.out.trans HFB.out) HK1.out (by intro q hq; omega))
      clear hA
      refine wpList_nil (hK _ _ HF1.out ?_)
      clear hK K
      refine ord_quiet rfl (fun K hK => ?_); go_simp; refine hK _ ?_; clear hK K
      refine ord_last ?_
      go_wp2_with fail
      go_roundw
      case rel =>
        refine ⟨k + 1, hka, by go_num, ?_, HF1.out⟩
        rw [HS.out, ← HY.out]
        exact HO2.out
      case measure => simp [intOf]; omega
    · have hkn : k = n := by omega
      go_wp2_with fail
      go_ret
      have h := HO.out
      rw [hkn, HN.out, List.take_length] at h
      exact ⟨_, rfl, h, HF.out⟩
end Go.Proofs.Ytaapglpnofmmlaa
