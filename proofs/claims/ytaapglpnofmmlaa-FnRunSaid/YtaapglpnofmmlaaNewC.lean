/-
  Contracts: chacha20.newUnauthenticatedCipher, chacha20.NewUnauthenticatedCipher.
-/
import Derived.Test.YtaapglpnofmmlaaNewP
import Derived.Deep.QuietTactic
namespace Go.Proofs.Ytaapglpnofmmlaa
open Go Go.RowKit
set_option linter.unusedVariables false
attribute [local irreducible] Cha.iter Cha.rounds Cha.dbl Cha.qr
set_option maxRecDepth 100000 in
theorem new_12 (b bk ok ck bn on cn : Nat) (key nonce : List UInt8) (w : World) (hk : key.length = 32) (hn : nonce.length = 12) (h1 : BytesAt w bk ok key) (h2 : BytesAt w bn on nonce) (hck : (32 : Int) ≤ ck) (hcn : (12 : Int) ≤ cn) (hbk : bk ≠ b) (hbn : bn ≠ b)
    (hc : CipB w b CK.zero 0 (List.replicate 64 0) 0 false false (List.replicate 12 0)) :
    Calls Try.prog 41 #[.pointer (some ⟨b, 0, none⟩), .slice (some ⟨bk, ok, none⟩) 32 ck, .slice (some ⟨bn, on, none⟩) 12 cn] w (NewR (ckOf key nonce) b w) := by
  have H1 := Lib.hid h1
  have H2 := Lib.hid h2
  have HK := Lib.hid hk
  have HN := Lib.hid hn
  have HC := Lib.hid hc
  clear h1 h2 hk hn hc
  go_enter Try.func41, Try.ntmps41
  refine wp_seq_hold (fun K1 HK1 => ?_)
  go_wp2_with fail
  refine HK1.out _ _ ?_
  clear HK1
  refine wp_seq_hold (fun K2 HK2 => ?_)
  go_wp2_with fail
  refine HK2.out _ _ ?_
  clear HK2
  refine wp_seq_hold (fun K3 HK3 => ?_)
  go_wp2_with fail
  refine HK3.out _ _ ?_
  clear HK3
  refine wp_seq_hold (fun K4 HK4 => ?_)
  go_quiet (fail)
  refine HK4.out _ _ ?_
  refine nw11_c _ b bk ok ck bn on cn key nonce _ _ _ _ _ _ _ _ _ _ _ _ _ _ _ _ _ _ _ _ _ _ _ _ _ _ _ _ _ _ _ _ _ _ _ _ _ _ _ _ _ _ _ _ _ _ _ _ _ _ _ _ _ _ _ _ _ _ _ _ _ _ _ _ _ _ _ _ _ _ _ _ _ _ _ _ _ _ _ _ _ _ _ _ _ _ _ _ _ HK.out HN.out H1.out H2.out hck hcn hbk hbn HC.out ?_
  intro w' hcp hk
  exact ⟨rfl, by rw [ckOf_12 HN.out]; exact hcp, ((Keeps.refl _ w).drewN _).trans hk⟩
theorem make12 (w : World) : (Instr.makeSlice 22 (.int .i64 12) (.int .i64 12)).run Try.prog w = .ok (.slice (some ⟨w.heap.size, 0, none⟩) 12 12) (w.alloc (.cells (cells8 [0, 0, 0, 0, 0, 0, 0, 0, 0, 0, 0, 0]) 5)) := by kernel_rfl
theorem hashL_len (k n : List UInt8) : (hashL k n).length = 32 := by unfold hashL; rw [List.length_append, bytesL_len, bytesL_len, List.length_take, List.length_drop, rounds_len, start_len]; rfl
theorem cells8_vals (l : List UInt8) : cells8 l = (vals8 l).toArray := rfl
set_option maxHeartbeats 4000000 in
theorem new_24 (b bk ok ck bn on cn : Nat) (key nonce : List UInt8) (w : World) (hk : key.length = 32) (hn : nonce.length = 24) (h1 : BytesAt w bk ok key) (h2 : BytesAt w bn on nonce) (hck : (32 : Int) ≤ ck) (hcn : (24 : Int) ≤ cn) (hcm : cn ≤ maxLen) (hbk : bk ≠ b) (hbn : bn ≠ b)
    (hc : CipB w b CK.zero 0 (List.replicate 64 0) 0 false false (List.replicate 12 0)) :
    Calls Try.prog 41 #[.pointer (some ⟨b, 0, none⟩), .slice (some ⟨bk, ok, none⟩) 32 ck, .slice (some ⟨bn, on, none⟩) 24 cn] w (NewR (ckOf key nonce) b w) := by
  have hmk := make12
  have hltb := hc.lt
  have H1 := Lib.hid h1
  have H2 := Lib.hid h2
  have HK := Lib.hid hk
  have HN := Lib.hid hn
  have HC := Lib.hid hc
  have HCM := Lib.hid hcm
  have fcn16 : (16 : Int) ≤ cn := by omega
  have gcn16 : ¬ cn = 16 := by omega
  have HX := Lib.hid (HCC_good bk ok ck bn on cn key (nonce.take 16) w hk (by rw [List.length_take, hn]; rfl) h1 (h2.sub 0 16) hck fcn16)
  clear h1 h2 hk hn hc hcm
  go_enter Try.func41, Try.ntmps41
  refine wp_seq_hold (fun K1 HK1 => ?_)
  go_wp2_with fail
  refine HK1.out _ _ ?_
  clear HK1
  refine wp_seq_hold (fun K2 HK2 => ?_)
  go_wp2_with fail
  refine HK2.out _ _ ?_
  clear HK2
  refine wp_seq_hold (fun K3 HK3 => ?_)
  go_wp2_with fail
  refine HX.out.mono ?_
  rintro e w1 ⟨v, rfl, ho, hf⟩
  obtain ⟨g1, o1, c1, e1, k1, km1, l1, q1⟩ := ho.sl.form (by rw [hashL_len]; decide)
  have hg1 : b < g1 := by have := (ho.lt g1 (by rw [e1]; rfl)).1; omega
  rw [hashL_len] at e1 k1
  subst e1
  have hsz1 := hf.size
  have HF := Lib.hid hf
  have HQ := Lib.hid q1
  have HG := Lib.hid hg1
  have HL1 := Lib.hid l1
  have hk1 : (32 : Int) ≤ c1 := by omega
  have HSZ := Lib.hid hsz1
  clear ho hf q1 hg1 HX l1 km1 hsz1
  go_wp2_with fail
  obtain ⟨w2, hw2⟩ : ∃ w2, w2 = w1.alloc (.cells (cells8 [0, 0, 0, 0, 0, 0, 0, 0, 0, 0, 0, 0]) 5) := ⟨_, rfl⟩
  have HB2 : Hid (w2.heap[w1.heap.size]? = some (.cells (vals8 [0, 0, 0, 0, 0, 0, 0, 0, 0, 0, 0, 0]).toArray 5 (0, 0))) := Lib.hid (by rw [hw2]; exact heap_alloc_new w1 _)
  have HF2 : Hid (Fresh w1 w2) := Lib.hid (by rw [hw2]; exact (Keeps.refl _ w1).alloc _)
  rw [← hw2]
  clear hw2
  have HF3 := Lib.hid (HF.out.trans HF2.out)
  refine wp_region_tailD 4 (by kernel_rfl) (by kernel_rfl) ?_
  simp only [List.take_succ_cons, List.take_zero, List.drop_succ_cons, List.drop_zero]
  repeat (go_big_quiet_step (fail))
  refine wpQuiet_nil ?_
  rintro _ ⟨m, rfl⟩
  have hdl : (nonce.drop 16).length = 8 := by rw [List.length_drop, HN.out]
  have HDL := Lib.hid hdl
  have HS2 : Hid (SlB (w2.drewN m) (.slice (some ⟨bn, on + 16, none⟩) 8 (cn - 16)) (nonce.drop 16)) := Lib.hid (by
    have := SlB.of (w := w2.drewN m) (b := bn) (o := on + 16) (c := cn - 16) (l := nonce.drop 16) (by rw [hdl]; omega) (by have := HCM.out; omega) (fun i hi => by
      rw [hdl] at hi
      rw [Nat.add_assoc, (HF3.out.drewN m).cellAt (H2.out (16 + i) (by rw [HN.out]; omega)) (fun x => x)]
      simp [List.getD])
    rwa [hdl] at this)
  clear hdl
  go_wp2_with (refine wpList_copyB rfl (.tmp 25) (.tmp 27) 22 22 rfl 5 (by kernel_rfl) (by kernel_rfl) w1.heap.size 4 8 8 _ (nonce.drop 16) rfl rfl HS2.out (vals8 [0, 0, 0, 0, 0, 0, 0, 0, 0, 0, 0, 0]) 5 HB2.out (by rw [HDL.out, vals8_len]; decide) ?_; intro w3 HG3 HK3')
  refine HK3.out _ _ ?_
  clear HK3
  have HBN : Hid (BytesAt w3 w1.heap.size 0 ([0, 0, 0, 0] ++ nonce.drop 16)) := Lib.hid (by
    have e := HG3.out
    rw [List.take_of_length_le (by rw [HDL.out]; exact Nat.le_refl _)] at e
    have e2 : splice (vals8 [0, 0, 0, 0, 0, 0, 0, 0, 0, 0, 0, 0]) 4 (vals8 (nonce.drop 16)) = vals8 ([0, 0, 0, 0] ++ nonce.drop 16) := by
      unfold splice
      rw [vals8_len, HDL.out, vals8_append, show List.drop (4 + 8) (vals8 [0, 0, 0, 0, 0, 0, 0, 0, 0, 0, 0, 0]) = [] from rfl, List.append_nil]
      rfl
    rw [e2] at e
    intro i hi
    rw [cell_block e, List.getElem?_toArray, Nat.zero_add]
    exact vals8_get hi)
  have HF03 : Hid (Fresh w w3) := Lib.hid (Fresh.then (HF3.out.drewN m) HK3'.out (fun q hq e => by have := HSZ.out; omega))
  have HBK : Hid (BytesAt w3 g1 o1 (hashL key (nonce.take 16))) := Lib.hid (BytesAt.keeps (BytesAt.keeps HQ.out (HF2.out.drewN m) (fun x => x)) HK3'.out (by have := HL1.out; omega))
  refine wp_seq_hold (fun K4 HK4 => ?_)
  go_quiet (fail)
  refine HK4.out _ _ ?_
  refine nw11_c _ b g1 o1 c1 w1.heap.size 0 12 (hashL key (nonce.take 16)) ([0, 0, 0, 0] ++ nonce.drop 16) _ _ _ _ _ _ _ _ _ _ _ _ _ _ _ _ _ _ _ _ _ _ _ _ _ _ _ _ _ _ _ _ _ _ _ _ _ _ _ _ _ _ _ _ _ _ _ _ _ _ _ _ _ _ _ _ _ _ _ _ _ _ _ _ _ _ _ _ _ _ _ _ _ _ _ _ _ _ _ _ _ _ _ _ _ _ _ _ _ (hashL_len _ _) (by rw [List.length_append, HDL.out]; rfl) HBK.out HBN.out hk1 (by decide) (by have := HG.out; omega) (by have := HSZ.out; omega) (CipB.keeps (S := fun _ => False) HC.out (HF03.out.drewN _) (fun x => x)) ?_
  intro w' hcp hk
  exact ⟨rfl, by rw [ckOf_24 HN.out]; exact hcp, ((Fresh.to HF03.out).drewN _).trans hk⟩
/-- a new cipher, of which nothing is taken -/
def NewC (K : CK) (w : World) (e : Ending) (w' : World) : Prop := ∃ b, e = .returned (.tuple #[.pointer (some ⟨b, 0, none⟩), .nilIface]) ∧ w.heap.size ≤ b ∧ CipS K w' b 0 ∧ Fresh w w'
theorem cip_zero (w : World) : CipB (w.alloc (.cells (crow CK.zero 0 (List.replicate 64 0) 0 false false (List.replicate 12 0)).toArray TC)) w.heap.size CK.zero 0 (List.replicate 64 0) 0 false false (List.replicate 12 0) := heap_alloc_new w _
theorem CipS.new {K : CK} {w : World} {b : Nat} (h : CipB w b K 0 (List.replicate 64 0) 0 false false (List.replicate 12 0)) : CipS K w b 0 :=
  ⟨_, _, _, _, _, _, 0, h, ⟨rfl, rfl, fun e => (by cases e), by decide, rfl, by decide, rfl, rfl, fun i hi => by omega⟩⟩
theorem crow_one {K : CK} {c : UInt32} {buf : List UInt8} {len : Nat} {ovf pre : Bool} {p : List UInt32} : ∀ u ∈ crow K c buf len ovf pre p, u.oneCell' = true := by
  intro u hu
  unfold crow at hu
  simp only [List.mem_append, List.mem_cons, List.not_mem_nil, or_false, List.mem_map] at hu
  rcases hu with (rfl | rfl | rfl | rfl | rfl | rfl | rfl | rfl | rfl | rfl | rfl | rfl) | hu | (rfl | rfl | rfl) | ⟨x, -, rfl⟩
  all_goals first | rfl | exact vals8_one _ _ hu
theorem zeroTC (w : World) : (zeroValue 83).run Try.prog w = .ok (.agg (crow CK.zero 0 (List.replicate 64 0) 0 false false (List.replicate 12 0)).toArray) w := by kernel_rfl
set_option maxRecDepth 100000 in
theorem NewU_good (bk ok ck bn on cn nn : Nat) (key nonce : List UInt8) (w : World) (hk : key.length = 32) (hn : nonce.length = nn) (hnn : nn = 12 ∨ nn = 24) (h1 : BytesAt w bk ok key) (h2 : BytesAt w bn on nonce) (hck : (32 : Int) ≤ ck) (hcn : (nn : Int) ≤ cn) (hcm : cn ≤ maxLen) :
    Calls Try.prog 35 #[.slice (some ⟨bk, ok, none⟩) 32 ck, .slice (some ⟨bn, on, none⟩) nn cn] w (NewC (ckOf key nonce) w) := by
  have b1 : bk < w.heap.size := World.block_lt_of_cell? w _ (h1 0 (by omega))
  have b2 : bn < w.heap.size := World.block_lt_of_cell? w _ (h2 0 (by omega))
  have HX : Hid (∀ w', Fresh w w' → w'.heap.size = w.heap.size + 1 → CipB w' w.heap.size CK.zero 0 (List.replicate 64 0) 0 false false (List.replicate 12 0) → Calls Try.prog 41 #[.pointer (some ⟨w.heap.size, 0, none⟩), .slice (some ⟨bk, ok, none⟩) 32 ck, .slice (some ⟨bn, on, none⟩) nn cn] w' (NewR (ckOf key nonce) w.heap.size w')) := Lib.hid (fun w' hf _ hc => by
    rcases hnn with rfl | rfl
    · exact new_12 _ bk ok ck bn on cn key nonce w' hk hn (h1.keeps hf (fun x => x)) (h2.keeps hf (fun x => x)) hck hcn (by omega) (by omega) hc
    · exact new_24 _ bk ok ck bn on cn key nonce w' hk hn (h1.keeps hf (fun x => x)) (h2.keeps hf (fun x => x)) hck hcn hcm (by omega) (by omega) hc)
  clear h1 h2 hk hn hnn
  have hz := zeroTC
  have h1 := all_oneCell_toArray (crow_one (K := CK.zero) (c := 0) (buf := List.replicate 64 0) (len := 0) (ovf := false) (pre := false) (p := List.replicate 12 0))
  go_enter Try.func35, Try.ntmps35
  go_wp2_with fail
  refine (HX.out _ ((Keeps.refl _ w).alloc _) (by simp) (cip_zero w)).mono ?_
  rintro e w1 ⟨rfl, hc, hk⟩
  have HC := Lib.hid hc
  have HK := Lib.hid hk
  clear hc hk
  go_wp2_with fail
  go_ret2
  exact ⟨_, rfl, Nat.le_refl _, CipS.new HC.out, Fresh.then ((Keeps.refl _ w).alloc _) HK.out (fun q hq e => by omega)⟩
theorem NewU_bad (a1 a2 : Option Addr) (n1 c1 n2 c2 : Nat) (w : World) (h : ¬ (n1 = 32 ∧ (n2 = 12 ∨ n2 = 24))) :
    Calls Try.prog 35 #[.slice a1 n1 c1, .slice a2 n2 c2] w (NewN w) := by
  have HX : Hid (∀ vb w', Calls Try.prog 41 #[vb, .slice a1 n1 c1, .slice a2 n2 c2] w' (NewN w')) := Lib.hid (fun vb w' => by
    by_cases h1 : n1 = 32
    · subst h1
      exact new_badnonce vb a1 a2 c1 n2 c2 w' (by rw [bne_iff_ne]; omega) (by omega)
    · exact new_badkey vb _ a1 n1 c1 w' (by rw [bne_iff_ne]; omega))
  clear h
  have hz := zeroTC
  have h1 := all_oneCell_toArray (crow_one (K := CK.zero) (c := 0) (buf := List.replicate 64 0) (len := 0) (ovf := false) (pre := false) (p := List.replicate 12 0))
  go_enter Try.func35, Try.ntmps35
  go_wp2_with fail
  refine (HX.out _ _).mono ?_
  rintro e w1 ⟨x, rfl, hf⟩
  have HF := Lib.hid hf
  clear hf
  go_wp2_with fail
  go_ret2
  exact ⟨x, rfl, ((Keeps.refl _ w).alloc _).trans HF.out⟩
end Go.Proofs.Ytaapglpnofmmlaa
