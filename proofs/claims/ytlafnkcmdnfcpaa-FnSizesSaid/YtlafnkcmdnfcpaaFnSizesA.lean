/-
  What the proof of laws.FnSizes rests on (many texts in one): NewC, Run, Init, TagN, MacM, Tag, FnSizes, ArgAll.
-/
import Derived.Test.YtlafnkcmdnfcpaaNewP
import Derived.Deep.QuietTactic
import Derived.Test.YtlafnkcmdnfcpaaDo
import Derived.Test.YtlafnkcmdnfcpaaMulW
import Derived.Test.YtlafnkcmdnfcpaaLe64
import Derived.Test.YtlafnkcmdnfcpaaOrd
import Derived.Test.YtlafnkcmdnfcpaaFin
import Derived.Test.YtlafnkcmdnfcpaaMacSt
import Derived.Test.YtlafnkcmdnfcpaaGWrite
import Derived.Test.YtlafnkcmdnfcpaaApp
import Derived.ArgAppend
import Derived.Laws.Rows
import Derived.Laws.Tables
import Derived.Test.YtlafnkcmdnfcpaaStr
import Derived.ProofKit
import Derived.OpenShut
import Derived.ChangeOld
import Derived.Below
import Derived.SizedLaws
namespace Go.Proofs.Ytlafnkcmdnfcpaa
section
open Go Go.RowKit
set_option linter.unusedVariables false
attribute [local irreducible] Cha.iter Cha.rounds Cha.dbl Cha.qr
set_option maxRecDepth 100000 in
theorem new_12 (b bk ok ck bn on cn : Nat) (key nonce : List UInt8) (w : World) (hk : key.length = 32) (hn : nonce.length = 12) (h1 : BytesAt w bk ok key) (h2 : BytesAt w bn on nonce) (hck : (32 : Int) ≤ ck) (hcn : (12 : Int) ≤ cn) (hbk : bk ≠ b) (hbn : bn ≠ b)
    (hc : CipB w b CK.zero 0 (List.replicate 64 0) 0 false false (List.replicate 12 0)) :
    Calls Try.prog 50 #[.pointer (some ⟨b, 0, none⟩), .slice (some ⟨bk, ok, none⟩) 32 ck, .slice (some ⟨bn, on, none⟩) 12 cn] w (NewR (ckOf key nonce) b w) := by
  have H1 := Lib.hid h1
  have H2 := Lib.hid h2
  have HK := Lib.hid hk
  have HN := Lib.hid hn
  have HC := Lib.hid hc
  clear h1 h2 hk hn hc
  go_enter Try.func50, Try.ntmps50
  refine wp_seq_hold (fun K1 HK1 => ?_)
  go_wp2_with fail
  refine HK1.out _ _ ?_
  clear HK1
  refine wp_seq_hold (fun K2 HK2 => ?_)
  go_wp2_with fail
  refine HK2.out _ _ ?_
  clear HK2
  refine wp_seq_hold (fun K3 HK3 => ?_)
  go_wp2_with fail
  refine HK3.out _ _ ?_
  clear HK3
  refine wp_seq_hold (fun K4 HK4 => ?_)
  go_quiet (fail)
  refine HK4.out _ _ ?_
  refine nw11_c _ b bk ok ck bn on cn key nonce _ _ _ _ _ _ _ _ _ _ _ _ _ _ _ _ _ _ _ _ _ _ _ _ _ _ _ _ _ _ _ _ _ _ _ _ _ _ _ _ _ _ _ _ _ _ _ _ _ _ _ _ _ _ _ _ _ _ _ _ _ _ _ _ _ _ _ _ _ _ _ _ _ _ _ _ _ _ _ _ _ _ _ _ _ _ _ _ _ HK.out HN.out H1.out H2.out hck hcn hbk hbn HC.out ?_
  intro w' hcp hk
  exact ⟨rfl, by rw [ckOf_12 HN.out]; exact hcp, ((Keeps.refl _ w).drewN _).trans hk⟩
theorem make12 (w : World) : (Instr.makeSlice 24 (.int .i64 12) (.int .i64 12)).run Try.prog w = .ok (.slice (some ⟨w.heap.size, 0, none⟩) 12 12) (w.alloc (.cells (cells8 [0, 0, 0, 0, 0, 0, 0, 0, 0, 0, 0, 0]) 5)) := by kernel_rfl
theorem hashL_len (k n : List UInt8) : (hashL k n).length = 32 := by unfold hashL; rw [List.length_append, bytesL_len, bytesL_len, List.length_take, List.length_drop, rounds_len, start_len]; rfl
theorem cells8_vals (l : List UInt8) : cells8 l = (vals8 l).toArray := rfl
set_option maxHeartbeats 4000000 in
theorem new_24 (b bk ok ck bn on cn : Nat) (key nonce : List UInt8) (w : World) (hk : key.length = 32) (hn : nonce.length = 24) (h1 : BytesAt w bk ok key) (h2 : BytesAt w bn on nonce) (hck : (32 : Int) ≤ ck) (hcn : (24 : Int) ≤ cn) (hcm : cn ≤ maxLen) (hbk : bk ≠ b) (hbn : bn ≠ b)
    (hc : CipB w b CK.zero 0 (List.replicate 64 0) 0 false false (List.replicate 12 0)) :
    Calls Try.prog 50 #[.pointer (some ⟨b, 0, none⟩), .slice (some ⟨bk, ok, none⟩) 32 ck, .slice (some ⟨bn, on, none⟩) 24 cn] w (NewR (ckOf key nonce) b w) := by
  have hmk := make12
  have hltb := hc.lt
  have H1 := Lib.hid h1
  have H2 := Lib.hid h2
  have HK := Lib.hid hk
  have HN := Lib.hid hn
  have HC := Lib.hid hc
  have HCM := Lib.hid hcm
  have fcn16 : (16 : Int) ≤ cn := by omega
  have gcn16 : ¬ cn = 16 := by omega
  have HX := Lib.hid (HCC_good bk ok ck bn on cn key (nonce.take 16) w hk (by rw [List.length_take, hn]; rfl) h1 (h2.sub 0 16) hck fcn16)
  clear h1 h2 hk hn hc hcm
  go_enter Try.func50, Try.ntmps50
  refine wp_seq_hold (fun K1 HK1 => ?_)
  go_wp2_with fail
  refine HK1.out _ _ ?_
  clear HK1
  refine wp_seq_hold (fun K2 HK2 => ?_)
  go_wp2_with fail
  refine HK2.out _ _ ?_
  clear HK2
  refine wp_seq_hold (fun K3 HK3 => ?_)
  go_wp2_with fail
  refine HX.out.mono ?_
  rintro e w1 ⟨v, rfl, ho, hf⟩
  obtain ⟨g1, o1, c1, e1, k1, km1, l1, q1⟩ := ho.sl.form (by rw [hashL_len]; decide)
  have hg1 : b < g1 := by have := (ho.lt g1 (by rw [e1]; rfl)).1; omega
  rw [hashL_len] at e1 k1
  subst e1
  have hsz1 := hf.size
  have HF := Lib.hid hf
  have HQ := Lib.hid q1
  have HG := Lib.hid hg1
  have HL1 := Lib.hid l1
  have hk1 : (32 : Int) ≤ c1 := by omega
  have HSZ := Lib.hid hsz1
  clear ho hf q1 hg1 HX l1 km1 hsz1
  go_wp2_with fail
  obtain ⟨w2, hw2⟩ : ∃ w2, w2 = w1.alloc (.cells (cells8 [0, 0, 0, 0, 0, 0, 0, 0, 0, 0, 0, 0]) 5) := ⟨_, rfl⟩
  have HB2 : Hid (w2.heap[w1.heap.size]? = some (.cells (vals8 [0, 0, 0, 0, 0, 0, 0, 0, 0, 0, 0, 0]).toArray 5 (0, 0))) := Lib.hid (by rw [hw2]; exact heap_alloc_new w1 _)
  have HF2 : Hid (Fresh w1 w2) := Lib.hid (by rw [hw2]; exact (Keeps.refl _ w1).alloc _)
  rw [← hw2]
  clear hw2
  have HF3 := Lib.hid (HF.out.trans HF2.out)
  refine wp_region_tailD 4 (by kernel_rfl) (by kernel_rfl) ?_
  simp only [List.take_succ_cons, List.take_zero, List.drop_succ_cons, List.drop_zero]
  repeat (go_big_quiet_step (fail))
  refine wpQuiet_nil ?_
  rintro _ ⟨m, rfl⟩
  have hdl : (nonce.drop 16).length = 8 := by rw [List.length_drop, HN.out]
  have HDL := Lib.hid hdl
  have HS2 : Hid (SlB (w2.drewN m) (.slice (some ⟨bn, on + 16, none⟩) 8 (cn - 16)) (nonce.drop 16)) := Lib.hid (by
    have := SlB.of (w := w2.drewN m) (b := bn) (o := on + 16) (c := cn - 16) (l := nonce.drop 16) (by rw [hdl]; omega) (by have := HCM.out; omega) (fun i hi => by
      rw [hdl] at hi
      rw [Nat.add_assoc, (HF3.out.drewN m).cellAt (H2.out (16 + i) (by rw [HN.out]; omega)) (fun x => x)]
      simp [List.getD])
    rwa [hdl] at this)
  clear hdl
  go_wp2_with (refine wpList_copyB rfl (.tmp 25) (.tmp 27) 24 24 rfl 5 (by kernel_rfl) (by kernel_rfl) w1.heap.size 4 8 8 _ (nonce.drop 16) rfl rfl HS2.out (vals8 [0, 0, 0, 0, 0, 0, 0, 0, 0, 0, 0, 0]) 5 HB2.out (by rw [HDL.out, vals8_len]; decide) ?_; intro w3 HG3 HK3')
  refine HK3.out _ _ ?_
  clear HK3
  have HBN : Hid (BytesAt w3 w1.heap.size 0 ([0, 0, 0, 0] ++ nonce.drop 16)) := Lib.hid (by
    have e := HG3.out
    rw [List.take_of_length_le (by rw [HDL.out]; exact Nat.le_refl _)] at e
    have e2 : splice (vals8 [0, 0, 0, 0, 0, 0, 0, 0, 0, 0, 0, 0]) 4 (vals8 (nonce.drop 16)) = vals8 ([0, 0, 0, 0] ++ nonce.drop 16) := by
      unfold splice
      rw [vals8_len, HDL.out, vals8_append, show List.drop (4 + 8) (vals8 [0, 0, 0, 0, 0, 0, 0, 0, 0, 0, 0, 0]) = [] from rfl, List.append_nil]
      rfl
    rw [e2] at e
    intro i hi
    rw [cell_block e, List.getElem?_toArray, Nat.zero_add]
    exact vals8_get hi)
  have HF03 : Hid (Fresh w w3) := Lib.hid (Fresh.then (HF3.out.drewN m) HK3'.out (fun q hq e => by have := HSZ.out; omega))
  have HBK : Hid (BytesAt w3 g1 o1 (hashL key (nonce.take 16))) := Lib.hid (BytesAt.keeps (BytesAt.keeps HQ.out (HF2.out.drewN m) (fun x => x)) HK3'.out (by have := HL1.out; omega))
  refine wp_seq_hold (fun K4 HK4 => ?_)
  go_quiet (fail)
  refine HK4.out _ _ ?_
  refine nw11_c _ b g1 o1 c1 w1.heap.size 0 12 (hashL key (nonce.take 16)) ([0, 0, 0, 0] ++ nonce.drop 16) _ _ _ _ _ _ _ _ _ _ _ _ _ _ _ _ _ _ _ _ _ _ _ _ _ _ _ _ _ _ _ _ _ _ _ _ _ _ _ _ _ _ _ _ _ _ _ _ _ _ _ _ _ _ _ _ _ _ _ _ _ _ _ _ _ _ _ _ _ _ _ _ _ _ _ _ _ _ _ _ _ _ _ _ _ _ _ _ _ (hashL_len _ _) (by rw [List.length_append, HDL.out]; rfl) HBK.out HBN.out hk1 (by decide) (by have := HG.out; omega) (by have := HSZ.out; omega) (CipB.keeps (S := fun _ => False) HC.out (HF03.out.drewN _) (fun x => x)) ?_
  intro w' hcp hk
  exact ⟨rfl, by rw [ckOf_24 HN.out]; exact hcp, ((Fresh.to HF03.out).drewN _).trans hk⟩
/-- a new cipher, of which nothing is taken -/
def NewC (K : CK) (w : World) (e : Ending) (w' : World) : Prop := ∃ b, e = .returned (.tuple #[.pointer (some ⟨b, 0, none⟩), .nilIface]) ∧ w.heap.size ≤ b ∧ CipS K w' b 0 ∧ Fresh w w'
theorem cip_zero (w : World) : CipB (w.alloc (.cells (crow CK.zero 0 (List.replicate 64 0) 0 false false (List.replicate 12 0)).toArray TC)) w.heap.size CK.zero 0 (List.replicate 64 0) 0 false false (List.replicate 12 0) := heap_alloc_new w _
theorem CipS.new {K : CK} {w : World} {b : Nat} (h : CipB w b K 0 (List.replicate 64 0) 0 false false (List.replicate 12 0)) : CipS K w b 0 :=
  ⟨_, _, _, _, _, _, 0, h, ⟨rfl, rfl, fun e => (by cases e), by decide, rfl, by decide, rfl, rfl, fun i hi => by omega⟩⟩
theorem crow_one {K : CK} {c : UInt32} {buf : List UInt8} {len : Nat} {ovf pre : Bool} {p : List UInt32} : ∀ u ∈ crow K c buf len ovf pre p, u.oneCell' = true := by
  intro u hu
  unfold crow at hu
  simp only [List.mem_append, List.mem_cons, List.not_mem_nil, or_false, List.mem_map] at hu
  rcases hu with (rfl | rfl | rfl | rfl | rfl | rfl | rfl | rfl | rfl | rfl | rfl | rfl) | hu | (rfl | rfl | rfl) | ⟨x, -, rfl⟩
  all_goals first | rfl | exact vals8_one _ _ hu
theorem zeroTC (w : World) : (zeroValue 96).run Try.prog w = .ok (.agg (crow CK.zero 0 (List.replicate 64 0) 0 false false (List.replicate 12 0)).toArray) w := by kernel_rfl
set_option maxRecDepth 100000 in
theorem NewU_good (bk ok ck bn on cn nn : Nat) (key nonce : List UInt8) (w : World) (hk : key.length = 32) (hn : nonce.length = nn) (hnn : nn = 12 ∨ nn = 24) (h1 : BytesAt w bk ok key) (h2 : BytesAt w bn on nonce) (hck : (32 : Int) ≤ ck) (hcn : (nn : Int) ≤ cn) (hcm : cn ≤ maxLen) :
    Calls Try.prog 32 #[.slice (some ⟨bk, ok, none⟩) 32 ck, .slice (some ⟨bn, on, none⟩) nn cn] w (NewC (ckOf key nonce) w) := by
  have b1 : bk < w.heap.size := World.block_lt_of_cell? w _ (h1 0 (by omega))
  have b2 : bn < w.heap.size := World.block_lt_of_cell? w _ (h2 0 (by omega))
  have HX : Hid (∀ w', Fresh w w' → w'.heap.size = w.heap.size + 1 → CipB w' w.heap.size CK.zero 0 (List.replicate 64 0) 0 false false (List.replicate 12 0) → Calls Try.prog 50 #[.pointer (some ⟨w.heap.size, 0, none⟩), .slice (some ⟨bk, ok, none⟩) 32 ck, .slice (some ⟨bn, on, none⟩) nn cn] w' (NewR (ckOf key nonce) w.heap.size w')) := Lib.hid (fun w' hf _ hc => by
    rcases hnn with rfl | rfl
    · exact new_12 _ bk ok ck bn on cn key nonce w' hk hn (h1.keeps hf (fun x => x)) (h2.keeps hf (fun x => x)) hck hcn (by omega) (by omega) hc
    · exact new_24 _ bk ok ck bn on cn key nonce w' hk hn (h1.keeps hf (fun x => x)) (h2.keeps hf (fun x => x)) hck hcn hcm (by omega) (by omega) hc)
  clear h1 h2 hk hn hnn
  have hz := zeroTC
  have h1 := all_oneCell_toArray (crow_one (K := CK.zero) (c := 0) (buf := List.replicate 64 0) (len := 0) (ovf := false) (pre := false) (p := List.replicate 12 0))
  go_enter Try.func32, Try.ntmps32
  go_wp2_with fail
  refine (HX.out _ ((Keeps.refl _ w).alloc _) (by simp) (cip_zero w)).mono ?_
  rintro e w1 ⟨rfl, hc, hk⟩
  have HC := Lib.hid hc
  have HK := Lib.hid hk
  clear hc hk
  go_wp2_with fail
  go_ret2
  exact ⟨_, rfl, Nat.le_refl _, CipS.new HC.out, Fresh.then ((Keeps.refl _ w).alloc _) HK.out (fun q hq e => by omega)⟩
theorem NewU_bad (a1 a2 : Option Addr) (n1 c1 n2 c2 : Nat) (w : World) (h : ¬ (n1 = 32 ∧ (n2 = 12 ∨ n2 = 24))) :
    Calls Try.prog 32 #[.slice a1 n1 c1, .slice a2 n2 c2] w (NewN w) := by
  have HX : Hid (∀ vb w', Calls Try.prog 50 #[vb, .slice a1 n1 c1, .slice a2 n2 c2] w' (NewN w')) := Lib.hid (fun vb w' => by
    by_cases h1 : n1 = 32
    · subst h1
      exact new_badnonce vb a1 a2 c1 n2 c2 w' (by rw [bne_iff_ne]; omega) (by omega)
    · exact new_badkey vb _ a1 n1 c1 w' (by rw [bne_iff_ne]; omega))
  clear h
  have hz := zeroTC
  have h1 := all_oneCell_toArray (crow_one (K := CK.zero) (c := 0) (buf := List.replicate 64 0) (len := 0) (ovf := false) (pre := false) (p := List.replicate 12 0))
  go_enter Try.func32, Try.ntmps32
  go_wp2_with fail
  refine (HX.out _ _).mono ?_
  rintro e w1 ⟨x, rfl, hf⟩
  have HF := Lib.hid hf
  clear hf
  go_wp2_with fail
  go_ret2
  exact ⟨x, rfl, ((Keeps.refl _ w).alloc _).trans HF.out⟩
end
section
open Go Go.RowKit
attribute [local irreducible] Cha.iter Cha.rounds Cha.dbl Cha.qr ckOf run doA doN
/-- what a run returns -/
def RunR (K : CK) (ss : List St) (w : World) (e : Ending) (w' : World) : Prop :=
  ∃ v ps, e = .returned (.tuple #[v, .bool true]) ∧ OutsOwn w' w.heap.size v ps ∧ ps.map (·.2) = run K 0 ss ∧ Fresh w w'
/-- no cipher: nothing -/
def RunN (w : World) (e : Ending) (w' : World) : Prop := e = .returned (.tuple #[.slice none 0 0, .bool false]) ∧ Fresh w w'
/-- what its loop keeps -/
def RunRel (K : CK) (qs : List (Value × St)) (w : World) (b base : Nat) (va i : Value) (wr : World) : Prop :=
  ∃ (k : Nat) (ps : List (Value × Ou)) (a : Nat), k ≤ qs.length ∧ i = .int .i64 k ∧ ps.length = k ∧ OutsOwn wr base va ps ∧ CipS K wr b a ∧ Fresh w wr ∧ base ≤ wr.heap.size ∧
    ps.map (·.2) ++ run K a ((qs.drop k).map (·.2)) = run K 0 (qs.map (·.2))
theorem drop_map_consS {qs : List (Value × St)} {k : Nat} {q : Value × St} (h : qs[k]? = some q) : (qs.drop k).map (·.2) = q.2 :: (qs.drop (k + 1)).map (·.2) := by
  obtain ⟨hk, rfl⟩ := List.getElem?_eq_some_iff.1 h
  rw [List.drop_eq_getElem_cons hk, List.map_cons]
theorem Run_bad (v1 v2 v3 : Value) (l1 l2 : List UInt8) (w : World) (h1 : SlB w v1 l1) (h2 : SlB w v2 l2) (b1 : l1.length ≤ 140737488353280) (b2 : l2.length ≤ 140737488353280) (h : ¬ (l1.length = 32 ∧ (l2.length = 12 ∨ l2.length = 24))) :
    Calls Try.prog 17 #[v1, v2, v3] w (RunN w) := by
  have H1 := Lib.hid h1
  have H2 := Lib.hid h2
  have HH := Lib.hid h
  clear h1 h2 h
  go_enter Try.func17, Try.ntmps17
  go_wp2_with fail
  refine (copied_c v1 l1 _ H1.out b1).mono ?_
  rintro e w1 ⟨u1, rfl, ho1, hf1⟩
  have HF1 := Lib.hid hf1
  obtain ⟨a1, c1, rfl⟩ := ho1.slice
  clear hf1 ho1
  go_wp2_with fail
  refine (copied_c v2 l2 _ (H2.out.fresh HF1.out) b2).mono ?_
  rintro e w2 ⟨u2, rfl, ho2, hf2⟩
  have HF2 := Lib.hid hf2
  obtain ⟨a2, c2, rfl⟩ := ho2.slice
  clear hf2 ho2
  go_wp2_with fail
  refine (NewU_bad a1 a2 l1.length c1 l2.length c2 _ HH.out).mono ?_
  rintro e w3 ⟨x, rfl, hf3⟩
  have HF3 := Lib.hid hf3
  clear hf3
  go_wp2
  go_ret2
  exact ⟨rfl, (HF1.out.trans HF2.out).trans HF3.out⟩
set_option maxRecDepth 100000 in
set_option maxHeartbeats 2000000 in
theorem Run_good (v1 v2 vc : Value) (key nonce : List UInt8) (qs : List (Value × St)) (w : World) (h1 : SlB w v1 key) (h2 : SlB w v2 nonce) (hk : key.length = 32) (hn : nonce.length = 12 ∨ nonce.length = 24)
    (hc : StepsL w vc qs) (hq : qs.length ≤ 4398046511104) (hb : ∀ q ∈ qs, q.2.src.length ≤ 140737488353280 ∧ -128 ≤ q.2.room ∧ q.2.room ≤ 127) :
    Calls Try.prog 17 #[v1, v2, vc] w (RunR (ckOf key nonce) (qs.map (·.2)) w) := by
  obtain ⟨pa, ca, rfl⟩ := hc.shape
  obtain ⟨K, hK⟩ : ∃ K, K = ckOf key nonce := ⟨_, rfl⟩
  obtain ⟨nn, hnn⟩ : ∃ nn, nn = nonce.length := ⟨_, rfl⟩
  rw [← hnn] at hn
  rw [← hK]
  have HNN := Lib.hid hnn
  have HNO := Lib.hid hn
  have HKE := Lib.hid hK
  have HC := Lib.hid hc
  have HKL := Lib.hid hk
  have HB := Lib.hid hb
  have H1 := Lib.hid h1
  have H2 := Lib.hid h2
  clear hc hk hb h1 h2 hnn hK hn
  go_enter Try.func17, Try.ntmps17
  go_wp2_with fail
  refine (copied_c v1 key _ H1.out (by rw [HKL.out]; decide)).mono ?_
  rintro e w1 ⟨u1, rfl, ho1, hf1⟩
  have HF1 := Lib.hid hf1
  have HO1 := Lib.hid ho1
  clear hf1 ho1
  go_wp2_with fail
  refine (copied_c v2 nonce _ (H2.out.fresh HF1.out) (by rw [← HNN.out]; have := HNO.out; omega)).mono ?_
  rintro e w2 ⟨u2, rfl, ho2, hf2⟩
  have HF2 := Lib.hid hf2
  obtain ⟨g1, o1, c1, e1, k1, _, _, q1⟩ := ((HO1.out.sl).fresh hf2).form (by rw [HKL.out]; decide)
  obtain ⟨g2, o2, c2, e2, k2, m2, _, q2⟩ := (ho2.sl).form (by rw [← HNN.out]; have := HNO.out; omega)
  rw [HKL.out] at e1 k1
  rw [← HNN.out] at e2 k2
  subst e1 e2
  have HX := Lib.hid (NewU_good g1 o1 c1 g2 o2 c2 nn key nonce w2 HKL.out HNN.out.symm HNO.out q1 q2 (by omega) (by omega) m2)
  clear hf2 ho2 q1 q2 k1 k2 m2
  go_wp2_with fail
  refine HX.out.mono ?_
  rintro e w3 ⟨b, rfl, hbs, hcs, hf3⟩
  rw [← HKE.out] at hcs
  have HF3 : Hid (Fresh w w3) := Lib.hid ((HF1.out.trans HF2.out).trans hf3)
  have HCS := Lib.hid hcs
  have hbl := hcs.lt
  have hbw : w.heap.size ≤ b := Nat.le_trans (Nat.le_trans HF1.out.size HF2.out.size) hbs
  clear HX hbs hcs hf3
  go_wp2_with fail
  go_loopw [10, 26] (fun va i wr => RunRel K qs w b w3.heap.size va i wr) (fun _ i _ => qs.length - (intOf i).toNat)
  case atStart => exact ⟨0, [], 0, Nat.zero_le _, rfl, rfl, OutsOwn.nil _ _, HCS.out, HF3.out, Nat.le_refl _, by simp⟩
  case round =>
    obtain ⟨k, ps, a, hk, rfl, hpl, hown, hcip, hf, hsz, hse⟩ := hrel
    have HO := Lib.hid hown
    have HM := Lib.hid hcip
    have HF := Lib.hid hf
    have HE := Lib.hid hse
    clear hown hcip hf hse HF3 HCS
    by_cases hlt : k < qs.length
    · obtain ⟨⟨vq, kd, ct, xq, rm⟩, hq'⟩ : ∃ q, qs[k]? = some q := ⟨_, List.getElem?_eq_getElem hlt⟩
      obtain ⟨bc, oc, c', he, -, -, hbc, hlie⟩ := HC.out.form (by omega)
      injection he with e1 e2 e3
      subst e1 e3
      have hqm : (⟨vq, kd, ct, xq, rm⟩ : Value × St) ∈ qs := List.mem_of_getElem? hq'
      have hsq : SlB w vq xq := HC.out.2 _ hqm
      have ⟨d0, d1, d2, d3⟩ := StepsL.at (hlie.fresh HF.out) hq'
      simp only at d0 d1 d2 d3
      obtain ⟨pq, cq, hqv⟩ := hsq.slice
      obtain ⟨nq, hnq⟩ : ∃ n, n = xq.length := ⟨_, rfl⟩
      rw [← hnq] at hqv
      subst hqv
      have HQ := Lib.hid hq'
      have HSQ := Lib.hid hsq
      have HLX := Lib.hid (HB.out _ hqm)
      clear hq' hlie hqm hsq hnq
      go_wp2_with fail
      have HF2' : Hid (Fresh wr (wr.alloc (.cells #[Value.int .i64 kd, .int .u32 (Go.Proofs.Ytlafnkcmdnfcpaa.u32 ct), .slice pq nq cq, .int .i8 rm] TSt))) := Lib.hid ((Keeps.refl _ wr).alloc _)
      have hsz2 : wr.heap.size < (wr.alloc (.cells #[Value.int .i64 kd, .int .u32 (Go.Proofs.Ytlafnkcmdnfcpaa.u32 ct), .slice pq nq cq, .int .i8 rm] TSt)).heap.size := by simp
      generalize (wr.alloc (.cells #[Value.int .i64 kd, .int .u32 (Go.Proofs.Ytlafnkcmdnfcpaa.u32 ct), .slice pq nq cq, .int .i8 rm] TSt)) = w4 at HF2' hsz2 ⊢
      have hszw : w.heap.size ≤ wr.heap.size := HF.out.size
      refine (do_c K b a ⟨kd, ct, xq, rm⟩ _ w4 (HM.out.keeps HF2'.out (fun x => x)) (HSQ.out.fresh (HF.out.trans HF2'.out)) HLX.out.2 HLX.out.1).mono ?_
      rintro e w5 ⟨va, rfl, ho, hm, hk3⟩
      obtain ⟨ou, hou⟩ : ∃ o, o = doA K a ⟨kd, ct, xq, rm⟩ := ⟨_, rfl⟩
      rw [← hou] at ho hm ⊢
      have HA := Lib.hid hou
      obtain ⟨pv, cv, hvv⟩ := ho.sl.slice
      obtain ⟨nv, hnv⟩ : ∃ n, n = ou.bytes.length := ⟨_, rfl⟩
      rw [← hnv] at hvv
      subst hvv
      have HO3 := Lib.hid ho
      have HM3 := Lib.hid hm
      have HK3 := Lib.hid hk3
      have hsz3 : w4.heap.size ≤ w5.heap.size := hk3.size
      obtain ⟨ob, of⟩ := ou
      clear ho hm hk3 hou hnv
      have HOA : Hid (OutsOwn w5 w3.heap.size u10 ps) := Lib.hid (OutsOwn.kept (OutsOwn.kept HO.out HF2'.out (fun _ _ x => x)) HK3.out (fun k hk e => by omega))
      have HW : Hid (Fresh w5 ((w5.alloc (.cells #[Value.slice pv nv cv, .bool of] TOu)).alloc (.cells #[Value.slice pv nv cv, .bool of] TOu))) := Lib.hid (((Keeps.refl _ w5).alloc _).alloc _)
      have HG := Lib.hid (heap_alloc2_new w5 (.cells #[Value.slice pv nv cv, .bool of] TOu) (.cells #[Value.slice pv nv cv, .bool of] TOu))
      have HG0 := Lib.hid (heap_alloc2_old w5 (.cells #[Value.slice pv nv cv, .bool of] TOu) (.cells #[Value.slice pv nv cv, .bool of] TOu))
      have HOW := Lib.hid (OutsOwn.kept HOA.out HW.out (fun _ _ x => x))
      have HPW := Lib.hid (OwnB.kept (OwnB.mono HO3.out (show w3.heap.size ≤ w4.heap.size by omega)) HW.out (fun _ _ x => x))
      have hU : ∀ q, u10.ownBlock = some q → q < w5.heap.size := fun q hq => (World.ownsRow.lt HOA.out.1 q hq).2
      have hU2 : ∀ q, u10.ownBlock = some q → w3.heap.size ≤ q := fun q hq => (World.ownsRow.lt HOA.out.1 q hq).1
      have HU := Lib.hid hU
      have HU2 := Lib.hid hU2
      have hszW := HW.out.size
      have HSZ := Lib.hid hszW
      have hbs : w3.heap.size ≤ w5.heap.size := by omega
      have HBS := Lib.hid (Nat.le_trans hbs hszW)
      have hpl2 : ps.length < 4398046511104 := by omega
      have HPL := Lib.hid hpl2
      clear hU hU2 hszW hbs hpl2
      have HS : Hid (((ps ++ [((Value.slice pv nv cv, ⟨ob, of⟩) : Value × Ou)]).map (·.2)) ++ (if of then [] else run K (doN a ⟨kd, ct, xq, rm⟩) ((qs.drop (k + 1)).map (·.2))) = run K 0 (qs.map (·.2))) := Lib.hid (by
        rw [← HE.out, drop_map_consS HQ.out, run_cons, ← HA.out]
        simp)
      simp only
      cases of with
      | false =>
        go_wp2_with (at_builtin; refine wpList_appO rfl (.tmp 33) (.tmp 35) rfl w3.heap.size u10 ps (Value.slice pv nv cv, ⟨ob, false⟩) (w5.heap.size + 1) rfl rfl HOW.out HG.out HPW.out HPL.out HBS.out ?_; intro v6 w6 HO5 HK5; have c9 : w6.cell? ⟨w5.heap.size, 1, none⟩ = some (.bool false) := HK5.out.cellAt (by rw [cell_block HG0.out]; rfl) (fun e => Nat.lt_irrefl _ (HU.out _ e)))
        go_roundw
        case rel =>
          have HS' := HS.out
          simp only [Bool.false_eq_true, if_false] at HS'
          refine ⟨k + 1, ps ++ [(Value.slice pv nv cv, ⟨ob, false⟩)], _, by omega, by go_num, by simp [hpl], HO5.out, ?_, ?_, ?_, HS'⟩
          · refine CipS.keeps (CipS.keeps (HM3.out rfl) HW.out (fun x => x)) HK5.out (fun e => ?_)
            have := HU2.out _ e
            omega
          · exact Fresh.then (Fresh.then (HF.out.trans HF2'.out) HK3.out (fun q hq e => by omega)) (S := fun q => u10.ownBlock = some q) ((Fresh.to HW.out).trans HK5.out) (fun q hq e => by have := HU2.out _ e; have := HF.out.size; omega)
          · exact Nat.le_trans HBS.out HK5.out.size
        case measure => simp [intOf]; omega
      | true =>
        go_wp2_with (at_builtin; refine wpList_appO rfl (.tmp 33) (.tmp 35) rfl w3.heap.size u10 ps (Value.slice pv nv cv, ⟨ob, true⟩) (w5.heap.size + 1) rfl rfl HOW.out HG.out HPW.out HPL.out HBS.out ?_; intro v6 w6 HO5 HK5; have c9 : w6.cell? ⟨w5.heap.size, 1, none⟩ = some (.bool true) := HK5.out.cellAt (by rw [cell_block HG0.out]; rfl) (fun e => Nat.lt_irrefl _ (HU.out _ e)))
        go_ret2
        have HS' := HS.out
        simp only [if_true, List.append_nil] at HS'
        refine ⟨_, _, rfl, HO5.out.mono (by omega), HS', ?_⟩
        have hk := HK5.out
        exact Fresh.then (Fresh.then (HF.out.trans HF2'.out) HK3.out (fun q hq e => by omega)) (S := fun q => u10.ownBlock = some q) ((Fresh.to HW.out).trans hk) (fun q hq e => by have := HU2.out _ e; omega)
    · have hks : k = qs.length := by omega
      go_wp2_with fail
      go_ret2
      refine ⟨_, ps, rfl, HO.out.mono (by omega), ?_, HF.out⟩
      have := HE.out
      rw [hks, List.drop_length] at this
      simpa [run_nil] using this
end
section
open Go Go.RowKit
theorem andR0 (x : UInt64) : bits .and .u64 (u64 x) 1152921487695413247 = u64 (x &&& 1152921487695413247) := bits_and64 x 1152921487695413247
theorem andR1 (x : UInt64) : bits .and .u64 (u64 x) 1152921487695413244 = u64 (x &&& 1152921487695413244) := bits_and64 x 1152921487695413244
attribute [local irreducible] u64 w64
set_option maxRecDepth 100000 in
set_option maxHeartbeats 1000000 in
theorem initialize_c (bk b : Nat) (T : TypeId) (cs : Array Value) (key : List UInt8) (x3 x4 x5 x6 : UInt64) (w : World) (hb : w.heap[b]? = some (.cells cs T (0, 0))) (hk : BytesIn w bk 0 key) (hl : key.length = 32) (hne : bk ≠ b)
    (e3 : cs[3]? = some (.int .u64 (u64 x3))) (e4 : cs[4]? = some (.int .u64 (u64 x4))) (e5 : cs[5]? = some (.int .u64 (u64 x5))) (e6 : cs[6]? = some (.int .u64 (u64 x6))) :
    Calls Try.prog 72 #[.pointer (some ⟨bk, 0, none⟩), .pointer (some ⟨b, 0, none⟩)] w fun e w' =>
      e = .returned (.tuple #[]) ∧ w'.heap[b]? = some (.cells ((((cs.setIfInBounds 3 (.int .u64 (u64 (w64 (key.take 8) &&& 1152921487695413247)))).setIfInBounds 4 (.int .u64 (u64 (w64 ((key.drop 8).take 8) &&& 1152921487695413244)))).setIfInBounds 5 (.int .u64 (u64 (w64 ((key.drop 16).take 8))))).setIfInBounds 6 (.int .u64 (u64 (w64 ((key.drop 24).take 8))))) T (0, 0)) ∧ Keeps (fun q => q = b) w w' := by
  have C3 := Lib.hid e3
  have C4 := Lib.hid e4
  have C5 := Lib.hid e5
  have C6 := Lib.hid e6
  have HB := Lib.hid hb
  have HK := Lib.hid hk
  have HL := Lib.hid hl
  have HN := Lib.hid hne
  have L0 : (key.take 8).length = 8 := by rw [List.length_take]; omega
  have L1 : ((key.drop 8).take 8).length = 8 := by rw [List.length_take, List.length_drop]; omega
  have L2 : ((key.drop 16).take 8).length = 8 := by rw [List.length_take, List.length_drop]; omega
  have L3 : ((key.drop 24).take 8).length = 8 := by rw [List.length_take, List.length_drop]; omega
  clear hb hk hl hne e3 e4 e5 e6
  go_enter Try.func72, Try.ntmps72
  go_wp2_with fail
  refine wp_region_ord (fun _ => True) [(0, true), (1, true), (2, true), (3, true), (4, true), (7, true), (8, true), (5, false), (6, true), (9, true), (10, false)] (by kernel_rfl) (by kernel_rfl) trivial ?_
  iterate 7 (refine ord_quiet rfl (fun K hK => ?_); go_simp; refine hK _ ?_; clear hK K)
  refine ord_loud rfl (fun K hK => ?_)
  go_wp2_with fail
  refine (le_Uint64_c bk 0 8 _ (key.take 8) _ L0 (by decide) ((HK.out.keeps ((Keeps.refl (fun q => q = b) w).drew) HN.out).sub 0 8)).mono ?_
  rintro e v0 ⟨rfl, m0, hw0⟩
  have HF0 : Hid (Keeps (fun q => q = b) w v0) := Lib.hid (by rw [hw0]; exact (((Keeps.refl (fun q => q = b) w).drew).alloc _).drewN _)
  have HB0 : Hid (v0.heap[b]? = some (.cells _ T (0, 0))) := Lib.hid (by rw [hw0]; exact block_drewN (block_alloc (show w.drew.heap[b]? = some _ from HB.out)))
  have c0 : v0.cell? ⟨b, 3, none⟩ = some (.int .u64 (u64 x3)) := by
    rw [cell_block HB0.out]
    exact C3.out
  have f0 : v0.frozen? ⟨b, 3, none⟩ = false := free_block HB0.out _
  clear hw0
  go_wp2_with fail
  refine hK _ _ trivial ?_
  clear hK K
  refine ord_quiet rfl (fun K hK => ?_); go_simp; rw [andR0]; refine hK _ ?_; clear hK K
  refine ord_quiet rfl (fun K hK => ?_); go_simp; refine hK _ ?_; clear hK K
  refine ord_loud rfl (fun K hK => ?_)
  go_wp2_with fail
  refine hK _ _ trivial ?_
  clear hK K
  refine ord_last ?_
  have HS0 := Lib.hid (block_set (i := 3) (v := .int .u64 (u64 (w64 (key.take 8) &&& 1152921487695413247))) HB0.out)
  have HE0 : Hid (Keeps (fun q => q = b) w (v0.setCell ⟨b, 3, none⟩ (.int .u64 (u64 (w64 (key.take 8) &&& 1152921487695413247))))) := Lib.hid (HF0.out.own _)
  clear c0 f0 HB0 HF0
  go_wp2_with fail
  refine wp_region_ord (fun _ => True) [(0, true), (1, true), (2, true), (3, true), (4, true), (7, true), (8, true), (5, false), (6, true), (9, true), (10, false)] (by kernel_rfl) (by kernel_rfl) trivial ?_
  iterate 7 (refine ord_quiet rfl (fun K hK => ?_); go_simp; refine hK _ ?_; clear hK K)
  refine ord_loud rfl (fun K hK => ?_)
  go_wp2_with fail
  refine (le_Uint64_c bk 8 8 _ ((key.drop 8).take 8) _ L1 (by decide) ((HK.out.keeps (HE0.out.drew) HN.out).sub 8 8)).mono ?_
  rintro e v1 ⟨rfl, m1, hw1⟩
  have HF1 : Hid (Keeps (fun q => q = b) w v1) := Lib.hid (by rw [hw1]; exact ((HE0.out.drew).alloc _).drewN _)
  have HB1 : Hid (v1.heap[b]? = some (.cells _ T (0, 0))) := Lib.hid (by rw [hw1]; exact block_drewN (block_alloc (show (v0.setCell ⟨b, 3, none⟩ (.int .u64 (u64 (w64 (key.take 8) &&& 1152921487695413247)))).drew.heap[b]? = some _ from HS0.out)))
  have c1 : v1.cell? ⟨b, 4, none⟩ = some (.int .u64 (u64 x4)) := by
    rw [cell_block HB1.out]
    simp only [Array.getElem?_setIfInBounds_ne (show 3 ≠ 4 by decide)]; exact C4.out
  have f1 : v1.frozen? ⟨b, 4, none⟩ = false := free_block HB1.out _
  clear hw1
  go_wp2_with fail
  refine hK _ _ trivial ?_
  clear hK K
  refine ord_quiet rfl (fun K hK => ?_); go_simp; rw [andR1]; refine hK _ ?_; clear hK K
  refine ord_quiet rfl (fun K hK => ?_); go_simp; refine hK _ ?_; clear hK K
  refine ord_loud rfl (fun K hK => ?_)
  go_wp2_with fail
  refine hK _ _ trivial ?_
  clear hK K
  refine ord_last ?_
  have HS1 := Lib.hid (block_set (i := 4) (v := .int .u64 (u64 (w64 ((key.drop 8).take 8) &&& 1152921487695413244))) HB1.out)
  have HE1 : Hid (Keeps (fun q => q = b) w (v1.setCell ⟨b, 4, none⟩ (.int .u64 (u64 (w64 ((key.drop 8).take 8) &&& 1152921487695413244))))) := Lib.hid (HF1.out.own _)
  clear c1 f1 HB1 HF1
  go_wp2_with fail
  refine wp_region_ord (fun _ => True) [(0, true), (1, true), (2, true), (3, true), (4, true), (6, true), (7, true), (5, false), (8, true), (9, false)] (by kernel_rfl) (by kernel_rfl) trivial ?_
  iterate 7 (refine ord_quiet rfl (fun K hK => ?_); go_simp; refine hK _ ?_; clear hK K)
  refine ord_loud rfl (fun K hK => ?_)
  go_wp2_with fail
  refine (le_Uint64_c bk 16 8 _ ((key.drop 16).take 8) _ L2 (by decide) ((HK.out.keeps (HE1.out.drew) HN.out).sub 16 8)).mono ?_
  rintro e v2 ⟨rfl, m2, hw2⟩
  have HF2 : Hid (Keeps (fun q => q = b) w v2) := Lib.hid (by rw [hw2]; exact ((HE1.out.drew).alloc _).drewN _)
  have HB2 : Hid (v2.heap[b]? = some (.cells _ T (0, 0))) := Lib.hid (by rw [hw2]; exact block_drewN (block_alloc (show (v1.setCell ⟨b, 4, none⟩ (.int .u64 (u64 (w64 ((key.drop 8).take 8) &&& 1152921487695413244)))).drew.heap[b]? = some _ from HS1.out)))
  have c2 : v2.cell? ⟨b, 5, none⟩ = some (.int .u64 (u64 x5)) := by
    rw [cell_block HB2.out]
    simp only [Array.getElem?_setIfInBounds_ne (show 4 ≠ 5 by decide), Array.getElem?_setIfInBounds_ne (show 3 ≠ 5 by decide)]; exact C5.out
  have f2 : v2.frozen? ⟨b, 5, none⟩ = false := free_block HB2.out _
  clear hw2
  go_wp2_with fail
  refine hK _ _ trivial ?_
  clear hK K
  refine ord_quiet rfl (fun K hK => ?_); go_simp; refine hK _ ?_; clear hK K
  refine ord_loud rfl (fun K hK => ?_)
  go_wp2_with fail
  refine hK _ _ trivial ?_
  clear hK K
  refine ord_last ?_
  have HS2 := Lib.hid (block_set (i := 5) (v := .int .u64 (u64 (w64 ((key.drop 16).take 8)))) HB2.out)
  have HE2 : Hid (Keeps (fun q => q = b) w (v2.setCell ⟨b, 5, none⟩ (.int .u64 (u64 (w64 ((key.drop 16).take 8)))))) := Lib.hid (HF2.out.own _)
  clear c2 f2 HB2 HF2
  go_wp2_with fail
  refine wp_region_ord (fun _ => True) [(0, true), (1, true), (2, true), (3, true), (4, true), (6, true), (7, true), (5, false), (8, true), (9, false)] (by kernel_rfl) (by kernel_rfl) trivial ?_
  iterate 7 (refine ord_quiet rfl (fun K hK => ?_); go_simp; refine hK _ ?_; clear hK K)
  refine ord_loud rfl (fun K hK => ?_)
  go_wp2_with fail
  refine (le_Uint64_c bk 24 8 _ ((key.drop 24).take 8) _ L3 (by decide) ((HK.out.keeps (HE2.out.drew) HN.out).sub 24 8)).mono ?_
  rintro e v3 ⟨rfl, m3, hw3⟩
  have HF3 : Hid (Keeps (fun q => q = b) w v3) := Lib.hid (by rw [hw3]; exact ((HE2.out.drew).alloc _).drewN _)
  have HB3 : Hid (v3.heap[b]? = some (.cells _ T (0, 0))) := Lib.hid (by rw [hw3]; exact block_drewN (block_alloc (show (v2.setCell ⟨b, 5, none⟩ (.int .u64 (u64 (w64 ((key.drop 16).take 8))))).drew.heap[b]? = some _ from HS2.out)))
  have c3 : v3.cell? ⟨b, 6, none⟩ = some (.int .u64 (u64 x6)) := by
    rw [cell_block HB3.out]
    simp only [Array.getElem?_setIfInBounds_ne (show 5 ≠ 6 by decide), Array.getElem?_setIfInBounds_ne (show 3 ≠ 6 by decide), Array.getElem?_setIfInBounds_ne (show 4 ≠ 6 by decide)]; exact C6.out
  have f3 : v3.frozen? ⟨b, 6, none⟩ = false := free_block HB3.out _
  clear hw3
  go_wp2_with fail
  refine hK _ _ trivial ?_
  clear hK K
  refine ord_quiet rfl (fun K hK => ?_); go_simp; refine hK _ ?_; clear hK K
  refine ord_loud rfl (fun K hK => ?_)
  go_wp2_with fail
  refine hK _ _ trivial ?_
  clear hK K
  refine ord_last ?_
  have HS3 := Lib.hid (block_set (i := 6) (v := .int .u64 (u64 (w64 ((key.drop 24).take 8)))) HB3.out)
  have HE3 : Hid (Keeps (fun q => q = b) w (v3.setCell ⟨b, 6, none⟩ (.int .u64 (u64 (w64 ((key.drop 24).take 8)))))) := Lib.hid (HF3.out.own _)
  clear c3 f3 HB3 HF3
  go_wp2_with fail
  go_end0
  exact ⟨rfl, HS3.out, HE3.out⟩
end
section
open Go Go.RowKit
/-- the sixteen bytes of a number below 2^128 -/
def bytes16 (n : Nat) : List UInt8 := by64 (UInt64.ofNat n) ++ by64 (UInt64.ofNat (n / 18446744073709551616))
/-- the authenticator as a number -/
def tagN (R S : Nat) (l : List UInt8) : Nat := (Poly.runH R 0 (chunks l) % Poly.prime + S) % 340282366920938463463374607431768211456
def tagB (R S : Nat) (l : List UInt8) : List UInt8 := bytes16 (tagN R S l)
theorem sbW_toNat (x y : UInt64) (b : Bool) : (sbW x y b).toNat = (x.toNat + 18446744073709551616 - y.toNat - b.toNat) % 18446744073709551616 := by
  unfold sbW; rw [UInt64.toNat_ofNat']
theorem sbB_iff (x y : UInt64) (b : Bool) : sbB x y b = true ↔ x.toNat < y.toNat + b.toNat := by unfold sbB; exact decide_eq_true_iff
theorem sbB_toNat (x y : UInt64) (b : Bool) : (sbB x y b).toNat = if x.toNat < y.toNat + b.toNat then 1 else 0 := by
  by_cases h : x.toNat < y.toNat + b.toNat
  · rw [(sbB_iff x y b).2 h, if_pos h]; rfl
  · rw [if_neg h, show sbB x y b = false from by rw [← Bool.not_eq_true]; exact fun e => h ((sbB_iff x y b).1 e)]; rfl
theorem p0_toNat : (18446744073709551611 : UInt64).toNat = 18446744073709551611 := rfl
theorem p1_toNat : (18446744073709551615 : UInt64).toNat = 18446744073709551615 := rfl
theorem p2_toNat : (3 : UInt64).toNat = 3 := rfl
/-- h minus the prime, in limbs -/
theorem sub_limbs (h0 h1 h2 t0 t1 b0 b1 : Nat) (l0 : h0 < 18446744073709551616) (l1 : h1 < 18446744073709551616) (l2 : h2 ≤ 5)
    (e0 : t0 = (h0 + 18446744073709551616 - 18446744073709551611 - 0) % 18446744073709551616) (k0 : b0 = if h0 < 18446744073709551611 + 0 then 1 else 0)
    (e1 : t1 = (h1 + 18446744073709551616 - 18446744073709551615 - b0) % 18446744073709551616) (k1 : b1 = if h1 < 18446744073709551615 + b0 then 1 else 0) (V : Nat)
    (hV : V = (h0 + h1 * 18446744073709551616 + h2 * 340282366920938463463374607431768211456) % 1361129467683753853853498429727072845819) :
    (h2 < 3 + b1 → V = h0 + h1 * 18446744073709551616 + h2 * 340282366920938463463374607431768211456) ∧
    (¬ h2 < 3 + b1 → ∃ t2, V = t0 + t1 * 18446744073709551616 + t2 * 340282366920938463463374607431768211456) := by
  constructor
  · intro hb
    rw [hV, Nat.mod_eq_of_lt]
    split at k0 <;> split at k1 <;> subst k0 <;> subst k1 <;> omega
  · intro hb
    have hge : 1361129467683753853853498429727072845819 ≤ h0 + h1 * 18446744073709551616 + h2 * 340282366920938463463374607431768211456 := by
      split at k0 <;> split at k1 <;> subst k0 <;> subst k1 <;> omega
    rw [Nat.mod_eq_sub_mod hge, Nat.mod_eq_of_lt (by omega)] at hV
    refine ⟨h2 - 3 - b1, ?_⟩
    split at k0 <;> split at k1 <;> subst k0 <;> subst k1 <;> omega
theorem fin_val (h0 h1 h2 : UInt64) (l2 : h2.toNat ≤ 5) : ∃ t2, Poly.val3 h0.toNat h1.toNat h2.toNat % Poly.prime = (fin0 h0 h1 h2).toNat + (fin1 h0 h1 h2).toNat * 18446744073709551616 + t2 * 340282366920938463463374607431768211456 := by
  have H := sub_limbs h0.toNat h1.toNat h2.toNat (sbW h0 18446744073709551611 false).toNat (sbW h1 18446744073709551615 (sbB h0 18446744073709551611 false)).toNat (sbB h0 18446744073709551611 false).toNat (sbB h1 18446744073709551615 (sbB h0 18446744073709551611 false)).toNat
    h0.toNat_lt h1.toNat_lt l2 (by rw [sbW_toNat, p0_toNat, Bool.toNat_false]) (by rw [sbB_toNat, p0_toNat, Bool.toNat_false]) (by rw [sbW_toNat, p1_toNat]) (by rw [sbB_toNat, p1_toNat]) _ rfl
  have hf : finB h0 h1 h2 = true ↔ h2.toNat < 3 + (sbB h1 18446744073709551615 (sbB h0 18446744073709551611 false)).toNat := by
    unfold finB
    rw [sbB_iff, p2_toNat]
  unfold fin0 fin1 selW Poly.val3 Poly.prime
  by_cases h : finB h0 h1 h2 = true
  · rw [if_pos h, if_pos h]
    exact ⟨h2.toNat, H.1 (hf.1 h)⟩
  · rw [if_neg h, if_neg h]
    exact H.2 (fun e => h (hf.2 e))
theorem out_limbs (f0 f1 t2 s0 s1 V : Nat) (hV : V = f0 + f1 * 18446744073709551616 + t2 * 340282366920938463463374607431768211456) :
    (f0 + s0 + 0) % 18446744073709551616 = ((V + (s0 + s1 * 18446744073709551616)) % 340282366920938463463374607431768211456) % 18446744073709551616 ∧
    (f1 + s1 + (f0 + s0 + 0) / 18446744073709551616) % 18446744073709551616 = ((V + (s0 + s1 * 18446744073709551616)) % 340282366920938463463374607431768211456) / 18446744073709551616 % 18446744073709551616 := by
  subst hV
  constructor <;> omega
theorem outB_eq (g0 g1 g2 s0 s1 : UInt64) (h : g2.toNat ≤ 5) : outB g0 g1 g2 s0 s1 = bytes16 ((Poly.val3 g0.toNat g1.toNat g2.toNat % Poly.prime + (s0.toNat + s1.toNat * 18446744073709551616)) % 340282366920938463463374607431768211456) := by
  obtain ⟨t2, hV⟩ := fin_val g0 g1 g2 h
  obtain ⟨e0, e1⟩ := out_limbs (fin0 g0 g1 g2).toNat (fin1 g0 g1 g2).toNat t2 s0.toNat s1.toNat _ hV
  unfold outB bytes16
  congr 2
  · apply UInt64.toNat_inj.1
    unfold out0
    rw [adW_toNat, UInt64.toNat_ofNat', Bool.toNat_false]
    exact e0
  · apply UInt64.toNat_inj.1
    unfold out1
    rw [adW_toNat, adB_toNat, UInt64.toNat_ofNat', Bool.toNat_false]
    exact e1
/-- what Sum makes of a MAC -/
theorem tag_of_mac {R : Nat} {S : Nat} {l buf : List UInt8} {h0 h1 h2 g0 g1 g2 s0 s1 : UInt64} (hS : S = s0.toNat + s1.toNat * 18446744073709551616) (hg : g2.toNat ≤ 5) (hbuf : buf.take (l.length % 16) = l.drop (l.length / 16 * 16))
    (hv : Poly.val3 h0.toNat h1.toNat h2.toNat = Poly.runH R 0 (chunks (l.take (l.length / 16 * 16))))
    (hr : Poly.val3 g0.toNat g1.toNat g2.toNat = Poly.runH R (Poly.val3 h0.toNat h1.toNat h2.toNat) (chunks (buf.take (l.length % 16)))) : outB g0 g1 g2 s0 s1 = tagB R S l := by
  rw [outB_eq _ _ _ _ _ hg, hr, hv, hbuf, ← Poly.runH_append, ← chunks_append (l.length / 16) _ _ (by rw [List.length_take]; omega), List.take_append_drop]
  unfold tagB tagN
  rw [hS]
theorem by64_length (x : UInt64) : (by64 x).length = 8 := rfl
theorem bytes16_length (n : Nat) : (bytes16 n).length = 16 := rfl
theorem tagB_length (R S : Nat) (l : List UInt8) : (tagB R S l).length = 16 := rfl
end
section
open Go Go.RowKit
/-- cells set one behind the other -/
def setMany (cs : Array Value) : Nat → List Value → Array Value
  | _, [] => cs
  | o, v :: vs => setMany (cs.setIfInBounds o v) (o + 1) vs
theorem block_setCells {b : Nat} {T : TypeId} : ∀ (vs : List Value) (o : Nat) (cs : Array Value) (w : World), w.heap[b]? = some (.cells cs T (0, 0)) → (w.setCells b o vs).heap[b]? = some (.cells (setMany cs o vs) T (0, 0)) := by
  intro vs
  induction vs with
  | nil => intro o cs w h; exact h
  | cons v vs ih => intro o cs w h; exact ih (o + 1) _ _ (block_set h)
theorem Keeps.setCells {b : Nat} {a : World} : ∀ (vs : List Value) (o : Nat) (w : World), Keeps (fun q => q = b) a w → Keeps (fun q => q = b) a (w.setCells b o vs) := by
  intro vs
  induction vs with
  | nil => intro o w h; exact h
  | cons v vs ih => intro o w h; exact ih (o + 1) _ (h.own v)
theorem setMany_gen : ∀ (t p L : List UInt8), t.length ≤ L.length → setMany (cells8 (p ++ L)) p.length (vals8 t) = cells8 (p ++ (t ++ L.drop t.length)) := by
  intro t
  induction t with
  | nil => intro p L _; simp [setMany, vals8]
  | cons x t ih =>
    intro p L h
    cases L with
    | nil => simp at h
    | cons y L =>
      show setMany ((cells8 (p ++ y :: L)).setIfInBounds p.length (.int .u8 (u8 x))) (p.length + 1) (vals8 t) = _
      rw [cells8_set, List.set_append_right _ _ (Nat.le_refl _), Nat.sub_self, List.set_cons_zero]
      have := ih (p ++ [x]) L (by simpa using h)
      simpa using this
theorem setMany16 (L t : List UInt8) (hL : L.length = 16) (ht : t.length = 16) : setMany (cells8 L) 0 (vals8 t) = cells8 t := by
  have := setMany_gen t [] L (by omega)
  rw [List.drop_eq_nil_of_le (by omega)] at this
  simpa using this
theorem wpList_app_room {ops : Array Oper} {rest : List Oper} {o : Oper} {a : Act} {w : World} {Q : Exit → Act → World → Prop} (hgd : o.guard = none) (s x : Operand)
    (ho : o.op = .call { callee := .builtin .append, args := #[s, x], argTypes := #[24, 24] }) (bo : Nat) (T : TypeId) (L t : List UInt8) (y : Value)
    (hs : a.eval s = .slice (some ⟨bo, 0, none⟩) 0 16) (hx : a.eval x = y) (hy : SlB w y t) (hL : L.length = 16) (ht : t.length = 16) (hb : w.heap[bo]? = some (.cells (cells8 L) T (0, 0)))
    (h : ∀ w', Hid (w'.heap[bo]? = some (.cells (cells8 t) T (0, 0))) → Hid (Keeps (fun q => q = bo) w w') → wpList Try.prog ops Q rest (a.put o.dst (.slice (some ⟨bo, 0, none⟩) 16 16)) w') : wpList Try.prog ops Q (o :: rest) a w := by
  refine wpList_plain hgd fun K hK => ?_
  obtain ⟨i0, hi, hz0, hz1, hz2⟩ := info_parts infoByte
  rcases hy with ⟨rfl, rfl⟩ | ⟨ad, c, rfl, h1, h2, hc⟩
  · cases ht
  · have hrun := run_append_room_cells (P := Try.prog) w 24 o.type 5 i0 Try.underlying24 hi bo 0 0 16 ad t.length c (vals8 t) (by rw [vals8_len, hz1, Nat.mul_one]) hc (vals8_one t) (by omega)
      (fun j hj => by rw [vals8_len] at hj; rw [Nat.zero_mul, Nat.zero_add, cell_block hb, cells8_get (by omega)]; rfl) (fun j hj => free_block hb _)
    unfold Oper.wp execOp
    simp only [ho, resolve, invoke, builtin, Sem.run_bind, Sem.run_pure, Result.andThen_ok, List.map_toArray, List.map_cons, List.map_nil, hs, hx, hrun]
    rw [Nat.zero_mul, Nat.zero_add, ht]
    refine hK _ _ (h _ (Lib.hid ?_) (Lib.hid (Keeps.setCells _ _ _ (Keeps.refl _ w))))
    rw [block_setCells _ _ _ _ hb, setMany16 L t hL ht]
/-- the number of a MAC's type -/
abbrev TM : TypeId := 129
def clamp0 (key : List UInt8) : UInt64 := w64 (key.take 8) &&& 1152921487695413247
def clamp1 (key : List UInt8) : UInt64 := w64 ((key.drop 8).take 8) &&& 1152921487695413244
def key2 (key : List UInt8) : UInt64 := w64 ((key.drop 16).take 8)
def key3 (key : List UInt8) : UInt64 := w64 ((key.drop 24).take 8)
/-- a MAC of this key -/
def MacK (key : List UInt8) (w : World) (b : Nat) (l : List UInt8) (fin : Bool) : Prop := Mac TM (clamp0 key) (clamp1 key) (key2 key) (key3 key) w b l fin
theorem clamp0_lt (key : List UInt8) : (clamp0 key).toNat < 1152921504606846976 := by
  unfold clamp0
  rw [UInt64.toNat_and]
  exact Nat.lt_of_le_of_lt Nat.and_le_right (by decide)
theorem clamp1_lt (key : List UInt8) : (clamp1 key).toNat < 1152921504606846976 := by
  unfold clamp1
  rw [UInt64.toNat_and]
  exact Nat.lt_of_le_of_lt Nat.and_le_right (by decide)
def keyR (key : List UInt8) : Nat := (clamp0 key).toNat + (clamp1 key).toNat * 18446744073709551616
def keyS (key : List UInt8) : Nat := (key2 key).toNat + (key3 key).toNat * 18446744073709551616
/-- the authenticator of l under this key -/
def tagK (key l : List UInt8) : List UInt8 := tagB (keyR key) (keyS key) l
theorem zeroMac : macCs 0 0 0 0 0 0 0 (List.replicate 16 0) 0 false = [.int .u64 0, .int .u64 0, .int .u64 0, .int .u64 0, .int .u64 0, .int .u64 0, .int .u64 0, .int .u8 0, .int .u8 0, .int .u8 0, .int .u8 0, .int .u8 0, .int .u8 0, .int .u8 0, .int .u8 0, .int .u8 0, .int .u8 0, .int .u8 0, .int .u8 0, .int .u8 0, .int .u8 0, .int .u8 0, .int .u8 0, .int .i64 0, .bool false] := rfl
theorem Mac.fresh {r0 r1 s0 s1 : UInt64} {w : World} {b : Nat} {T : TypeId} (h : w.heap[b]? = some (.cells (macCs 0 0 0 r0 r1 s0 s1 (List.replicate 16 0) 0 false).toArray T (0, 0))) : Mac T r0 r1 s0 s1 w b [] false :=
  ⟨0, 0, 0, List.replicate 16 0, rfl, Nat.zero_le _, h, rfl, rfl⟩
theorem macCs_5 {h0 h1 h2 r0 r1 s0 s1 : UInt64} {buf : List UInt8} {off : Nat} {fin : Bool} : (macCs h0 h1 h2 r0 r1 s0 s1 buf off fin).toArray[5]? = some (.int .u64 (u64 s0)) := rfl
theorem macCs_6 {h0 h1 h2 r0 r1 s0 s1 : UInt64} {buf : List UInt8} {off : Nat} {fin : Bool} : (macCs h0 h1 h2 r0 r1 s0 s1 buf off fin).toArray[6]? = some (.int .u64 (u64 s1)) := rfl
attribute [local irreducible] w64 macCs chunks tagB
set_option maxRecDepth 100000 in
theorem New_c (bk : Nat) (key : List UInt8) (w : World) (hk : BytesIn w bk 0 key) (hl : key.length = 32) (hbk : bk < w.heap.size) :
    Calls Try.prog 55 #[.pointer (some ⟨bk, 0, none⟩)] w fun e w' =>
      e = .returned (.pointer (some ⟨w.heap.size, 0, none⟩)) ∧ MacK key w' w.heap.size [] false ∧ Fresh w w' := by
  have HK := Lib.hid hk
  have HL := Lib.hid hl
  clear hk hl
  go_enter Try.func55, Try.ntmps55
  go_wp2_with fail
  refine (initialize_c bk w.heap.size TM (macCs 0 0 0 0 0 0 0 (List.replicate 16 0) 0 false).toArray key 0 0 0 0 _ (by rw [zeroMac]; exact heap_alloc_new w _) (HK.out.keeps ((Keeps.refl (fun _ => False) w).alloc _) (fun x => x)) HL.out (by omega) macCs_3 macCs_4 macCs_5 macCs_6).mono ?_
  rintro e w1 ⟨rfl, hb, hk⟩
  rw [macCs_set_rs] at hb
  have HB := Lib.hid hb
  have HK1 : Hid (Fresh w w1) := Lib.hid (Fresh.then ((Keeps.refl _ w).alloc _) hk (fun q hq e => by omega))
  clear hb hk
  go_wp2_with fail
  go_ret
  exact ⟨rfl, Mac.fresh HB.out, HK1.out⟩
theorem SlB.lt {w : World} {v : Value} {l : List UInt8} (h : SlB w v l) (h0 : 0 < l.length) (k : Nat) (hk : v.ownBlock = some k) : k < w.heap.size := by
  obtain ⟨b, o, c, rfl, -, -, hb, -⟩ := h.form h0
  cases hk
  exact hb
/-- Write, of a MAC that is still open -/
theorem MWrite_c (b : Nat) (key l m : List UInt8) (v : Value) (w : World) (hmac : MacK key w b l false) (hs : SlB w v m) (hv : 0 < m.length → v.ownBlock ≠ some b) :
    Calls Try.prog 56 #[.pointer (some ⟨b, 0, none⟩), v] w fun e w' =>
      e = .returned (.tuple #[.int .i64 (m.length : Int), .nilIface]) ∧ MacK key w' b (l ++ m) false ∧ Keeps (fun q => q = b) w w' := by
  have c24 : w.cell? ⟨b, 24, none⟩ = some (.bool false) := by
    obtain ⟨h0, h1, h2, buf, hbl, hh, hb, -, -⟩ := hmac
    rw [cell_block hb]; exact macCs_fin hbl
  have HM := Lib.hid hmac
  have HS := Lib.hid hs
  have HV := Lib.hid hv
  clear hmac hs hv
  go_enter Try.func56, Try.ntmps56
  go_wp2_with fail
  refine (gWrite_c b TM l m false _ _ _ _ v w (clamp0_lt key) (clamp1_lt key) HM.out HS.out HV.out).mono ?_
  rintro e w1 ⟨rfl, hm, hk⟩
  have HM1 := Lib.hid hm
  have HK1 := Lib.hid hk
  clear hm hk
  go_wp2_with fail
  go_ret2
  exact ⟨rfl, HM1.out, HK1.out⟩
/-- what the first half of MAC.Sum and MAC.Verify does -/
theorem gSumM (b bo : Nat) (key l L : List UInt8) (fin : Bool) (w : World) (To : TypeId) (hmac : MacK key w b l fin) (hbo : w.heap[bo]? = some (.cells (cells8 L) To (0, 0))) (hL : L.length = 16) :
    Calls Try.prog 74 #[.pointer (some ⟨b, 0, none⟩), .pointer (some ⟨bo, 0, none⟩)] w fun e w' =>
      e = .returned (.tuple #[]) ∧ Keeps (fun q => q = bo) w w' ∧ w'.heap[bo]? = some (.cells (cells8 (tagK key l)) To (0, 0)) := by
  obtain ⟨h0, h1, h2, buf, hbl, hh, hb, hbuf, hv⟩ := hmac
  refine (gSum_c b bo TM To L buf (l.length % 16) fin h0 h1 h2 (clamp0 key) (clamp1 key) (key2 key) (key3 key) w hb hbl (Nat.mod_lt _ (by decide)) hh (clamp0_lt key) (clamp1_lt key) hbo hL).mono ?_
  rintro e w' ⟨he, hk, g0, g1, g2, hg, hg2, hr⟩
  refine ⟨he, hk, ?_⟩
  rw [hg, tag_of_mac rfl hg2 hbuf hv hr]
  rfl
theorem Mac.close {T : TypeId} {r0 r1 s0 s1 : UInt64} {w : World} {b : Nat} {l : List UInt8} {fin : Bool} (h : Mac T r0 r1 s0 s1 w b l fin) : Mac T r0 r1 s0 s1 (w.setCell ⟨b, 24, none⟩ (.bool true)) b l true := by
  obtain ⟨h0, h1, h2, buf, hbl, hh, hb, hbuf, hv⟩ := h
  have := block_set (i := 24) (v := .bool true) hb
  rw [macCs_set_fin hbl] at this
  exact ⟨h0, h1, h2, buf, hbl, hh, this, hbuf, hv⟩
theorem Mac.c24 {T : TypeId} {r0 r1 s0 s1 : UInt64} {w : World} {b : Nat} {l : List UInt8} {fin : Bool} (h : Mac T r0 r1 s0 s1 w b l fin) : w.cell? ⟨b, 24, none⟩ = some (.bool fin) ∧ w.frozen? ⟨b, 24, none⟩ = false := by
  obtain ⟨h0, h1, h2, buf, hbl, hh, hb, -, -⟩ := h
  exact ⟨by rw [cell_block hb]; exact macCs_fin hbl, free_block hb 24⟩
theorem SlB.all16 {w : World} {b : Nat} {T : TypeId} {l : List UInt8} (h : w.heap[b]? = some (.cells (cells8 l) T (0, 0))) (hl : l.length = 16) : SlB w (.slice (some ⟨b, 0, none⟩) 16 16) l := by
  have := SlB.of (w := w) (b := b) (o := 0) (c := 16) (l := l) (by omega) (by decide) (fun i hi => by rw [Nat.zero_add, cell_block h, cells8_get hi])
  rwa [hl] at this
theorem cells8_zeros16 : cells8 (List.replicate 16 0) = #[.int .u8 0, .int .u8 0, .int .u8 0, .int .u8 0, .int .u8 0, .int .u8 0, .int .u8 0, .int .u8 0, .int .u8 0, .int .u8 0, .int .u8 0, .int .u8 0, .int .u8 0, .int .u8 0, .int .u8 0, .int .u8 0] := rfl
set_option maxRecDepth 100000 in
/-- Sum, into sixteen bytes of room -/
theorem MSum_into (b bo : Nat) (key l L : List UInt8) (fin : Bool) (w : World) (To : TypeId) (hmac : MacK key w b l fin) (hbo : w.heap[bo]? = some (.cells (cells8 L) To (0, 0))) (hL : L.length = 16) (hne : bo ≠ b) :
    Calls Try.prog 57 #[.pointer (some ⟨b, 0, none⟩), .slice (some ⟨bo, 0, none⟩) 0 16] w fun e w' =>
      e = .returned (.slice (some ⟨bo, 0, none⟩) 16 16) ∧ w'.heap[bo]? = some (.cells (cells8 (tagK key l)) To (0, 0)) ∧ MacK key w' b l true ∧ Keeps (fun q => q = b ∨ q = bo) w w' := by
  have HM := Lib.hid hmac
  have HBO := Lib.hid hbo
  have HL := Lib.hid hL
  have HN := Lib.hid hne
  have hltb : b < w.heap.size := hmac.lt
  have hltbo : bo < w.heap.size := lt_of_block hbo
  clear hmac hbo hL hne
  go_enter Try.func57, Try.ntmps57
  go_wp2_with fail
  have HF0 : Hid (Fresh w (w.alloc (.cells (cells8 (List.replicate 16 0)) 27))) := Lib.hid ((Keeps.refl _ w).alloc _)
  refine (gSumM b w.heap.size key l (List.replicate 16 0) fin _ 27 (Mac.keeps HM.out HF0.out (fun x => x)) (heap_alloc_new w _) rfl).mono ?_
  rintro e w1 ⟨rfl, hk, hg⟩
  have HG := Lib.hid hg
  have HF1 : Hid (Fresh w w1) := Lib.hid (HF0.out.then hk (fun q hq e => by omega))
  clear hk hg HF0
  have HM1 := Lib.hid (Mac.keeps HM.out HF1.out (fun x => x))
  obtain ⟨c24, f24⟩ := Mac.c24 HM1.out
  have HM2 := Lib.hid (Mac.close HM1.out)
  have hlt1 : b < w1.heap.size := Nat.lt_of_lt_of_le hltb HF1.out.size
  have HBO2 := Lib.hid (block_set_other (v := .bool true) (p := ⟨b, 24, none⟩) (HF1.out.at HBO.out) HN.out)
  have HG2 := Lib.hid (block_set_other (v := .bool true) (p := ⟨b, 24, none⟩) HG.out (Nat.ne_of_gt hltb))
  go_wp2_with (refine wpList_app_room rfl (.tmp 14) (.tmp 15) rfl bo To L (tagK key l) _ rfl rfl (SlB.all16 HG2.out (tagB_length _ _ _)) HL.out (tagB_length _ _ _) HBO2.out ?_; intro w3 HB3 HK3)
  go_ret
  refine ⟨rfl, HB3.out, Mac.keeps HM2.out HK3.out (fun e => HN.out e.symm), ?_⟩
  exact (((Fresh.to HF1.out).setCell (Or.inl (Or.inl rfl)) _).trans (HK3.out.mono (fun k _ h => Or.inr h)))
set_option maxRecDepth 100000 in
/-- poly1305.Sum -/
theorem PSum_c (bo bk : Nat) (key m L : List UInt8) (v : Value) (w : World) (To : TypeId) (hbo : w.heap[bo]? = some (.cells (cells8 L) To (0, 0))) (hL : L.length = 16) (hk : BytesIn w bk 0 key) (hl : key.length = 32) (hbk : bk < w.heap.size)
    (hs : SlB w v m) :
    Calls Try.prog 35 #[.pointer (some ⟨bo, 0, none⟩), v, .pointer (some ⟨bk, 0, none⟩)] w fun e w' =>
      e = .returned (.tuple #[]) ∧ w'.heap[bo]? = some (.cells (cells8 (tagK key m)) To (0, 0)) ∧ Keeps (fun q => q = bo) w w' := by
  have HBO := Lib.hid hbo
  have HL := Lib.hid hL
  have HK := Lib.hid hk
  have HKL := Lib.hid hl
  have HS := Lib.hid hs
  have hltbo : bo < w.heap.size := lt_of_block hbo
  clear hbo hL hk hl hs
  go_enter Try.func35, Try.ntmps35
  go_wp2_with fail
  refine (New_c bk key w HK.out HKL.out hbk).mono ?_
  rintro e w1 ⟨rfl, hm, hf⟩
  have HM := Lib.hid hm
  have HF := Lib.hid hf
  clear hm hf
  go_wp2_with fail
  refine (MWrite_c w.heap.size key [] m v w1 HM.out (HS.out.fresh HF.out) (fun h0 e => by have := HS.out.lt h0 _ e; omega)).mono ?_
  rintro e w2 ⟨rfl, hm, hk⟩
  have HM2 := Lib.hid hm
  have HF2 : Hid (Fresh w w2) := Lib.hid (HF.out.then hk (fun q hq e => by omega))
  clear hm hk
  go_wp2_with fail
  refine (MSum_into w.heap.size bo key m L false w2 To HM2.out (HF2.out.at HBO.out) HL.out (Nat.ne_of_lt hltbo)).mono ?_
  rintro e w3 ⟨rfl, hb, hm, hk⟩
  have HB3 := Lib.hid hb
  have HK3 : Hid (Keeps (fun q => q = bo) w w3) := Lib.hid ⟨hk.os.trans HF2.out.os, hk.tape.trans HF2.out.tape, hk.output.trans HF2.out.output, Nat.le_trans HF2.out.size hk.size, fun i hi hs => (hk.block i (Nat.lt_of_lt_of_le hi HF2.out.size) (fun e => by rcases e with e | e; omega; exact hs e)).trans (HF2.out.block i hi (fun x => x))⟩
  clear hb hm hk
  go_wp2_with fail
  go_end0
  exact ⟨rfl, HB3.out, HK3.out⟩
end
section
open Go Go.RowKit
theorem info32B : (Try.prog.info? 22).map (·.size) = some 32 := by kernel_rfl
theorem info16B : (Try.prog.info? 27).map (·.size) = some 16 := by kernel_rfl
theorem tagK_length (key l : List UInt8) : (tagK key l).length = 16 := tagB_length _ _ _
/-- sixteen noughts -/
abbrev Z16 : Obj := .cells (cells8 (List.replicate 16 0)) 27
theorem heap_alloc3_new (w : World) (A B C : Obj) : (((w.alloc A).alloc B).alloc C).heap[w.heap.size + 1 + 1]? = some C := by
  have := heap_alloc_new ((w.alloc A).alloc B) C
  simpa using this
attribute [local irreducible] tagK tagB
set_option maxRecDepth 100000 in
theorem Tag_c (v : Value) (m key : List UInt8) (w : World) (hs : SlB w v m) (hl : key.length = 32) :
    Calls Try.prog 18 #[v, .agg (cells8 key)] w fun e w' => e = .returned (.agg (cells8 (tagK key m))) ∧ Fresh w w' := by
  have HS := Lib.hid hs
  have HL := Lib.hid hl
  have H1 := cells8_one key
  clear hs hl
  go_enter Try.func18, Try.ntmps18
  go_wp2_with fail
  have hK : ∀ A B C : Obj, Fresh w (((w.alloc A).alloc B).alloc C) := fun A B C => (((Keeps.refl _ w).alloc A).alloc B).alloc C
  refine (PSum_c (w.heap.size + 1 + 1) w.heap.size key m (List.replicate 16 0) v (((w.alloc (.cells (cells8 key) 22)).alloc Z16).alloc Z16) 27 (heap_alloc3_new w _ _ _) rfl (BytesIn.of (block_alloc (block_alloc (heap_alloc_new w _)))) HL.out (by simp; omega) (HS.out.fresh (hK _ _ _))).mono ?_
  rintro e w1 ⟨rfl, hb, hk⟩
  have HB := Lib.hid hb
  have HR := Lib.hid (hk.at (k := w.heap.size + 1) (block_alloc (heap_alloc2_new w _ _)) (by omega))
  have HF : Hid (Fresh w w1) := Lib.hid ((hK _ _ _).then hk (fun q hq e => by omega))
  have HTL := Lib.hid (show (cells8 (tagK key m)).size = 16 by rw [cells8_size, tagK_length])
  clear hb hk hK
  go_wp2_with (first
    | (refine wpList_load_row rfl 27 (.tmp 5) rfl (w.heap.size + 1 + 1) rfl 27 (cells8 (tagK key m)) (0, 0) _ HB.out Try.underlying27 rfl ?_ ?_; (rw [HTL.out]; exact info16B))
    | (refine wpList_store_row rfl 27 (.tmp 4) (.tmp 8) rfl (w.heap.size + 1) (cells8 (tagK key m)) rfl rfl 27 _ HR.out ?_ ?_ (cells8_one _) ?_; (rw [HTL.out]; exact info16B); (rw [HTL.out]; rfl)))
  refine bodyPost_ret (results_cell_row (g := w.heap.size + 1) rfl _ _ 27 (cells8 (tagK key m)) (0, 0) _ rfl (row_heap HR.out) Try.underlying27 rfl ?_) rfl ?_
  · rw [HTL.out]; exact info16B
  · exact ⟨rfl, HF.out.setRow (Or.inr (by omega)) _⟩
end
section
open Go Go.RowKit
set_option linter.unusedVariables false
attribute [local irreducible] Cha.iter Cha.rounds Cha.dbl Cha.qr ckOf CK.ks tagK
theorem sizes_results {tmps : Array Value} {a b c d : Value} (h0 : tmps[0]? = some a) (h1 : tmps[1]? = some b) (h2 : tmps[2]? = some c) (h3 : tmps[3]? = some d) (w : World) : (results Try.f16 tmps).run Try.prog w = .ok (.tuple #[a, b, c, d]) w := by
  simp [results, Try.results16, go_sem, h0, h1, h2, h3]
theorem Sizes_c (w : World) : Calls Try.prog 16 #[] w fun e w' => e = .returned (.tuple #[.int .i64 32, .int .i64 12, .int .i64 24, .int .i64 16]) ∧ w' = w := by
  go_enter Try.func16, Try.ntmps16
  go_wp2_with fail
  exact bodyPost_ret (sizes_results rfl rfl rfl rfl _) rfl ⟨rfl, rfl⟩
/-- what Run says of no steps: whether there is a cipher -/
theorem Run_none (v1 v2 : Value) (key nonce : List UInt8) (w : World) (h1 : SlB w v1 key) (h2 : SlB w v2 nonce) (l1 : key.length ≤ 140737488351232) (l2 : nonce.length ≤ 140737488351232) (b : Bool) (hb : b = decide (key.length = 32 ∧ (nonce.length = 12 ∨ nonce.length = 24))) :
    Calls Try.prog 17 #[v1, v2, .slice none 0 0] w fun e w' => ∃ v, e = .returned (.tuple #[v, .bool b]) ∧ Fresh w w' := by
  by_cases h : key.length = 32 ∧ (nonce.length = 12 ∨ nonce.length = 24)
  · rw [decide_eq_true h] at hb
    subst hb
    refine (Run_good v1 v2 (.slice none 0 0) key nonce [] w h1 h2 h.1 h.2 ⟨Or.inl ⟨rfl, rfl⟩, fun _ h => by cases h⟩ (Nat.zero_le _) (fun _ h => by cases h)).mono ?_
    rintro e w' ⟨v, ps, rfl, -, -, hf⟩
    exact ⟨v, rfl, hf⟩
  · rw [decide_eq_false h] at hb
    subst hb
    refine (Run_bad v1 v2 (.slice none 0 0) key nonce w h1 h2 (by omega) (by omega) h).mono ?_
    rintro e w' ⟨rfl, hf⟩
    exact ⟨_, rfl, hf⟩
theorem zeros32_lit : cells8 (List.replicate 32 0) = (Array.replicate 32 (Value.int .u8 0)) := by rfl
set_option maxRecDepth 100000 in
set_option maxHeartbeats 4000000 in
theorem fnSizes_c (v1 v2 : Value) (key nonce : List UInt8) (w : World) (h1 : SlB w v1 key) (h2 : SlB w v2 nonce) (l1 : key.length ≤ 140737488351232) (l2 : nonce.length ≤ 140737488351232) :
    Calls Try.prog 4 #[v1, v2] w fun e w' => e = .returned (.bool true) ∧ Fresh w w' := by
  obtain ⟨p1, c1, rfl⟩ := h1.slice
  obtain ⟨p2, c2, rfl⟩ := h2.slice
  obtain ⟨n1, hn1⟩ : ∃ n, n = key.length := ⟨_, rfl⟩
  obtain ⟨n2, hn2⟩ : ∃ n, n = nonce.length := ⟨_, rfl⟩
  obtain ⟨b, hb⟩ : ∃ b, b = decide (key.length = 32 ∧ (nonce.length = 12 ∨ nonce.length = 24)) := ⟨_, rfl⟩
  have HX := Lib.hid (fun w' (hf : Fresh w w') => Run_none (.slice p1 key.length c1) (.slice p2 nonce.length c2) key nonce w' (h1.fresh hf) (h2.fresh hf) l1 l2 b hb)
  rw [← hn1, ← hn2] at HX hb ⊢
  have HT := Lib.hid (fun (w' : World) => Tag_c (.slice none 0 0) [] (List.replicate 32 0) w' (SlB.nil w') (by decide))
  have HBB := Lib.hid hb
  clear h1 h2 l1 l2 hn1 hn2 hb
  go_enter Try.func4, Try.ntmps4
  refine wp_seq_hold (fun K0 HK0 => ?_)
  go_wp2_with fail
  refine HK0.out _ _ ?_
  clear HK0
  refine wp_seq_hold (fun K1 HK1 => ?_)
  go_wp2_with fail
  refine (Sizes_c w).mono ?_
  rintro e w1 ⟨rfl, hw1⟩
  subst w1
  go_wp2_with fail
  refine HK1.out _ _ ?_
  clear HK1
  refine wp_seq_hold (fun K2 HK2 => ?_)
  go_wp2_with fail
  refine (HX.out w (Keeps.refl _ w)).mono ?_
  rintro e w2 ⟨v, rfl, hf⟩
  have HF := Lib.hid hf
  clear hf
  go_wp2_with fail
  refine HK2.out _ _ ?_
  clear HK2
  clear HX
  have fin : ∀ w3, Fresh w2 w3 → Fresh w w3 := fun w3 h => HF.out.trans h
  have HFIN := Lib.hid fin
  clear fin
  by_cases i1 : n1 = 32
  · by_cases i2 : n2 = 12
    · obtain rfl : b = true := by rw [HBB.out]; exact decide_eq_true ⟨i1, Or.inl i2⟩
      have j1 : (n1 : Int) = 32 := by omega
      have j2 : (n2 : Int) = 12 := by omega
      clear HBB i1 i2
      go_wp2_with fail
      refine (HT.out w2).mono ?_
      rintro e w3 ⟨rfl, hf⟩
      have HF3 := Lib.hid hf
      clear hf
      go_wp2_with fail
      go_ret
      exact ⟨rfl, HFIN.out _ HF3.out⟩
    · by_cases i3 : n2 = 24
      · obtain rfl : b = true := by rw [HBB.out]; exact decide_eq_true ⟨i1, Or.inr i3⟩
        have j1 : (n1 : Int) = 32 := by omega
        have j2 : ¬ (n2 : Int) = 12 := by omega
        have j3 : (n2 : Int) = 24 := by omega
        clear HBB i1 i2 i3
        go_wp2_with fail
        refine (HT.out w2).mono ?_
        rintro e w3 ⟨rfl, hf⟩
        have HF3 := Lib.hid hf
        clear hf
        go_wp2_with fail
        go_ret
        exact ⟨rfl, HFIN.out _ HF3.out⟩
      · obtain rfl : b = false := by rw [HBB.out]; exact decide_eq_false (fun h => h.2.elim i2 i3)
        have j1 : (n1 : Int) = 32 := by omega
        have j2 : ((n2 : Int) == 12) = false := beq_eq_false_iff_ne.2 (by omega)
        have j3 : ((n2 : Int) == 24) = false := beq_eq_false_iff_ne.2 (by omega)
        clear HBB i1 i2 i3
        go_wp2_with fail
        refine (HT.out w2).mono ?_
        rintro e w3 ⟨rfl, hf⟩
        have HF3 := Lib.hid hf
        clear hf
        go_wp2_with fail
        go_ret
        exact ⟨rfl, HFIN.out _ HF3.out⟩
  · obtain rfl : b = false := by rw [HBB.out]; exact decide_eq_false (fun h => i1 h.1)
    have j1 : ¬ (n1 : Int) = 32 := by omega
    clear HBB i1
    go_wp2_with fail
    refine (HT.out w2).mono ?_
    rintro e w3 ⟨rfl, hf⟩
    have HF3 := Lib.hid hf
    clear hf
    go_wp2_with fail
    go_ret
    exact ⟨rfl, HFIN.out _ HF3.out⟩
end
section
section
open Go Go.RowKit Go.ChangeShapes Go.WideShapes Go.ChangeAt
theorem own : ownKnob Try.prog.godebug = none := by kernel_rfl
theorem laidOut : laidOutB Try.prog = true := by kernel_rfl
theorem cellsByte : Try.prog.cellsOf 5 = 1 := by kernel_rfl
theorem bytesByte : Try.prog.bytesOf 5 = 1 := by kernel_rfl
theorem u8_ofInt {n : Int} (h : (Lit.int .u8 n).wf = true) : u8 (UInt8.ofNat n.toNat) = n := by
  have hx : 0 ≤ n ∧ n ≤ 255 := by simpa [Lit.wf, IntKind.min, IntKind.max, IntKind.signed, IntKind.bits] using h
  unfold u8
  rw [UInt8.toNat_ofNat']
  omega
/-- the bytes of a list of numbers -/
def bytesOfInts (zs : List Int) : List UInt8 := zs.map fun n => UInt8.ofNat n.toNat
/-- a slice of bytes that came in reads as bytes; its capacity is told by its datum -/
theorem open_bytes {H : Type} {enc : TypeId × Value → H} {W : World} {base : Nat} {held : Bool} {a : Option Addr} {n c : Nat} {d : DataW H} {p : List MemPlace}
    (h : DataW.Trod enc Try.prog W base (fun _ => true) held 24 (.slice a n c) d p) :
    ∃ l : List UInt8, SlB W (.slice a n c) l ∧ l.length = n ∧ ((n = 0 ∧ c = 0) ∨ ∃ elems spare, d = .slice elems spare ∧ elems.length + spare.length = c ∧ n ≤ c) := by
  obtain ⟨fuel, hf⟩ := h
  rcases open_ints Try.underlying24 Try.underlying5 cellsByte hf with ⟨hcs, _⟩ | ⟨x, l, cc, zs, hcs, _, hl, hm, hz, hx, hcell, hwz⟩
  · simp [Value.cells] at hcs
    obtain ⟨rfl, rfl, rfl⟩ := hcs
    exact ⟨[], SlB.nil W, rfl, Or.inl ⟨rfl, rfl⟩⟩
  · simp [Value.cells] at hcs
    obtain ⟨rfl, rfl, rfl⟩ := hcs
    have hz' : zs.length = c := by simpa using hz
    refine ⟨bytesOfInts (zs.take n), ?_, ?_, Or.inr ?_⟩
    · refine Or.inr ⟨x, c, ?_, ?_, hm, ?_⟩
      · simp [bytesOfInts, hz', Nat.min_eq_left hl]
      · simp [bytesOfInts]; omega
      · intro j u hu
        have hj : j < n := by
          have := (List.getElem?_eq_some_iff.1 hu).1
          rw [vals8_len] at this
          simp [bytesOfInts] at this
          omega
        rw [hcell j (by omega)]
        simp only [vals8, bytesOfInts, List.map_map, List.getElem?_map, List.getElem?_take, hj, if_true] at hu
        have hjz : j < zs.length := by omega
        rw [List.getElem?_eq_getElem hjz] at hu
        simp only [Option.map_some, Option.some.injEq, Function.comp] at hu
        rw [← hu, u8_ofInt (hwz _ (List.getElem_mem hjz))]
        simp [List.getD, List.getElem?_eq_getElem hjz]
    · simp [bytesOfInts, hz', Nat.min_eq_left hl]
    · simp only [Prod.mk.injEq] at hx
      obtain ⟨hd, _⟩ := hx
      exact ⟨_, _, hd, by simp [lits]; omega, hl⟩
end
section
open Go Go.RowKit Go.ChangeShapes Go.WideShapes Go.ChangeAt
/-- an array of bytes that came in -/
theorem open_arr {P : Program} {H : Type} {enc : TypeId × Value → H} {W : World} {base : Nat} {held : Bool} {T e8 : TypeId} {n : Nat} {v : Value} {d : DataW H} {p : List MemPlace}
    (hu : P.underlying T = some (.array n e8)) (h8 : P.underlying e8 = some (.int .u8)) (hce : P.cellsOf e8 = 1) (hc : P.cellsOf T = n) (hok : Value.okWide P W .any base T v)
    (h : DataW.Trod enc P W 0 (fun _ => true) held T v d p) : ∃ l : List UInt8, l.length = n ∧ v = .agg (cells8 l) := by
  obtain ⟨cs, rfl, hsz, _⟩ : ∃ cs, v = .agg cs ∧ cs.size = P.cellsOf T ∧ Row.okWide P W .any base T cs := by
    simpa [Value.okWide, hu] using hok
  rw [hc] at hsz
  obtain ⟨fuel, hf⟩ := h
  obtain ⟨xs, m, -, -, -, hxl, hx⟩ := DataW.trod_array hu hf
  have hcells : (Value.agg cs).cells.toList = cs.toList := rfl
  rw [hcells, hce] at hx
  have hcell : ∀ i, (hi : i < cs.toList.length) → ∃ z, cs.toList[i] = .int .u8 z ∧ (Lit.int .u8 z).wf = true := by
    intro i hi
    have hi' : i < n := by rw [← hsz]; simpa using hi
    have h1 := hx i hi'
    rw [Nat.mul_one, List.drop_eq_getElem_cons hi, List.take_succ_cons, List.take_zero, List.getElem?_eq_getElem (by omega)] at h1
    obtain ⟨x0, e0, -, w0⟩ := DataW.trod_int h8 h1
    simp only [List.cons.injEq, and_true] at e0
    exact ⟨x0, e0, w0⟩
  refine ⟨cs.toList.map fun c => match c with | .int _ z => UInt8.ofNat z.toNat | _ => 0, by simpa using hsz, ?_⟩
  congr 1
  unfold cells8
  rw [List.map_map]
  apply Array.toList_inj.1
  apply List.ext_getElem
  · simp
  · intro i h1 h2
    obtain ⟨z, e, hw⟩ := hcell i h1
    simp only [List.getElem_map, Function.comp, e]
    rw [u8_ofInt hw]
end
section
open Go Go.RowKit Go.ChangeShapes Go.WideShapes Go.ChangeAt
theorem open_u8 {P : Program} {H : Type} {enc : TypeId × Value → H} {W : World} {base base' : Nat} {sp : Nat → Bool} {held : Bool} {T : TypeId} {v : Value} {d : DataW H} {p : List MemPlace} (hu : P.underlying T = some (.int .u8))
    (h : DataW.Trod enc P W base' sp held T v d p) (hok : Value.okWide P W .any base T v) : ∃ x : UInt8, v = .int .u8 (u8 x) := by
  obtain ⟨n, rfl, -, -, hw⟩ := open_int hu hok h
  exact ⟨UInt8.ofNat n.toNat, by rw [u8_ofInt hw]⟩
theorem u32_ofInt {n : Int} (h : (Lit.int .u32 n).wf = true) : u32 (UInt32.ofNat n.toNat) = n := by
  have hx : 0 ≤ n ∧ n ≤ 4294967295 := by simpa [Lit.wf, IntKind.min, IntKind.max, IntKind.signed, IntKind.bits] using h
  unfold u32
  rw [UInt32.toNat_ofNat']
  omega
theorem open_u32 {P : Program} {H : Type} {enc : TypeId × Value → H} {W : World} {base base' : Nat} {sp : Nat → Bool} {held : Bool} {T : TypeId} {v : Value} {d : DataW H} {p : List MemPlace} (hu : P.underlying T = some (.int .u32))
    (h : DataW.Trod enc P W base' sp held T v d p) (hok : Value.okWide P W .any base T v) : ∃ x : UInt32, v = .int .u32 (u32 x) := by
  obtain ⟨n, rfl, -, -, hw⟩ := open_int hu hok h
  exact ⟨UInt32.ofNat n.toNat, by rw [u32_ofInt hw]⟩
end
end
end Go.Proofs.Ytlafnkcmdnfcpaa
