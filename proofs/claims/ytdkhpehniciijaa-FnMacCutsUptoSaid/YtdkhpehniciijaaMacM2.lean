/-
  Contracts: MAC.Sum onto owned bytes, MAC.Verify, MAC.Size.
-/
import Derived.Test.YtdkhpehniciijaaCtc
namespace Go.Proofs.Ytdkhpehniciijaa
open Go Go.RowKit
attribute [local irreducible] tagK
set_option maxRecDepth 100000 in
/-- Sum, onto owned bytes -/
theorem MSum_own (b base : Nat) (key l r : List UInt8) (fin : Bool) (v : Value) (w : World) (hmac : MacK key w b l fin) (hown : OwnB 5 w base v r) (hb : b < base) (hbase : base ≤ w.heap.size) (hr : r.length ≤ 140737488355000) :
    Calls Try.prog 34 #[.pointer (some ⟨b, 0, none⟩), v] w fun e w' =>
      ∃ v', e = .returned v' ∧ OwnB 5 w' base v' (r ++ tagK key l) ∧ MacK key w' b l true ∧ Keeps (fun q => q = b ∨ base ≤ q) w w' := by
  have HM := Lib.hid hmac
  have HO := Lib.hid hown
  have hltb : b < w.heap.size := hmac.lt
  clear hmac hown
  go_enter Try.func34, Try.ntmps34
  go_wp2_with fail
  have HF0 : Hid (Fresh w (w.alloc (.cells (cells8 (List.replicate 16 0)) 25))) := Lib.hid ((Keeps.refl _ w).alloc _)
  refine (gSumM b w.heap.size key l (List.replicate 16 0) fin _ 25 (Mac.keeps HM.out HF0.out (fun x => x)) (heap_alloc_new w _) rfl).mono ?_
  rintro e w1 ⟨rfl, hk, hg⟩
  have HG := Lib.hid hg
  have HF1 : Hid (Fresh w w1) := Lib.hid (HF0.out.then hk (fun q hq e => by omega))
  clear hk hg HF0
  have HM1 := Lib.hid (Mac.keeps HM.out HF1.out (fun x => x))
  obtain ⟨c24, f24⟩ := Mac.c24 HM1.out
  have HM2 := Lib.hid (Mac.close HM1.out)
  have hlt1 : b < w1.heap.size := Nat.lt_of_lt_of_le hltb HF1.out.size
  have HG2 := Lib.hid (block_set_other (v := .bool true) (p := ⟨b, 24, none⟩) HG.out (Nat.ne_of_gt hltb))
  have HKS : Hid (Keeps (fun q => q = b) w1 (w1.setCell ⟨b, 24, none⟩ (.bool true))) := Lib.hid ((Keeps.refl _ w1).own _)
  go_wp2_with (at_builtin; refine wpList_appB rfl (.tmp 14) (.tmp 15) rfl base _ _ r (tagK key l) rfl rfl (OwnB.kept (OwnB.kept HO.out HF1.out (fun _ _ h => h)) HKS.out (fun k hk e => by omega)) (SlB.all16 HG2.out (tagK_length _ _)) (by rw [tagK_length]; omega) (by have := HF1.out.size; simp; omega) ?_; intro v3 w3 hA)
  go_ret
  refine ⟨_, rfl, hA.1, Mac.keeps HM2.out hA.2.1 (by omega), ?_⟩
  exact ((Fresh.to HF1.out).trans (HKS.out.mono (fun k _ h => Or.inl h))).trans (hA.2.1.mono (fun k _ h => Or.inr h))
set_option maxRecDepth 100000 in
/-- Verify -/
theorem MVerify_c (b : Nat) (key l x : List UInt8) (fin : Bool) (v : Value) (w : World) (hmac : MacK key w b l fin) (hs : SlB w v x) (hv : 0 < x.length → v.ownBlock ≠ some b) :
    Calls Try.prog 43 #[.pointer (some ⟨b, 0, none⟩), v] w fun e w' =>
      e = .returned (.bool (decide (x = tagK key l))) ∧ MacK key w' b l true ∧ Keeps (fun q => q = b) w w' := by
  have HM := Lib.hid hmac
  have HS := Lib.hid hs
  have HV := Lib.hid hv
  have hltb : b < w.heap.size := hmac.lt
  clear hmac hs hv
  go_enter Try.func43, Try.ntmps43
  go_wp2_with fail
  have HF0 : Hid (Fresh w (w.alloc (.cells (cells8 (List.replicate 16 0)) 25))) := Lib.hid ((Keeps.refl _ w).alloc _)
  refine (gSumM b w.heap.size key l (List.replicate 16 0) fin _ 25 (Mac.keeps HM.out HF0.out (fun x => x)) (heap_alloc_new w _) rfl).mono ?_
  rintro e w1 ⟨rfl, hk, hg⟩
  have HG := Lib.hid hg
  have HF1 : Hid (Fresh w w1) := Lib.hid (HF0.out.then hk (fun q hq e => by omega))
  clear hk hg HF0
  have HM1 := Lib.hid (Mac.keeps HM.out HF1.out (fun x => x))
  obtain ⟨c24, f24⟩ := Mac.c24 HM1.out
  have HM2 := Lib.hid (Mac.close HM1.out)
  have hlt1 : b < w1.heap.size := Nat.lt_of_lt_of_le hltb HF1.out.size
  have HG2 := Lib.hid (block_set_other (v := .bool true) (p := ⟨b, 24, none⟩) HG.out (Nat.ne_of_gt hltb))
  have HKS : Hid (Keeps (fun q => q = b) w1 (w1.setCell ⟨b, 24, none⟩ (.bool true))) := Lib.hid ((Keeps.refl _ w1).own _)
  have HS2 : Hid (SlB (w1.setCell ⟨b, 24, none⟩ (.bool true)) v x) := Lib.hid (by
    by_cases h0 : 0 < x.length
    · exact (HS.out.fresh HF1.out).keeps HKS.out (fun k hk _ e => HV.out h0 (by rw [hk, e]))
    · have hx : x = [] := List.eq_nil_of_length_eq_zero (by omega)
      subst hx
      rcases HS.out with ⟨rfl, -⟩ | ⟨ad, c, rfl, h1, h2, -⟩
      · exact SlB.nil _
      · exact SlB.none_of h2)
  go_wp2_with fail
  refine (Ctc_c _ _ x (tagK key l) _ HS2.out (SlB.all16 HG2.out (tagK_length _ _))).mono ?_
  rintro e w2 ⟨rfl, hf2⟩
  have HM3 := Lib.hid (Mac.keeps HM2.out hf2 (fun x => x))
  have HK3 : Hid (Keeps (fun q => q = b) w w2) := Lib.hid (((Fresh.to HF1.out).trans HKS.out).trans (Fresh.to hf2))
  clear hf2
  by_cases he : x = tagK key l
  · have h1 : eqI x (tagK key l) = 1 := eqI_pos he
    have HE := Lib.hid he
    rw [h1]
    clear he h1
    go_wp2_with fail
    go_ret
    exact ⟨congrArg (fun b => Ending.returned (Value.bool b)) (decide_eq_true HE.out).symm, HM3.out, HK3.out⟩
  · have h1 : eqI x (tagK key l) = 0 := eqI_neg he
    have HE := Lib.hid he
    rw [h1]
    clear he h1
    go_wp2_with fail
    go_ret
    exact ⟨congrArg (fun b => Ending.returned (Value.bool b)) (decide_eq_false HE.out).symm, HM3.out, HK3.out⟩
theorem MSize_c (p : Value) (w : World) : Calls Try.prog 44 #[p] w fun e w' => e = .returned (.int .i64 16) ∧ w' = w := by
  go_enter Try.func44, Try.ntmps44
  go_wp2_with fail
  go_ret
  exact ⟨rfl, rfl⟩
end Go.Proofs.Ytdkhpehniciijaa
