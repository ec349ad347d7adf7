/-
  Contract: spec.bytesOf.
-/
import Derived.Test.YtlafnkcmdnfcpaaLe32
import Derived.Test.YtlafnkcmdnfcpaaApp
namespace Go.Proofs.Ytlafnkcmdnfcpaa
open Go Go.RowKit
/-- words lie in block b from place o on -/
def WordsAt (w : World) (b o : Nat) (l : List UInt32) : Prop := ∀ i, i < l.length → w.cell? ⟨b, o + i, none⟩ = some (.int .u32 (u32 (l.getD i 0)))
theorem WordsAt.keeps {S : Nat → Prop} {w w' : World} {b o : Nat} {l : List UInt32} (h : WordsAt w b o l) (hk : Keeps S w w') (hs : ¬ S b) : WordsAt w' b o l :=
  fun i hi => hk.cellAt (h i hi) hs
/-- words as bytes -/
def bytesL (l : List UInt32) : List UInt8 := l.flatMap Byt.bytes32
theorem bytesL_len (l : List UInt32) : (bytesL l).length = 4 * l.length := by
  induction l with
  | nil => rfl
  | cons x l ih => simp only [bytesL, List.flatMap_cons, List.length_append] at ih ⊢; rw [ih]; simp [Byt.bytes32]; omega
theorem bytesL_snoc (l : List UInt32) (k : Nat) (h : k < l.length) : bytesL (l.take (k + 1)) = bytesL (l.take k) ++ Byt.bytes32 (l.getD k 0) := by
  rw [List.take_succ_eq_append_getElem h]
  unfold bytesL
  rw [List.flatMap_append]
  congr 1
  simp [h]
def BytesOfRel (w : World) (b o : Nat) (l : List UInt32) (v i : Value) (wr : World) : Prop :=
  ∃ k : Nat, k ≤ l.length ∧ i = .int .i64 k ∧ OwnB 5 wr w.heap.size v (bytesL (l.take k)) ∧ Fresh w wr ∧ WordsAt wr b o l
set_option maxHeartbeats 1000000 in
theorem bytesOf_c (b o n c : Nat) (l : List UInt32) (w : World) (hl : l.length = n) (hsm : (n : Int) ≤ 1000000) (h1 : WordsAt w b o l) :
    Calls Try.prog 63 #[.slice (some ⟨b, o, none⟩) n c] w (RetB 5 w (bytesL l)) := by
  obtain ⟨i0, hi, hz0, hz1, hz2⟩ := info_parts infoByte
  have HLn := Lib.hid hl
  have H1 := Lib.hid h1
  clear hl h1
  go_enter Try.func63, Try.ntmps63
  go_wp2
  go_loopw [3, 9] (fun v i wr => BytesOfRel w b o l v i wr) (fun _ i _ => n - (intOf i).toNat)
  case atStart =>
    have K := (Keeps.refl (fun _ => False) w).alloc (.cells #[] 5)
    exact ⟨0, by omega, rfl, World.ownsRow_lit w #[] 0 (Nat.le_refl _) (by decide) rfl, K, H1.out.keeps K (fun x => x)⟩
  case round =>
    obtain ⟨k, hk, rfl, hown, hf, hw⟩ := hrel
    rw [HLn.out] at hk
    have HF := Lib.hid hf
    have HW := Lib.hid hw
    by_cases hlt : k < n
    · have cx := hw k (by rw [HLn.out]; exact hlt)
      have HOwn := Lib.hid hown
      have HS := Lib.hid (bytesL_snoc l k (by rw [HLn.out]; exact hlt))
      have HLen := Lib.hid (bytesL_len (l.take k))
      have hTake : (l.take k).length = k := by rw [List.length_take, HLn.out]; omega
      have HT := Lib.hid hTake
      clear hf hw hown hTake
      go_wp2_with (at_builtin; refine wpList_append_own _ rfl (.tmp 13) (.tmp 25) 24 rfl w.heap.size 5 i0 (.int .u8 0) 1 1 Try.underlying24 hi hz0 hz1 hz2 rfl (by decide) _ _ _ rfl (HOwn.out.alloc _) ⟨wr.heap.size, 0, none⟩ 4 4 (vals8 (Byt.bytes32 (l.getD k 0))) rfl rfl ?c1 ?c2 ?c3 ?c4 ?c5 ?_)
      case c1 => exact news_at _ _ _
      case c2 => exact vals8_one _
      case c3 => rw [HLen.out, HT.out]; unfold maxLen; omega
      case c4 => rw [HLen.out, HT.out]; omega
      case c5 => have := HF.out.size; simp; omega
      intro v' w1 hown' hgrow _
      have HO := Lib.hid hown'
      have HG := Lib.hid hgrow
      clear hown' hgrow
      go_wp2
      go_roundw
      case rel =>
        have K : Keeps (fun q => w.heap.size ≤ q) wr w1 := ((Keeps.refl _ wr).alloc _).grown HG.out (fun q hq => Or.inl (HOwn.out.lt q hq).1)
        refine ⟨k + 1, by rw [HLn.out]; omega, by go_num, ?_, HF.out.then K (by intro q hq; omega), ?_⟩
        · rw [HS.out]
          unfold OwnB
          rw [List.length_append, vals8_append]
          exact HO.out
        · intro i hi
          exact K.cellAt (HW.out i hi) (by have := World.block_lt_of_cell? w _ (H1.out i hi); simp only at this ⊢; omega)
      case measure => simp [intOf]; omega
    · have K8 := Lib.hid (show k = l.length by rw [HLn.out]; omega)
      have HOwn := Lib.hid hown
      clear hf hw hown
      go_wp2
      go_ret
      have h := HOwn.out
      rw [K8.out, List.take_length] at h
      exact ⟨_, rfl, h, HF.out⟩
end Go.Proofs.Ytlafnkcmdnfcpaa
