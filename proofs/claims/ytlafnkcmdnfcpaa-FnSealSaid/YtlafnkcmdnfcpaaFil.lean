/-
  Contract: impl.filled.
-/
import Derived.Test.YtlafnkcmdnfcpaaRunP
import Derived.Test.YtlafnkcmdnfcpaaApp
namespace Go.Proofs.Ytlafnkcmdnfcpaa
open Go Go.RowKit
attribute [local irreducible] Cha.iter Cha.rounds Cha.dbl Cha.qr
theorem SlB.one (w : World) (x : UInt8) (T : TypeId) : SlB (w.alloc (.cells #[.int .u8 (u8 x)] T)) (.slice (some ⟨w.heap.size, 0, none⟩) 1 1) [x] := by
  refine Or.inr ⟨_, 1, rfl, Nat.le_refl _, by decide, ?_⟩
  intro j u hu
  exact news_at w #[.int .u8 (u8 x)] T j u hu
theorem fillB_len (n : Nat) : (fillB n).length = n := by simp [fillB]
theorem fillB_snoc (n : Nat) : fillB n ++ [165] = fillB (n + 1) := by unfold fillB; rw [List.replicate_succ']
def FilRel (w : World) (N : Nat) (v i : Value) (wr : World) : Prop := ∃ k : Nat, k ≤ N ∧ i = .int .i64 k ∧ OwnB 5 wr w.heap.size v (fillB k) ∧ Fresh w wr
set_option maxHeartbeats 1000000 in
theorem filled_n (N : Nat) (w : World) (hN : N ≤ 140737488355328) :
    Calls Try.prog 52 #[.int .i64 (N : Int)] w (RetB 5 w (fillB N)) := by
  have hmx : ¬ (N : Int) < 0 := by omega
  go_enter Try.func52, Try.ntmps52
  go_wp2_with fail
  go_loopw [3, 6] (fun v i wr => FilRel w N v i wr) (fun _ i _ => N - (intOf i).toNat)
  case atStart => exact ⟨0, Nat.zero_le _, rfl, World.ownsRow_nil _ _ _ _, Keeps.refl _ w⟩
  case round =>
    obtain ⟨k, hk, rfl, hown, hf⟩ := hrel
    have HF := Lib.hid hf
    have HO := Lib.hid hown
    have hsz := hf.size
    clear hf hown
    by_cases hlt : k < N
    · have HO1 : Hid (OwnB 5 (wr.alloc (.cells #[.int .u8 165] 5)) w.heap.size u3 (fillB k)) := Lib.hid (OwnB.kept HO.out (((Keeps.refl (fun _ => False) _).alloc _)) (fun _ _ x => x))
      go_wp2_with (at_builtin; refine wpList_appB rfl (.tmp 8) (.tmp 9) rfl w.heap.size _ _ (fillB k) [165] rfl rfl HO1.out (SlB.one _ 165 _) (by rw [fillB_len]; simp; omega) (by simp; omega) ?_; intro v1 w1 hA)
      go_roundw
      case rel =>
        have ho := hA.1
        rw [fillB_snoc] at ho
        exact ⟨k + 1, by omega, by go_num, ho, Fresh.then (HF.out.alloc _) hA.2.1 (by intro q hq; omega)⟩
      case measure => simp [intOf]; omega
    · have hkn : k = N := by omega
      subst hkn
      go_wp2_with fail
      go_ret
      exact ⟨_, rfl, HO.out, HF.out⟩
theorem filled_neg (n : Int) (w : World) (hn : n < 0) :
    Calls Try.prog 52 #[.int .i64 n] w (RetB 5 w (fillB 0)) := by
  go_enter Try.func52, Try.ntmps52
  go_wp2_with fail
  go_loopw [3, 6] (fun v i wr => FilRel w 0 v i wr) (fun _ i _ => 0 - (intOf i).toNat)
  case atStart => exact ⟨0, Nat.zero_le _, rfl, World.ownsRow_nil _ _ _ _, Keeps.refl _ w⟩
  case round =>
    obtain ⟨k, hk, rfl, hown, hf⟩ := hrel
    obtain rfl : k = 0 := by omega
    have HF := Lib.hid hf
    have HO := Lib.hid hown
    clear hf hown
    go_wp2_with fail
    go_ret
    exact ⟨_, rfl, HO.out, HF.out⟩
theorem filled_c (n : Int) (w : World) (hn : n ≤ 140737488355328) :
    Calls Try.prog 52 #[.int .i64 n] w (RetB 5 w (fillB n.toNat)) := by
  by_cases h : n < 0
  · rw [show n.toNat = 0 by omega]
    exact filled_neg n w h
  · obtain ⟨N, rfl⟩ : ∃ N : Nat, n = N := ⟨n.toNat, by omega⟩
    exact filled_n N w (by omega)
end Go.Proofs.Ytlafnkcmdnfcpaa
