/-
  Contract: spec.prime.
-/
import Derived.Test.YtdkhpehniciijaaLess
namespace Go.Proofs.Ytdkhpehniciijaa
open Go Go.RowKit
def primeL : List Nat := 251 :: (List.replicate 15 255 ++ [3])
theorem primeL_dig : primeL = Dig.dig Poly.prime := by
  have h1 : Dig.Small primeL := by
    intro d hd
    have h : ∀ d ∈ primeL, d < 256 := by decide
    exact h d hd
  have h2 : Dig.val primeL = Poly.prime := by decide
  have h3 : Dig.strip primeL = primeL := by decide
  rw [← h2, ← Dig.strip_eq_dig _ h1, h3]
def PrimeRel (w : World) (v i : Value) (wr : World) : Prop :=
  ∃ k : Nat, k ≤ 15 ∧ i = .int .i64 k ∧ OwnI wr w.heap.size v (251 :: List.replicate k 255) ∧ Fresh w wr
set_option maxRecDepth 100000 in
theorem prime_c (w : World) : Calls Try.prog 36 #[] w (RetI w (Dig.dig Poly.prime)) := by
  go_enter Try.func36, Try.ntmps36
  go_wp2_with fail
  go_loopw [1, 3] (fun v i wr => PrimeRel w v i wr) (fun _ i _ => 15 - (intOf i).toNat)
  case atStart => exact ⟨0, by omega, rfl, World.ownsRow_lit w #[.int .i64 251] 1 (Nat.le_refl _) (by decide) rfl, (Keeps.refl _ w).alloc _⟩
  case round =>
    obtain ⟨k, hk, rfl, hown, hf⟩ := hrel
    have HOWN := Lib.hid hown
    have HF := Lib.hid hf
    have HRL : Hid ((251 :: List.replicate k 255).length ≤ 1000000) := Lib.hid (by simp; omega)
    clear hown hf
    by_cases hlt : k < 15
    · have i1 : (k : Int) < 15 := by omega
      go_wp2_with (at_builtin; refine wpList_appI rfl (.tmp 5) (.tmp 6) rfl w.heap.size _ (251 :: List.replicate k 255) 255 wr.heap.size rfl rfl (OwnI.kept HOWN.out ((Keeps.refl (fun _ => False) wr).alloc _) (fun _ _ h => h)) (heap_alloc_new wr _) HRL.out (by have := HF.out.size; simp; omega) ?_; intro v' w1 HO HK)
      refine ⟨⟨k + 1, by omega, by go_num, ?_, HF.out.then (((Keeps.refl _ wr).alloc _).trans HK.out) (fun q hq h => by omega)⟩, by simp [intOf]; omega⟩
      have h := HO.out
      rw [List.cons_append, ← List.replicate_succ'] at h
      exact h
    · have K15 := Lib.hid (show k = 15 by omega)
      have i1 : ¬ (k : Int) < 15 := by omega
      go_wp2_with (at_builtin; refine wpList_appI rfl (.tmp 9) (.tmp 10) rfl w.heap.size _ (251 :: List.replicate k 255) 3 wr.heap.size rfl rfl (OwnI.kept HOWN.out ((Keeps.refl (fun _ => False) wr).alloc _) (fun _ _ h => h)) (heap_alloc_new wr _) HRL.out (by have := HF.out.size; simp; omega) ?_; intro v' w1 HO HK)
      go_ret
      refine ⟨_, rfl, ?_, HF.out.then (((Keeps.refl _ wr).alloc _).trans HK.out) (fun q hq h => by omega)⟩
      have h := HO.out.sl
      rw [K15.out] at h
      rw [← primeL_dig]
      exact h
end Go.Proofs.Ytdkhpehniciijaa
