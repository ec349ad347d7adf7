/-
  Contract: spec.rounds.
-/
import Derived.Test.YtlafnkcmdnfcpaaChaSmall
namespace Go.Proofs.Ytlafnkcmdnfcpaa
open Go Go.RowKit
theorem quarter_len (l : List UInt32) (i j k m : Nat) : (Cha.quarter l i j k m).length = l.length := by simp [Cha.quarter]
theorem dbl_len (l : List UInt32) : (Cha.dbl l).length = l.length := by simp [Cha.dbl, quarter_len]
theorem iter_len (n : Nat) (l : List UInt32) : (Cha.iter n l).length = l.length := by
  induction n with
  | zero => rfl
  | succ n ih => show (Cha.dbl (Cha.iter n l)).length = _; rw [dbl_len, ih]
theorem info16 : (Try.prog.info? 108).map (·.size) = some 16 := by kernel_rfl
/-- what the loop of rounds keeps -/
def RoundsRel (l : List UInt32) (w : World) (i : Value) (wr : World) : Prop :=
  ∃ k : Nat, k ≤ 10 ∧ i = .int .i64 k ∧ wr.heap[w.heap.size]? = some (.cells (cells32 (Cha.iter k l)) 108 (0, 0)) ∧ Room wr (w.heap.size + 1) 108 16 ∧ Fresh w wr
set_option maxHeartbeats 1000000 in
theorem rounds_c (l : List UInt32) (hl : l.length = 16) (w : World) : Calls Try.prog 61 #[.agg (cells32 l)] w fun e w' => e = .returned (.agg (cells32 (Cha.rounds l))) ∧ Fresh w w' := by
  have HL := Lib.hid hl
  clear hl
  go_enter Try.func61, Try.ntmps61
  go_wp2
  go_loopw [3] (fun i wr => RoundsRel l w i wr) (fun i _ => 10 - (intOf i).toNat)
  case atStart =>
    exact ⟨0, by omega, rfl, heap_alloc2_old w _ _, Room.of (heap_alloc2_new w _ _) rfl, ((Keeps.refl _ w).alloc _).alloc _⟩
  case round =>
    obtain ⟨k, hk, rfl, hb, hr, hf⟩ := hrel
    have HR := Lib.hid hr
    have HF := Lib.hid hf
    clear hr hf
    have HI := Lib.hid ((iter_len k l).trans HL.out)
    by_cases hlt : k < 10
    · obtain ⟨l0, hl0⟩ : ∃ l0, l0 = Cha.iter k l := ⟨_, rfl⟩
      rw [← hl0] at hb HI
      have H0 := Lib.hid hl0
      clear hl0
      have HB0 := Lib.hid hb
      clear hb
      go_wp2_with fail
      refine (quarter_at w.heap.size 108 l0 0 4 8 12 0 4 8 12 rfl rfl rfl rfl wr (by decide) HI.out HB0.out).mono ?_
      rintro e w1 ⟨rfl, hb1, hk1⟩
      have HB1 := Lib.hid hb1
      have HK1 := Lib.hid hk1
      clear hb1 hk1
      go_wp2_with fail
      refine (quarter_at w.heap.size 108 (Cha.quarter l0 0 4 8 12) 1 5 9 13 1 5 9 13 rfl rfl rfl rfl w1 (by decide) (by simp only [quarter_len]; exact HI.out) HB1.out).mono ?_
      rintro e w2 ⟨rfl, hb2, hk2⟩
      have HB2 := Lib.hid hb2
      have HK2 := Lib.hid hk2
      clear hb2 hk2
      go_wp2_with fail
      refine (quarter_at w.heap.size 108 (Cha.quarter (Cha.quarter l0 0 4 8 12) 1 5 9 13) 2 6 10 14 2 6 10 14 rfl rfl rfl rfl w2 (by decide) (by simp only [quarter_len]; exact HI.out) HB2.out).mono ?_
      rintro e w3 ⟨rfl, hb3, hk3⟩
      have HB3 := Lib.hid hb3
      have HK3 := Lib.hid hk3
      clear hb3 hk3
      go_wp2_with fail
      refine (quarter_at w.heap.size 108 (Cha.quarter (Cha.quarter (Cha.quarter l0 0 4 8 12) 1 5 9 13) 2 6 10 14) 3 7 11 15 3 7 11 15 rfl rfl rfl rfl w3 (by decide) (by simp only [quarter_len]; exact HI.out) HB3.out).mono ?_
      rintro e w4 ⟨rfl, hb4, hk4⟩
      have HB4 := Lib.hid hb4
      have HK4 := Lib.hid hk4
      clear hb4 hk4
      go_wp2_with fail
      refine (quarter_at w.heap.size 108 (Cha.quarter (Cha.quarter (Cha.quarter (Cha.quarter l0 0 4 8 12) 1 5 9 13) 2 6 10 14) 3 7 11 15) 0 5 10 15 0 5 10 15 rfl rfl rfl rfl w4 (by decide) (by simp only [quarter_len]; exact HI.out) HB4.out).mono ?_
      rintro e w5 ⟨rfl, hb5, hk5⟩
      have HB5 := Lib.hid hb5
      have HK5 := Lib.hid hk5
      clear hb5 hk5
      go_wp2_with fail
      refine (quarter_at w.heap.size 108 (Cha.quarter (Cha.quarter (Cha.quarter (Cha.quarter (Cha.quarter l0 0 4 8 12) 1 5 9 13) 2 6 10 14) 3 7 11 15) 0 5 10 15) 1 6 11 12 1 6 11 12 rfl rfl rfl rfl w5 (by decide) (by simp only [quarter_len]; exact HI.out) HB5.out).mono ?_
      rintro e w6 ⟨rfl, hb6, hk6⟩
      have HB6 := Lib.hid hb6
      have HK6 := Lib.hid hk6
      clear hb6 hk6
      go_wp2_with fail
      refine (quarter_at w.heap.size 108 (Cha.quarter (Cha.quarter (Cha.quarter (Cha.quarter (Cha.quarter (Cha.quarter l0 0 4 8 12) 1 5 9 13) 2 6 10 14) 3 7 11 15) 0 5 10 15) 1 6 11 12) 2 7 8 13 2 7 8 13 rfl rfl rfl rfl w6 (by decide) (by simp only [quarter_len]; exact HI.out) HB6.out).mono ?_
      rintro e w7 ⟨rfl, hb7, hk7⟩
      have HB7 := Lib.hid hb7
      have HK7 := Lib.hid hk7
      clear hb7 hk7
      go_wp2_with fail
      refine (quarter_at w.heap.size 108 (Cha.quarter (Cha.quarter (Cha.quarter (Cha.quarter (Cha.quarter (Cha.quarter (Cha.quarter l0 0 4 8 12) 1 5 9 13) 2 6 10 14) 3 7 11 15) 0 5 10 15) 1 6 11 12) 2 7 8 13) 3 4 9 14 3 4 9 14 rfl rfl rfl rfl w7 (by decide) (by simp only [quarter_len]; exact HI.out) HB7.out).mono ?_
      rintro e w8 ⟨rfl, hb8, hk8⟩
      have HB8 := Lib.hid hb8
      have HK8 := Lib.hid hk8
      clear hb8 hk8
      go_wp2_with fail
      go_roundw
      case rel =>
        have K : Keeps (fun q => q = w.heap.size) wr w8 := (((((((HK1.out.trans HK2.out).trans HK3.out).trans HK4.out).trans HK5.out).trans HK6.out).trans HK7.out).trans HK8.out)
        refine ⟨k + 1, by omega, by go_num, ?_, HR.out.keeps K (by omega), HF.out.then K (by intro q hq; omega)⟩
        rw [show Cha.iter (k + 1) l = Cha.dbl (Cha.iter k l) from rfl, ← H0.out]
        exact HB8.out
      case measure => simp [intOf]; omega
    · obtain rfl : k = 10 := by omega
      obtain ⟨old, hos, hb2⟩ := HR.out
      have HB0 := Lib.hid hb
      have HB2 := Lib.hid hb2
      clear hb hb2
      go_wp2_with (first
        | (refine wpList_load_row rfl 108 (.tmp 1) rfl w.heap.size rfl 108 (cells32 (Cha.iter 10 l)) (0, 0) _ HB0.out Try.underlying108 rfl ?_ ?_; (rw [cells32_size, HI.out]; exact info16))
        | (refine wpList_store_row rfl 108 (.tmp 2) (.tmp 14) rfl (w.heap.size + 1) (cells32 (Cha.iter 10 l)) rfl rfl 108 old HB2.out ?_ ?_ (cells32_one _) ?_; (rw [cells32_size, HI.out]; exact info16); (rw [cells32_size, HI.out]; exact hos)))
      refine bodyPost_ret (results_cell_row (g := w.heap.size + 1) rfl _ _ 108 (cells32 (Cha.iter 10 l)) (0, 0) _ rfl (row_heap HB2.out) Try.underlying108 rfl ?_) rfl ?_
      · rw [cells32_size, HI.out]; exact info16
      · exact ⟨rfl, HF.out.setRow (Or.inr (by omega)) _⟩
end Go.Proofs.Ytlafnkcmdnfcpaa
