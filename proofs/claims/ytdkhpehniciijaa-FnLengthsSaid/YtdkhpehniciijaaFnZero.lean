/-
  The walk of laws.FnZero.
-/
import Derived.Test.YtdkhpehniciijaaArrEq
import Derived.Test.YtdkhpehniciijaaTagLaws
import Derived.Test.YtdkhpehniciijaaCopy2
namespace Go.Proofs.Ytdkhpehniciijaa
open Go Go.RowKit
theorem exec_eql16 {o : Oper} {a : Act} {w : World} (x y : Operand) (ho : o.op = .binOp .eql 25 x y 25) (l1 l2 : List UInt8) (hx : a.eval x = .agg (cells8 l1)) (hy : a.eval y = .agg (cells8 l2)) (h1 : l1.length = 16) (h2 : l2.length = 16) :
    (execOp a.eval o).run Try.prog w = .ok (.value (.bool (decide (l1 = l2)))) w := by
  unfold execOp
  have hg : (eqGuard .eql 25 x y (.agg (cells8 l1)) (.agg (cells8 l2))).run Try.prog w = .ok () w := by
    simp [eqGuard]
  simp only [ho, hx, hy, Sem.run_bind, hg, run_eql16 l1 l2 h1 h2, Result.andThen_ok, Sem.run_pure]
theorem tag_zero' (last m : List UInt8) (h : last.length = 16) : tagK (List.replicate 16 0 ++ last) m = last := by
  rw [tag_zero _ m (by rw [List.take_append_of_le_length (by simp)]; simp) (by simp [h]), List.drop_append_of_le_length (by simp)]
  simp
theorem zero_key (last : List UInt8) (h : last.length = 16) : splice (vals8 (List.replicate 32 0)) 16 (vals8 (last.take 16)) = vals8 (List.replicate 16 0 ++ last) := by
  have e : last.take 16 = last := List.take_of_length_le (by omega)
  unfold splice
  rw [e, vals8_len, h, vals8_append]
  have e1 : (vals8 (List.replicate 32 0)).take 16 = vals8 (List.replicate 16 0) := rfl
  have e2 : (vals8 (List.replicate 32 0)).drop (16 + 16) = [] := rfl
  rw [e1, e2, List.append_nil]
attribute [local irreducible] tagK tagB splice
set_option maxRecDepth 100000 in
theorem fnZero_c (last m : List UInt8) (v : Value) (w : World) (hl : last.length = 16) (hs : SlB w v m) :
    Calls Try.prog 7 #[.agg (cells8 last), v] w fun e w' => e = .returned (.bool true) ∧ Fresh w w' := by
  have HL := Lib.hid hl
  have H1 := cells8_one last
  have HKL := Lib.hid (show (List.replicate 16 (0 : UInt8) ++ last).length = 32 by simp [hl])
  have HT := Lib.hid (tag_zero' last m hl)
  have HKS := Lib.hid (show (cells8 (List.replicate 16 (0 : UInt8) ++ last)).size = 32 by rw [cells8_size, HKL.out])
  have HTS := Lib.hid (show (cells8 last).size = 16 by rw [cells8_size, hl])
  have HZ := Lib.hid (zero_key last hl)
  have HS := Lib.hid hs
  clear hl hs
  go_enter Try.func7, Try.ntmps7
  go_wp2_with (refine wpList_store_row rfl 22 (.tmp 5) (.tmp 6) rfl (w.heap.size + 1) (vals8 (List.replicate 32 0)).toArray rfl rfl 22 _ (heap_alloc2_new w _ _) info32B rfl (cells8_one _) ?_)
  have HF0 : Hid (Fresh w (((w.alloc (.cells (cells8 last) 25)).alloc (.cells (vals8 (List.replicate 32 0)).toArray 22)).setRow (w.heap.size + 1) (vals8 (List.replicate 32 0)).toArray)) := Lib.hid ((((Keeps.refl _ w).alloc _).alloc _).setRow (Or.inr (Nat.le_succ _)) _)
  have HBK : Hid ((((w.alloc (.cells (cells8 last) 25)).alloc (.cells (vals8 (List.replicate 32 0)).toArray 22)).setRow (w.heap.size + 1) (vals8 (List.replicate 32 0)).toArray).heap[w.heap.size + 1]? = some (.cells (vals8 (List.replicate 32 0)).toArray 22 (0, 0))) := Lib.hid (row_heap (heap_alloc2_new w _ _))
  have HBL : Hid ((((w.alloc (.cells (cells8 last) 25)).alloc (.cells (vals8 (List.replicate 32 0)).toArray 22)).setRow (w.heap.size + 1) (vals8 (List.replicate 32 0)).toArray).heap[w.heap.size]? = some (.cells (cells8 last) 25 (0, 0))) := Lib.hid (by rw [setRow_other _ _ _ _ (by omega)]; exact block_alloc (heap_alloc_new w _))
  refine wp_region_tailD 2 (by kernel_rfl) (by kernel_rfl) ?_
  simp only [List.take_succ_cons, List.take_zero, List.drop_succ_cons, List.drop_zero]
  repeat (quiet_step (fail))
  refine wpQuiet_nil ?_
  rintro _ ⟨m0, rfl⟩
  refine wpList_copyB rfl (.tmp 7) (.tmp 8) 23 23 rfl 5 (by kernel_rfl) (by kernel_rfl) (w.heap.size + 1) 16 16 16 _ last rfl rfl (SlB.all16 (block_drewN HBL.out) HL.out) (vals8 (List.replicate 32 0)) 22 (block_drewN HBK.out) (by rw [HL.out]; decide) ?_
  intro w1 HG HK
  have HB1 : Hid (w1.heap[w.heap.size + 1]? = some (.cells (cells8 (List.replicate 16 0 ++ last)) 22 (0, 0))) := Lib.hid (by have h := HG.out; rw [HZ.out] at h; exact h)
  have HB0 : Hid (w1.heap[w.heap.size]? = some (.cells (cells8 last) 25 (0, 0))) := Lib.hid (HK.out.at (block_drewN HBL.out) (by omega))
  have HF1 : Hid (Fresh w w1) := Lib.hid (Fresh.then (HF0.out.drewN m0) HK.out (fun q hq e => by omega))
  clear HG HK HF0 HBL HBK
  go_wp2_with fail
  refine wp_region_ord (fun w' => w'.heap[w.heap.size + 1]? = some (.cells (cells8 (List.replicate 16 0 ++ last)) 22 (0, 0)) ∧ w'.heap[w.heap.size]? = some (.cells (cells8 last) 25 (0, 0))) [(0, true), (1, true), (3, true), (2, false), (4, true), (5, true)] (by kernel_rfl) (by kernel_rfl) ⟨HB1.out, HB0.out⟩ ?_
  refine ord_quiet rfl (fun K hK => ?_); go_simp; refine hK _ ?_; clear hK K
  refine ord_load (.agg (cells8 (List.replicate 16 0 ++ last))) rfl (by rfl) (fun w' hw' => exec_load_row _ _ rfl (w.heap.size + 1) rfl _ _ _ hw'.1 Try.underlying22 rfl (by rw [HKS.out]; exact info32B)) ?_
  refine ord_load (.agg (cells8 last)) rfl (by rfl) (fun w' hw' => exec_load_row _ _ rfl w.heap.size rfl _ _ _ hw'.2 Try.underlying25 rfl (by rw [HTS.out]; exact info16B)) ?_
  refine ord_loud rfl (fun K hK => ?_)
  go_wp2_with fail
  refine (Tag_c v m (List.replicate 16 0 ++ last) _ (HS.out.fresh HF1.out.drew) HKL.out).mono ?_
  rintro e w2 ⟨rfl, hf⟩
  have HF2 : Hid (Fresh w w2) := Lib.hid (Fresh.then HF1.out.drew hf (fun _ _ h => h))
  have HC : Hid (w2.heap[w.heap.size + 1]? = some (.cells (cells8 (List.replicate 16 0 ++ last)) 22 (0, 0)) ∧ w2.heap[w.heap.size]? = some (.cells (cells8 last) 25 (0, 0))) := Lib.hid ⟨hf.at HB1.out, hf.at HB0.out⟩
  clear hf
  go_wp2_with fail
  refine hK _ _ HC.out ?_
  clear hK K
  refine ord_load (.bool true) rfl (by rfl) (fun w' _ => ?_) ?_
  · exact (exec_eql16 (w := w') (.tmp 12) (.tmp 13) rfl (tagK (List.replicate 16 0 ++ last) m) last rfl rfl (tagK_length _ _) HL.out).trans (by rw [decide_eq_true HT.out])
  refine ord_quiet rfl (fun K hK => ?_); go_simp; refine hK _ ?_; clear hK K
  refine ord_last ?_
  go_wp2_with fail
  go_ret
  exact ⟨rfl, HF2.out⟩
end Go.Proofs.Ytdkhpehniciijaa
