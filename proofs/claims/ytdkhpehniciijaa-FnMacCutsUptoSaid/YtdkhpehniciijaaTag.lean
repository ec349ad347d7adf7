/-
  Contract: impl.Tag.
-/
import Derived.Test.YtdkhpehniciijaaMacM
import Derived.Laws.Rows
import Derived.Laws.Tables
namespace Go.Proofs.Ytdkhpehniciijaa
open Go Go.RowKit
theorem info32B : (Try.prog.info? 22).map (·.size) = some 32 := by kernel_rfl
theorem info16B : (Try.prog.info? 25).map (·.size) = some 16 := by kernel_rfl
theorem tagK_length (key l : List UInt8) : (tagK key l).length = 16 := tagB_length _ _ _
/-- sixteen noughts -/
abbrev Z16 : Obj := .cells (cells8 (List.replicate 16 0)) 25
theorem heap_alloc3_new (w : World) (A B C : Obj) : (((w.alloc A).alloc B).alloc C).heap[w.heap.size + 1 + 1]? = some C := by
  have := heap_alloc_new ((w.alloc A).alloc B) C
  simpa using this
attribute [local irreducible] tagK tagB
set_option maxRecDepth 100000 in
theorem Tag_c (v : Value) (m key : List UInt8) (w : World) (hs : SlB w v m) (hl : key.length = 32) :
    Calls Try.prog 16 #[v, .agg (cells8 key)] w fun e w' => e = .returned (.agg (cells8 (tagK key m))) ∧ Fresh w w' := by
  have HS := Lib.hid hs
  have HL := Lib.hid hl
  have H1 := cells8_one key
  clear hs hl
  go_enter Try.func16, Try.ntmps16
  go_wp2_with fail
  have hK : ∀ A B C : Obj, Fresh w (((w.alloc A).alloc B).alloc C) := fun A B C => (((Keeps.refl _ w).alloc A).alloc B).alloc C
  refine (PSum_c (w.heap.size + 1 + 1) w.heap.size key m (List.replicate 16 0) v (((w.alloc (.cells (cells8 key) 22)).alloc Z16).alloc Z16) 25 (heap_alloc3_new w _ _ _) rfl (BytesIn.of (block_alloc (block_alloc (heap_alloc_new w _)))) HL.out (by simp; omega) (HS.out.fresh (hK _ _ _))).mono ?_
  rintro e w1 ⟨rfl, hb, hk⟩
  have HB := Lib.hid hb
  have HR := Lib.hid (hk.at (k := w.heap.size + 1) (block_alloc (heap_alloc2_new w _ _)) (by omega))
  have HF : Hid (Fresh w w1) := Lib.hid ((hK _ _ _).then hk (fun q hq e => by omega))
  have HTL := Lib.hid (show (cells8 (tagK key m)).size = 16 by rw [cells8_size, tagK_length])
  clear hb hk hK
  go_wp2_with (first
    | (refine wpList_load_row rfl 25 (.tmp 5) rfl (w.heap.size + 1 + 1) rfl 25 (cells8 (tagK key m)) (0, 0) _ HB.out Try.underlying25 rfl ?_ ?_; (rw [HTL.out]; exact info16B))
    | (refine wpList_store_row rfl 25 (.tmp 4) (.tmp 8) rfl (w.heap.size + 1) (cells8 (tagK key m)) rfl rfl 25 _ HR.out ?_ ?_ (cells8_one _) ?_; (rw [HTL.out]; exact info16B); (rw [HTL.out]; rfl)))
  refine bodyPost_ret (results_cell_row (g := w.heap.size + 1) rfl _ _ 25 (cells8 (tagK key m)) (0, 0) _ rfl (row_heap HR.out) Try.underlying25 rfl ?_) rfl ?_
  · rw [HTL.out]; exact info16B
  · exact ⟨rfl, HF.out.setRow (Or.inr (by omega)) _⟩
end Go.Proofs.Ytdkhpehniciijaa
