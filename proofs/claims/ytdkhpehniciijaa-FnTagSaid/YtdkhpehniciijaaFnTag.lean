/-
  The walk of laws.FnTag.
-/
import Derived.Test.YtdkhpehniciijaaTagOf
namespace Go.Proofs.Ytdkhpehniciijaa
open Go Go.RowKit
attribute [local irreducible] tagK
set_option maxRecDepth 100000 in
theorem fnTag_c (m key : List UInt8) (v : Value) (w : World) (hl : key.length = 32) (hs : SlB w v m) (hm : m.length ≤ 140737488351232) :
    Calls Try.prog 6 #[v, .agg (cells8 key)] w fun e w' => e = .returned (.bool true) ∧ Fresh w w' := by
  have HL := Lib.hid hl
  have H1 := cells8_one key
  have HKS := Lib.hid (show (cells8 key).size = 32 by rw [cells8_size, hl])
  have HS := Lib.hid hs
  clear hl hs
  go_enter Try.func6, Try.ntmps6
  go_wp2_with fail
  refine wp_region_ord (fun w' => w'.heap[w.heap.size]? = some (.cells (cells8 key) 22 (0, 0))) [(0, true), (1, true), (3, true), (4, true), (2, false), (5, false), (6, true), (7, true)] (by kernel_rfl) (by kernel_rfl) (heap_alloc_new w _) ?_
  have HF0 : Hid (Fresh w (w.alloc (.cells (cells8 key) 22)).drew) := Lib.hid ((Keeps.refl _ w).alloc _).drew
  have HB0 : Hid ((w.alloc (.cells (cells8 key) 22)).drew.heap[w.heap.size]? = some (.cells (cells8 key) 22 (0, 0))) := Lib.hid (heap_alloc_new w _)
  refine ord_quiet rfl (fun K hK => ?_); go_simp; refine hK _ ?_; clear hK K
  refine ord_load (.agg (cells8 key)) rfl (by rfl) (fun w' hw' => exec_load_row _ _ rfl w.heap.size rfl _ _ _ hw' Try.underlying22 rfl (by rw [HKS.out]; exact info32B)) ?_
  refine ord_quiet rfl (fun K hK => ?_); go_simp; refine hK _ ?_; clear hK K
  refine ord_load (.agg (cells8 key)) rfl (by rfl) (fun w' hw' => exec_load_row _ _ rfl w.heap.size rfl _ _ _ hw' Try.underlying22 rfl (by rw [HKS.out]; exact info32B)) ?_
  refine ord_loud rfl (fun K hK => ?_)
  go_wp2_with fail
  refine (Tag_c v m key _ (HS.out.fresh HF0.out) HL.out).mono ?_
  rintro e w3 ⟨rfl, hf⟩
  have HF3 : Hid (Fresh w w3) := Lib.hid (Fresh.then HF0.out hf (fun _ _ h => h))
  have HC3 := Lib.hid (hf.at HB0.out)
  clear hf
  go_wp2_with fail
  refine hK _ _ HC3.out ?_
  clear hK K
  refine ord_loud rfl (fun K hK => ?_)
  go_wp2_with fail
  refine (TagOf_c v m key _ (HS.out.fresh HF3.out) HL.out hm).mono ?_
  rintro e w4 ⟨rfl, hf⟩
  have HF4 : Hid (Fresh w w4) := Lib.hid (Fresh.then HF3.out hf (fun _ _ h => h))
  have HC4 := Lib.hid (hf.at HC3.out)
  clear hf
  go_wp2_with fail
  refine hK _ _ HC4.out ?_
  clear hK K
  refine ord_load (.bool true) rfl (by rfl) (fun w' _ => ?_) ?_
  · exact (exec_eql16 (w := w') (.tmp 7) (.tmp 10) rfl (tagK key m) (tagK key m) rfl rfl (tagK_length _ _) (tagK_length _ _)).trans (by rw [decide_eq_true rfl])
  refine ord_quiet rfl (fun K hK => ?_); go_simp; refine hK _ ?_; clear hK K
  refine ord_last ?_
  go_wp2_with fail
  go_ret
  exact ⟨rfl, HF4.out⟩
end Go.Proofs.Ytdkhpehniciijaa
