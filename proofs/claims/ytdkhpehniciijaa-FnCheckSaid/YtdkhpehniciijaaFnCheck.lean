/-
  The walk of laws.FnCheck.
-/
import Derived.Test.YtdkhpehniciijaaTagOf
import Derived.Test.YtdkhpehniciijaaCtc
namespace Go.Proofs.Ytdkhpehniciijaa
open Go Go.RowKit
attribute [local irreducible] tagK
set_option maxRecDepth 100000 in
set_option maxHeartbeats 1000000 in
theorem fnCheck_c (mac m key : List UInt8) (v : Value) (w : World) (hml : mac.length = 16) (hl : key.length = 32) (hs : SlB w v m) (hm : m.length ≤ 140737488351232) :
    Calls Try.prog 8 #[.agg (cells8 mac), v, .agg (cells8 key)] w fun e w' => e = .returned (.bool true) ∧ Fresh w w' := by
  have HL := Lib.hid hl
  have HML := Lib.hid hml
  have H1 := cells8_one key
  have H2 := cells8_one mac
  have HKS := Lib.hid (show (cells8 key).size = 32 by rw [cells8_size, hl])
  have HMS := Lib.hid (show (cells8 mac).size = 16 by rw [cells8_size, hml])
  have HS := Lib.hid hs
  clear hl hs hml
  go_enter Try.func8, Try.ntmps8
  go_wp2_with fail
  have HF0 : Hid (Fresh w ((w.alloc (.cells (cells8 mac) 25)).alloc (.cells (cells8 key) 22)).drew) := Lib.hid (((Keeps.refl _ w).alloc _).alloc _).drew
  have HC0 : Hid (((w.alloc (.cells (cells8 mac) 25)).alloc (.cells (cells8 key) 22)).drew.heap[w.heap.size]? = some (.cells (cells8 mac) 25 (0, 0)) ∧ ((w.alloc (.cells (cells8 mac) 25)).alloc (.cells (cells8 key) 22)).drew.heap[w.heap.size + 1]? = some (.cells (cells8 key) 22 (0, 0))) := Lib.hid ⟨block_alloc (heap_alloc_new w _), heap_alloc2_new w _ _⟩
  refine wp_region_ord (fun w' => w'.heap[w.heap.size]? = some (.cells (cells8 mac) 25 (0, 0)) ∧ w'.heap[w.heap.size + 1]? = some (.cells (cells8 key) 22 (0, 0))) [(0, true), (1, true), (2, true), (4, true), (5, true), (6, true), (3, false), (7, false), (8, true), (9, true), (10, true), (11, true), (12, true), (14, true), (15, true), (13, false), (16, false), (17, true), (18, true)] (by kernel_rfl) (by kernel_rfl) HC0.out ?_
  refine ord_load (.agg (cells8 mac)) rfl (by rfl) (fun w' hw' => exec_load_row _ _ rfl w.heap.size rfl _ _ _ hw'.1 Try.underlying25 rfl (by rw [HMS.out]; exact info16B)) ?_
  refine ord_quiet rfl (fun K hK => ?_); go_simp; refine hK _ ?_; clear hK K
  refine ord_load (.agg (cells8 key)) rfl (by rfl) (fun w' hw' => exec_load_row _ _ rfl (w.heap.size + 1) rfl _ _ _ hw'.2 Try.underlying22 rfl (by rw [HKS.out]; exact info32B)) ?_
  refine ord_load (.agg (cells8 mac)) rfl (by rfl) (fun w' hw' => exec_load_row _ _ rfl w.heap.size rfl _ _ _ hw'.1 Try.underlying25 rfl (by rw [HMS.out]; exact info16B)) ?_
  refine ord_quiet rfl (fun K hK => ?_); go_simp; refine hK _ ?_; clear hK K
  refine ord_load (.agg (cells8 key)) rfl (by rfl) (fun w' hw' => exec_load_row _ _ rfl (w.heap.size + 1) rfl _ _ _ hw'.2 Try.underlying22 rfl (by rw [HKS.out]; exact info32B)) ?_
  refine ord_loud rfl (fun K hK => ?_)
  go_wp2_with fail
  refine (Check_c v mac m key _ (HS.out.fresh HF0.out) HL.out HML.out).mono ?_
  rintro e w3 ⟨rfl, hf⟩
  have HF3 : Hid (Fresh w w3) := Lib.hid (Fresh.then HF0.out hf (fun _ _ h => h))
  have HC3 := Lib.hid (And.intro (hf.at HC0.out.1) (hf.at HC0.out.2))
  clear hf
  go_wp2_with fail
  refine hK _ _ HC3.out ?_
  clear hK K
  refine ord_loud rfl (fun K hK => ?_)
  go_wp2_with fail
  refine (TagOf_c v m key _ (HS.out.fresh HF3.out) HL.out hm).mono ?_
  rintro e w4 ⟨rfl, hf⟩
  have HF4 : Hid (Fresh w w4) := Lib.hid (Fresh.then HF3.out hf (fun _ _ h => h))
  have HC4 := Lib.hid (And.intro (hf.at HC3.out.1) (hf.at HC3.out.2))
  clear hf
  go_wp2_with fail
  refine hK _ _ HC4.out ?_
  clear hK K
  refine ord_load (.bool (decide (mac = tagK key m))) rfl (by rfl) (fun w' _ => exec_eql16 (w := w') (.tmp 11) (.tmp 14) rfl mac (tagK key m) rfl rfl HML.out (tagK_length _ _)) ?_
  refine ord_quiet rfl (fun K hK => ?_); go_simp; refine hK _ ?_; clear hK K
  refine ord_quiet rfl (fun K hK => ?_); go_simp; refine hK _ ?_; clear hK K
  refine ord_quiet rfl (fun K hK => ?_); go_simp; refine hK _ ?_; clear hK K
  refine ord_load (.agg (cells8 key)) rfl (by rfl) (fun w' hw' => exec_load_row _ _ rfl (w.heap.size + 1) rfl _ _ _ hw'.2 Try.underlying22 rfl (by rw [HKS.out]; exact info32B)) ?_
  refine ord_quiet rfl (fun K hK => ?_); go_simp; refine hK _ ?_; clear hK K
  refine ord_load (.agg (cells8 key)) rfl (by rfl) (fun w' hw' => exec_load_row _ _ rfl (w.heap.size + 1) rfl _ _ _ hw'.2 Try.underlying22 rfl (by rw [HKS.out]; exact info32B)) ?_
  refine ord_loud rfl (fun K hK => ?_)
  go_wp2_with fail
  refine (TagOf_c v m key _ (HS.out.fresh HF4.out) HL.out hm).mono ?_
  rintro e w5 ⟨rfl, hf⟩
  have HF5 : Hid (Fresh w w5) := Lib.hid (Fresh.then HF4.out hf (fun _ _ h => h))
  have HC5 := Lib.hid (And.intro (hf.at HC4.out.1) (hf.at HC4.out.2))
  clear hf
  go_wp2_with fail
  refine hK _ _ HC5.out ?_
  clear hK K
  refine ord_loud rfl (fun K hK => ?_)
  go_wp2_with fail
  refine (Check_c v (tagK key m) m key _ (HS.out.fresh HF5.out) HL.out (tagK_length _ _)).mono ?_
  rintro e w6 ⟨rfl, hf⟩
  have HF6 : Hid (Fresh w w6) := Lib.hid (Fresh.then HF5.out hf (fun _ _ h => h))
  have HC6 := Lib.hid (And.intro (hf.at HC5.out.1) (hf.at HC5.out.2))
  clear hf
  go_wp2_with fail
  refine hK _ _ HC6.out ?_
  clear hK K
  refine ord_quiet rfl (fun K hK => ?_); go_simp; refine hK _ ?_; clear hK K
  refine ord_quiet rfl (fun K hK => ?_); go_simp; refine hK _ ?_; clear hK K
  refine ord_last ?_
  go_wp2_with fail
  go_ret
  exact ⟨rfl, HF6.out⟩
end Go.Proofs.Ytdkhpehniciijaa
