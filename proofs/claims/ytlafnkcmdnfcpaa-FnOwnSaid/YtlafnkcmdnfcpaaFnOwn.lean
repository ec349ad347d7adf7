/-
  The walk of laws.FnOwn.
-/
import Derived.Test.YtlafnkcmdnfcpaaLawKit
namespace Go.Proofs.Ytlafnkcmdnfcpaa
open Go Go.RowKit
attribute [local irreducible] tagK
set_option maxRecDepth 100000 in
set_option maxHeartbeats 2000000 in
theorem fnOwn_c (key m : List UInt8) (vm : Value) (w : World) (hl : key.length = 32) (hs : SlB w vm m) (hml : m.length ≤ 140737488351232) :
    Calls Try.prog 7 #[.agg (cells8 key), vm] w fun e w' => e = .returned (.bool true) ∧ Fresh w w' := by
  have HL := Lib.hid hl
  have H1 := cells8_one key
  have HKS := Lib.hid (show (cells8 key).size = 32 by rw [cells8_size, hl])
  have HTS := Lib.hid (show (cells8 (tagK key m)).size = 16 by rw [cells8_size, tagK_length])
  have HS := Lib.hid hs
  have HML := Lib.hid hml
  clear hl hs hml
  go_enter Try.func7, Try.ntmps7
  go_wp2_with (refine wpList_load_row rfl 22 (.tmp 2) rfl w.heap.size rfl 22 (cells8 key) (0, 0) _ (heap_alloc_new w _) Try.underlying22 rfl ?_ ?_; (rw [HKS.out]; exact info32B))
  have HF1 : Hid (Fresh w (w.alloc (.cells (cells8 key) 22))) := Lib.hid ((Keeps.refl _ w).alloc _)
  have HB1 := Lib.hid (heap_alloc_new w (.cells (cells8 key) 22))
  refine (Tag_c vm m key _ (HS.out.fresh HF1.out) HL.out).mono ?_
  rintro e w2 ⟨rfl, hf⟩
  have HF2 : Hid (Fresh w w2) := Lib.hid (HF1.out.trans hf)
  have HB2 := Lib.hid (hf.at HB1.out)
  clear hf HF1 HB1
  go_wp2_with (refine wpList_store_row rfl 27 (.tmp 5) (.tmp 10) rfl w2.heap.size (cells8 (tagK key m)) rfl rfl 27 _ (heap_alloc_new w2 _) ?_ ?_ (cells8_one _) ?_; (rw [HTS.out]; exact info16B); (rw [HTS.out]; rfl))
  have HB4 := Lib.hid (row_heap (cs := cells8 (tagK key m)) (heap_alloc_new w2 (.cells (cells8 (List.replicate 16 0)) 27)))
  have HF4 : Hid (Fresh w2 ((w2.alloc (.cells (cells8 (List.replicate 16 0)) 27)).setRow w2.heap.size (cells8 (tagK key m)))) := Lib.hid (((Keeps.refl _ w2).alloc _).setRow (Or.inr (Nat.le_refl _)) _)
  rw [cells8_zeros16] at HB4 HF4
  generalize ((w2.alloc _).setRow w2.heap.size (cells8 (tagK key m))) = w4 at HB4 HF4 ⊢
  simp only [Act.put]
  have HBK := Lib.hid (HF4.out.at HB2.out)
  refine wp_region_ord (fun w' => w'.heap[w.heap.size]? = some (.cells (cells8 key) 22 (0, 0))) [(0, true), (1, true), (2, true), (3, true), (4, false), (5, false), (6, true), (7, true), (8, true), (9, true), (10, true)] (by kernel_rfl) (by kernel_rfl) HBK.out ?_
  refine ord_load (.agg (cells8 key)) rfl (by rfl) (fun w' hw' => exec_load_row _ _ rfl w.heap.size rfl _ _ _ hw' Try.underlying22 rfl (by rw [HKS.out]; exact info32B)) ?_
  iterate 3 (refine ord_quiet rfl (fun K hK => ?_); go_simp; refine hK _ ?_; clear hK K)
  refine ord_loud rfl (fun K hK => ?_)
  go_wp2_with fail
  obtain ⟨w5, hw5⟩ : ∃ w5, w5 = (w4.alloc (.cells #[.int .i64 2, .slice (some ⟨w2.heap.size, 0, none⟩) 16 16] TCl)).drew := ⟨_, rfl⟩
  have HG5 : Hid (w5.heap[w4.heap.size]? = some (.cells #[.int .i64 2, .slice (some ⟨w2.heap.size, 0, none⟩) 16 16] TCl (0, 0))) := Lib.hid (by rw [hw5]; exact heap_alloc_new w4 _)
  have HX5 : Hid (Fresh w4 w5) := Lib.hid (by rw [hw5]; exact ((Keeps.refl _ w4).alloc _).drew)
  rw [← hw5]
  clear hw5
  refine hK _ _ (HX5.out.at HBK.out) ?_
  clear hK K
  have HF6 : Hid (Fresh w w5) := Lib.hid ((HF2.out.trans HF4.out).trans HX5.out)
  have HT5 : Hid (SlB w5 (.slice (some ⟨w2.heap.size, 0, none⟩) 16 16) (tagK key m)) := Lib.hid (SlB.all16 (HX5.out.at HB4.out) (tagK_length _ _))
  refine ord_loud rfl (fun K hK => ?_)
  go_wp2_with fail
  refine (told_c key m [(.slice (some ⟨w2.heap.size, 0, none⟩) 16 16, ⟨2, tagK key m⟩)] vm _ w5 HL.out (HS.out.fresh HF6.out) (by have := HML.out; omega) (CallsL.lit [(.slice (some ⟨w2.heap.size, 0, none⟩) 16 16, ⟨2, tagK key m⟩)] HG5.out rfl one_le (by simpa using HT5.out)) (by simp) (by simp) (by simp [tagK_length]) rfl).mono ?_
  rintro e w6 ⟨v, ps, rfl, ha, hp, hf⟩
  have hp' : ps.map (·.2) = [⟨[], 0, decide (tagK key m = tagK key m), false⟩] := hp
  rw [decide_eq_true (rfl : tagK key m = tagK key m)] at hp'
  obtain ⟨v0, ps1, rfl, hp0⟩ := ans_cons hp'
  obtain rfl := ans_nil hp0
  obtain ⟨g, o, c, rfl, -, -, hlie⟩ := ha.form (by simp)
  obtain ⟨-, -, x0, -⟩ := AnsL.at (i := 0) hlie rfl
  simp only [Nat.zero_mul, Nat.add_zero] at x0
  have HF7 : Hid (Fresh w w6) := Lib.hid (HF6.out.trans hf)
  have HB7 := Lib.hid (hf.at (HX5.out.at HB4.out))
  have HBK7 := Lib.hid (hf.at (HX5.out.at HBK.out))
  clear hp hp' hp0 ha hlie hf HT5 HG5 HX5 HBK HB4 HF4 HF6 HF2 HB2
  simp only [List.length_cons, List.length_nil]
  go_wp2_with fail
  refine hK _ _ HBK7.out ?_
  clear hK K
  iterate 5 (refine ord_quiet rfl (fun K hK => ?_); go_simp; refine hK _ ?_; clear hK K)
  refine ord_last ?_
  go_wp2_with (first
    | (refine wpList_load_rowW (by rfl) 22 (.tmp 2) rfl w.heap.size rfl 22 (cells8 key) (0, 0) _ HBK7.out Try.underlying22 rfl ?_ ?_; (rw [HKS.out]; exact info32B))
    | (refine wpList_load_rowW (by rfl) 27 (.tmp 5) rfl w2.heap.size rfl 27 (cells8 (tagK key m)) (0, 0) _ HB7.out Try.underlying27 rfl ?_ ?_; (rw [HTS.out]; exact info16B)))
  refine (Check_c vm (tagK key m) m key w6 (HS.out.fresh HF7.out) HL.out (tagK_length _ _)).mono ?_
  rintro e w7 ⟨rfl, hf⟩
  have HF8 : Hid (Fresh w w7) := Lib.hid (HF7.out.trans hf)
  clear hf
  rw [decide_eq_true (rfl : tagK key m = tagK key m)]
  go_wp2_with fail
  go_ret
  exact ⟨rfl, HF8.out⟩
end Go.Proofs.Ytlafnkcmdnfcpaa
