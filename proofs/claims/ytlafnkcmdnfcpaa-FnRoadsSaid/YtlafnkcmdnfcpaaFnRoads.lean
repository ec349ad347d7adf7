/-
  The walk of laws.FnRoads.
-/
import Derived.Test.YtlafnkcmdnfcpaaLawKit
namespace Go.Proofs.Ytlafnkcmdnfcpaa
open Go Go.RowKit
attribute [local irreducible] tagK
set_option maxRecDepth 100000 in
set_option maxHeartbeats 2000000 in
theorem fnRoads_c (key m mac : List UInt8) (vm : Value) (w : World) (hl : key.length = 32) (hs : SlB w vm m) (hml : m.length ≤ 140737488351232) (hmac : mac.length = 16) :
    Calls Try.prog 8 #[.agg (cells8 key), vm, .agg (cells8 mac)] w fun e w' => e = .returned (.bool true) ∧ Fresh w w' := by
  have HL := Lib.hid hl
  have H1 := cells8_one key
  have H2 := cells8_one mac
  have HKS := Lib.hid (show (cells8 key).size = 32 by rw [cells8_size, hl])
  have HAS := Lib.hid (show (cells8 mac).size = 16 by rw [cells8_size, hmac])
  have HTS := Lib.hid (show (cells8 (tagK key m)).size = 16 by rw [cells8_size, tagK_length])
  have HS := Lib.hid hs
  have HML := Lib.hid hml
  have HMAC := Lib.hid hmac
  clear hl hs hml hmac
  go_enter Try.func8, Try.ntmps8
  go_wp2_with fail
  have HBK := Lib.hid (heap_alloc2_old w (.cells (cells8 key) 22) (.cells (cells8 mac) 27))
  have HBM := Lib.hid (heap_alloc2_new w (.cells (cells8 key) 22) (.cells (cells8 mac) 27))
  have HF4 : Hid (Fresh w ((w.alloc (.cells (cells8 key) 22)).alloc (.cells (cells8 mac) 27))) := Lib.hid (((Keeps.refl _ w).alloc _).alloc _)
  generalize ((w.alloc (.cells (cells8 key) 22)).alloc (.cells (cells8 mac) 27)) = w4 at HBK HBM HF4 ⊢
  refine wp_region_ord (fun w' => w'.heap[w.heap.size]? = some (.cells (cells8 key) 22 (0, 0))) [(0, true), (1, true), (2, true), (3, true), (4, false), (5, false), (6, true), (7, true), (8, true), (9, true), (10, true)] (by kernel_rfl) (by kernel_rfl) HBK.out ?_
  refine ord_load (.agg (cells8 key)) rfl (by rfl) (fun w' hw' => exec_load_row _ _ rfl w.heap.size rfl _ _ _ hw' Try.underlying22 rfl (by rw [HKS.out]; exact info32B)) ?_
  iterate 3 (refine ord_quiet rfl (fun K hK => ?_); go_simp; refine hK _ ?_; clear hK K)
  refine ord_loud rfl (fun K hK => ?_)
  go_wp2_with fail
  obtain ⟨w5, hw5⟩ : ∃ w5, w5 = (w4.alloc (.cells #[.int .i64 2, .slice (some ⟨w.heap.size + 1, 0, none⟩) 16 16] TCl)).drew := ⟨_, rfl⟩
  have HG5 : Hid (w5.heap[w4.heap.size]? = some (.cells #[.int .i64 2, .slice (some ⟨w.heap.size + 1, 0, none⟩) 16 16] TCl (0, 0))) := Lib.hid (by rw [hw5]; exact heap_alloc_new w4 _)
  have HX5 : Hid (Fresh w4 w5) := Lib.hid (by rw [hw5]; exact ((Keeps.refl _ w4).alloc _).drew)
  rw [← hw5]
  clear hw5
  refine hK _ _ (HX5.out.at HBK.out) ?_
  clear hK K
  have HF6 : Hid (Fresh w w5) := Lib.hid (HF4.out.trans HX5.out)
  have HT5 : Hid (SlB w5 (.slice (some ⟨w.heap.size + 1, 0, none⟩) 16 16) mac) := Lib.hid (SlB.all16 (HX5.out.at HBM.out) HMAC.out)
  refine ord_loud rfl (fun K hK => ?_)
  go_wp2_with fail
  refine (told_c key m [(.slice (some ⟨w.heap.size + 1, 0, none⟩) 16 16, ⟨2, mac⟩)] vm _ w5 HL.out (HS.out.fresh HF6.out) (by have := HML.out; omega) (CallsL.lit [(.slice (some ⟨w.heap.size + 1, 0, none⟩) 16 16, ⟨2, mac⟩)] HG5.out rfl one_le (by simpa using HT5.out)) (by simp) (by simp) (by simp [HMAC.out]) rfl).mono ?_
  rintro e w6 ⟨v, ps, rfl, ha, hp, hf⟩
  obtain ⟨d, hd⟩ : ∃ d, d = decide (mac = tagK key m) := ⟨_, rfl⟩
  have hp' : ps.map (·.2) = [⟨[], 0, decide (mac = tagK key m), false⟩] := hp
  rw [← hd] at hp'
  have HD := Lib.hid hd
  obtain ⟨v0, ps1, rfl, hp0⟩ := ans_cons hp'
  obtain rfl := ans_nil hp0
  obtain ⟨g, o, c, rfl, -, -, hlie⟩ := ha.form (by simp)
  obtain ⟨-, -, x0, -⟩ := AnsL.at (i := 0) hlie rfl
  simp only [Nat.zero_mul, Nat.add_zero] at x0
  have HX0 := Lib.hid x0
  have HF7 : Hid (Fresh w w6) := Lib.hid (HF6.out.trans hf)
  have HBM7 := Lib.hid (hf.at (HX5.out.at HBM.out))
  have HBK7 := Lib.hid (hf.at (HX5.out.at HBK.out))
  clear hp hp' hp0 ha hlie hf HT5 HG5 HX5 HBK HBM HF4 HF6 hd x0
  simp only [List.length_cons, List.length_nil]
  go_wp2_with fail
  refine hK _ _ HBK7.out ?_
  clear hK K
  iterate 5 (refine ord_quiet rfl (fun K hK => ?_); go_simp; refine hK _ ?_; clear hK K)
  refine ord_last ?_
  go_wp2_with (refine wpList_load_row rfl 22 (.tmp 3) rfl w.heap.size rfl 22 (cells8 key) (0, 0) _ HBK7.out Try.underlying22 rfl ?_ ?_; (rw [HKS.out]; exact info32B))
  refine (Tag_c vm m key w6 (HS.out.fresh HF7.out) HL.out).mono ?_
  rintro e w7 ⟨rfl, hf⟩
  have HF8 : Hid (Fresh w w7) := Lib.hid (HF7.out.trans hf)
  have HBM8 := Lib.hid (hf.at HBM7.out)
  have HBK8 := Lib.hid (hf.at HBK7.out)
  have HX8 := Lib.hid (hf.cellAt HX0.out (fun x => x))
  clear hf HBM7 HBK7 HX0 HF7
  go_wp2_with (refine wpList_store_row rfl 27 (.tmp 9) (.tmp 21) rfl w7.heap.size (cells8 (tagK key m)) rfl rfl 27 _ (heap_alloc_new w7 _) ?_ ?_ (cells8_one _) ?_; (rw [HTS.out]; exact info16B); (rw [HTS.out]; rfl))
  have HBT9 := Lib.hid (row_heap (cs := cells8 (tagK key m)) (heap_alloc_new w7 (.cells (cells8 (List.replicate 16 0)) 27)))
  have HX9 : Hid (Fresh w7 ((w7.alloc (.cells (cells8 (List.replicate 16 0)) 27)).setRow w7.heap.size (cells8 (tagK key m)))) := Lib.hid (((Keeps.refl _ w7).alloc _).setRow (Or.inr (Nat.le_refl _)) _)
  rw [cells8_zeros16] at HBT9 HX9
  generalize ((w7.alloc _).setRow w7.heap.size (cells8 (tagK key m))) = w9 at HBT9 HX9 ⊢
  simp only [Act.put]
  have HC9 : Hid (w9.heap[w.heap.size]? = some (.cells (cells8 key) 22 (0, 0)) ∧ w9.heap[w.heap.size + 1]? = some (.cells (cells8 mac) 27 (0, 0)) ∧ w9.heap[w7.heap.size]? = some (.cells (cells8 (tagK key m)) 27 (0, 0)) ∧ w9.cell? ⟨g, o + 2, none⟩ = some (.bool d)) :=
    Lib.hid ⟨HX9.out.at HBK8.out, HX9.out.at HBM8.out, HBT9.out, HX9.out.cellAt HX8.out (fun x => x)⟩
  have HF9 : Hid (Fresh w w9) := Lib.hid (HF8.out.trans HX9.out)
  clear HBT9 HX9 HBK8 HBM8 HX8 HF8
  refine wp_region_ord (fun w' => w'.heap[w.heap.size]? = some (.cells (cells8 key) 22 (0, 0)) ∧ w'.heap[w.heap.size + 1]? = some (.cells (cells8 mac) 27 (0, 0)) ∧ w'.heap[w7.heap.size]? = some (.cells (cells8 (tagK key m)) 27 (0, 0)) ∧ w'.cell? ⟨g, o + 2, none⟩ = some (.bool d))
    [(0, true), (1, true), (2, true), (3, true), (4, true), (5, true), (6, true), (7, true), (8, true), (9, false), (10, true), (11, true), (12, true), (13, true), (14, true), (15, true), (17, true), (18, true), (19, true), (16, false), (20, true), (21, true), (22, true), (23, true), (24, true), (25, true), (26, false), (27, true), (28, true)] (by kernel_rfl) (by kernel_rfl) HC9.out ?_
  iterate 5 (refine ord_quiet rfl (fun K hK => ?_); go_simp; refine hK _ ?_; clear hK K)
  refine ord_load (.bool d) rfl (by rfl) (fun w' hw' => ?_) ?_
  · have hc := hw'.2.2.2
    go_simp
  refine ord_load (.agg (cells8 mac)) rfl (by rfl) (fun w' hw' => exec_load_row _ _ rfl (w.heap.size + 1) rfl _ _ _ hw'.2.1 Try.underlying27 rfl (by rw [HAS.out]; exact info16B)) ?_
  iterate 1 (refine ord_quiet rfl (fun K hK => ?_); go_simp; refine hK _ ?_; clear hK K)
  refine ord_load (.agg (cells8 key)) rfl (by rfl) (fun w' hw' => exec_load_row _ _ rfl w.heap.size rfl _ _ _ hw'.1 Try.underlying22 rfl (by rw [HKS.out]; exact info32B)) ?_
  refine ord_loud rfl (fun K hK => ?_)
  go_wp2_with fail
  refine (Check_c vm mac m key _ (HS.out.fresh HF9.out.drew) HL.out HMAC.out).mono ?_
  rintro e w10 ⟨rfl, hf⟩
  have HF10 : Hid (Fresh w w10) := Lib.hid ((HF9.out.drew).trans hf)
  have HC10 := Lib.hid (And.intro (hf.at HC9.out.1) (And.intro (hf.at HC9.out.2.1) (And.intro (hf.at HC9.out.2.2.1) (hf.cellAt HC9.out.2.2.2 (fun x => x)))))
  clear hf
  rw [← HD.out]
  go_wp2_with fail
  refine hK _ _ HC10.out ?_
  clear hK K
  iterate 3 (refine ord_quiet rfl (fun K hK => ?_); go_simp; refine hK _ ?_; clear hK K)
  refine ord_load (.agg (cells8 mac)) rfl (by rfl) (fun w' hw' => exec_load_row _ _ rfl (w.heap.size + 1) rfl _ _ _ hw'.2.1 Try.underlying27 rfl (by rw [HAS.out]; exact info16B)) ?_
  iterate 1 (refine ord_quiet rfl (fun K hK => ?_); go_simp; refine hK _ ?_; clear hK K)
  refine ord_load (.agg (cells8 key)) rfl (by rfl) (fun w' hw' => exec_load_row _ _ rfl w.heap.size rfl _ _ _ hw'.1 Try.underlying22 rfl (by rw [HKS.out]; exact info32B)) ?_
  refine ord_load (.agg (cells8 mac)) rfl (by rfl) (fun w' hw' => exec_load_row _ _ rfl (w.heap.size + 1) rfl _ _ _ hw'.2.1 Try.underlying27 rfl (by rw [HAS.out]; exact info16B)) ?_
  refine ord_load (.agg (cells8 (tagK key m))) rfl (by rfl) (fun w' hw' => exec_load_row _ _ rfl w7.heap.size rfl _ _ _ hw'.2.2.1 Try.underlying27 rfl (by rw [HTS.out]; exact info16B)) ?_
  refine ord_load (.bool d) rfl (by rfl) (fun w' _ => ?_) ?_
  · exact (exec_eql16 (w := w') (.tmp 39) (.tmp 40) rfl mac _ rfl rfl HMAC.out (tagK_length _ _)).trans (congrArg (fun b => Result.ok (Next.value (Value.bool b)) w') HD.out.symm)
  refine ord_loud rfl (fun K hK => ?_)
  go_wp2_with fail
  refine (Check_c vm mac m key _ (HS.out.fresh HF10.out) HL.out HMAC.out).mono ?_
  rintro e w11 ⟨rfl, hf⟩
  have HF11 : Hid (Fresh w w11) := Lib.hid ((HF10.out).trans hf)
  have HC11 := Lib.hid (And.intro (hf.at HC10.out.1) (And.intro (hf.at HC10.out.2.1) (And.intro (hf.at HC10.out.2.2.1) (hf.cellAt HC10.out.2.2.2 (fun x => x)))))
  clear hf
  rw [← HD.out]
  go_wp2_with fail
  refine hK _ _ HC11.out ?_
  clear hK K
  iterate 3 (refine ord_quiet rfl (fun K hK => ?_); go_simp; refine hK _ ?_; clear hK K)
  refine ord_load (.agg (cells8 (tagK key m))) rfl (by rfl) (fun w' hw' => exec_load_row _ _ rfl w7.heap.size rfl _ _ _ hw'.2.2.1 Try.underlying27 rfl (by rw [HTS.out]; exact info16B)) ?_
  iterate 1 (refine ord_quiet rfl (fun K hK => ?_); go_simp; refine hK _ ?_; clear hK K)
  refine ord_load (.agg (cells8 key)) rfl (by rfl) (fun w' hw' => exec_load_row _ _ rfl w.heap.size rfl _ _ _ hw'.1 Try.underlying22 rfl (by rw [HKS.out]; exact info32B)) ?_
  refine ord_loud rfl (fun K hK => ?_)
  go_wp2_with fail
  refine (Check_c vm (tagK key m) m key _ (HS.out.fresh HF11.out) HL.out (tagK_length _ _)).mono ?_
  rintro e w12 ⟨rfl, hf⟩
  have HF12 : Hid (Fresh w w12) := Lib.hid ((HF11.out).trans hf)
  have HC12 := Lib.hid (And.intro (hf.at HC11.out.1) (And.intro (hf.at HC11.out.2.1) (And.intro (hf.at HC11.out.2.2.1) (hf.cellAt HC11.out.2.2.2 (fun x => x)))))
  clear hf
  rw [decide_eq_true (rfl : tagK key m = tagK key m)]
  go_wp2_with fail
  refine hK _ _ HC12.out ?_
  clear hK K
  iterate 2 (refine ord_quiet rfl (fun K hK => ?_); go_simp; refine hK _ ?_; clear hK K)
  refine ord_last ?_
  go_wp2_with fail
  go_ret
  exact ⟨rfl, HF12.out⟩
end Go.Proofs.Ytlafnkcmdnfcpaa
