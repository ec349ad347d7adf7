/-
  The walk of laws.FnBit.
-/
import Derived.Test.YtlafnkcmdnfcpaaLawKit
namespace Go.Proofs.Ytlafnkcmdnfcpaa
open Go Go.RowKit
attribute [local irreducible] tagK
theorem pow_bit (n : Nat) (h : n < 8) : ∃ y : UInt8, y ≠ 0 ∧ (2 : Int) ^ n % 256 = u8 y := by
  have h8 : n = 0 ∨ n = 1 ∨ n = 2 ∨ n = 3 ∨ n = 4 ∨ n = 5 ∨ n = 6 ∨ n = 7 := by omega
  rcases h8 with rfl | rfl | rfl | rfl | rfl | rfl | rfl | rfl
  · exact ⟨1, by decide, by decide⟩
  · exact ⟨2, by decide, by decide⟩
  · exact ⟨4, by decide, by decide⟩
  · exact ⟨8, by decide, by decide⟩
  · exact ⟨16, by decide, by decide⟩
  · exact ⟨32, by decide, by decide⟩
  · exact ⟨64, by decide, by decide⟩
  · exact ⟨128, by decide, by decide⟩
theorem turned_ne (l : List UInt8) (k : Nat) (y : UInt8) (hk : k < l.length) (hy : y ≠ 0) : l.set k (l.getD k 0 ^^^ y) ≠ l := by
  intro e
  have h := congrArg (fun l => l.getD k 0) e
  simp only [List.getD, List.getElem?_set_self hk, Option.getD_some, List.getElem?_eq_getElem hk] at h
  have h2 : l[k] ^^^ (l[k] ^^^ y) = l[k] ^^^ l[k] := by rw [h]
  rw [← UInt8.xor_assoc, UInt8.xor_self, UInt8.zero_xor] at h2
  exact hy h2
set_option maxRecDepth 100000 in
set_option maxHeartbeats 2000000 in
theorem fnBit_c (key m : List UInt8) (x : UInt8) (vm : Value) (w : World) (hl : key.length = 32) (hs : SlB w vm m) (hml : m.length ≤ 140737488351232) :
    Calls Try.prog 6 #[.agg (cells8 key), vm, .int .u8 (u8 x)] w fun e w' => e = .returned (.bool true) ∧ Fresh w w' := by
  have HL := Lib.hid hl
  have H1 := cells8_one key
  have HKS := Lib.hid (show (cells8 key).size = 32 by rw [cells8_size, hl])
  have HTS := Lib.hid (show (cells8 (tagK key m)).size = 16 by rw [cells8_size, tagK_length])
  have HS := Lib.hid hs
  have HML := Lib.hid hml
  clear hl hs hml
  go_enter Try.func6, Try.ntmps6
  go_wp2_with (refine wpList_load_row rfl 22 (.tmp 3) rfl w.heap.size rfl 22 (cells8 key) (0, 0) _ (heap_alloc_new w _) Try.underlying22 rfl ?_ ?_; (rw [HKS.out]; exact info32B))
  have HF1 : Hid (Fresh w (w.alloc (.cells (cells8 key) 22))) := Lib.hid ((Keeps.refl _ w).alloc _)
  have HB1 := Lib.hid (heap_alloc_new w (.cells (cells8 key) 22))
  refine (Tag_c vm m key _ (HS.out.fresh HF1.out) HL.out).mono ?_
  rintro e w2 ⟨rfl, hf⟩
  have HF2 : Hid (Fresh w w2) := Lib.hid (HF1.out.trans hf)
  have HB2 := Lib.hid (hf.at HB1.out)
  clear hf HF1 HB1
  go_upto_region 2 with (refine wpList_store_row rfl 27 (.tmp 7) (.tmp 13) rfl w2.heap.size (cells8 (tagK key m)) rfl rfl 27 _ (heap_alloc_new w2 _) ?_ ?_ (cells8_one _) ?_; (rw [HTS.out]; exact info16B); (rw [HTS.out]; rfl))
  have HB4 := Lib.hid (row_heap (cs := cells8 (tagK key m)) (heap_alloc_new w2 (.cells (cells8 (List.replicate 16 0)) 27)))
  have HF4 : Hid (Fresh w2 ((w2.alloc (.cells (cells8 (List.replicate 16 0)) 27)).setRow w2.heap.size (cells8 (tagK key m)))) := Lib.hid (((Keeps.refl _ w2).alloc _).setRow (Or.inr (Nat.le_refl _)) _)
  rw [cells8_zeros16] at HB4 HF4
  generalize ((w2.alloc _).setRow w2.heap.size (cells8 (tagK key m))) = w4 at HB4 HF4 ⊢
  try simp only [Act.put]
  have HBK := Lib.hid (HF4.out.at HB2.out)
  obtain ⟨n8, hn8⟩ : ∃ n, n = x.toNat / 8 := ⟨_, rfl⟩
  obtain ⟨k, hk⟩ : ∃ k, k = n8 % 16 := ⟨_, rfl⟩
  obtain ⟨sh, hsh⟩ : ∃ s, s = x.toNat % 8 := ⟨_, rfl⟩
  have hx := x.toNat_lt
  have hn32 : n8 < 32 := by omega
  have hk16 : k < 16 := by omega
  have hs8 : sh < 8 := by omega
  have q0 : IntKind.u8.wrap ((u8 x).tdiv 8) = (n8 : Int) := by
    rw [IntKind.wrap_u8]; unfold u8; rw [Int.tdiv_eq_ediv_of_nonneg (by omega)]; omega
  have q1 : IntKind.u8.wrap ((n8 : Int).tmod 16) = (k : Int) := by
    rw [IntKind.wrap_u8, Int.tmod_eq_emod_of_nonneg (by omega)]; omega
  have q1' : (n8 : Int).tmod 16 = (k : Int) := by
    rw [Int.tmod_eq_emod_of_nonneg (by omega)]; omega
  have q2 : IntKind.u8.wrap ((u8 x).tmod 8) = (sh : Int) := by
    rw [IntKind.wrap_u8]; unfold u8; rw [Int.tmod_eq_emod_of_nonneg (by omega)]; omega
  have q2' : (u8 x).tmod 8 = (sh : Int) := by
    unfold u8; rw [Int.tmod_eq_emod_of_nonneg (by omega)]; omega
  obtain ⟨y, hy, q3⟩ := pow_bit sh hs8
  obtain ⟨t, ht⟩ : ∃ t, t = (tagK key m).getD k 0 := ⟨_, rfl⟩
  have hck : w4.cell? ⟨w2.heap.size, k, none⟩ = some (.int .u8 (u8 t)) := by rw [ht, cell_block HB4.out]; exact cells8_get (by rw [tagK_length]; exact hk16)
  have hfk : w4.frozen? ⟨w2.heap.size, k, none⟩ = false := free_block HB4.out k
  obtain ⟨T, hT⟩ : ∃ T, T = (tagK key m).set k (t ^^^ y) := ⟨_, rfl⟩
  have HTL : Hid (T.length = 16) := Lib.hid (by rw [hT, List.length_set, tagK_length])
  have HTN : Hid (T ≠ tagK key m) := Lib.hid (by rw [hT, ht]; exact turned_ne _ k y (by rw [tagK_length]; exact hk16) hy)
  have HB5 : Hid ((w4.setCell ⟨w2.heap.size, k, none⟩ (.int .u8 (u8 (t ^^^ y)))).heap[w2.heap.size]? = some (.cells (cells8 T) 27 (0, 0))) := Lib.hid (by rw [hT, ← cells8_set]; exact block_set HB4.out)
  have HKK : Hid (Keeps (fun q => q = w2.heap.size) w4 (w4.setCell ⟨w2.heap.size, k, none⟩ (.int .u8 (u8 (t ^^^ y))))) := Lib.hid ((Keeps.refl _ w4).own _)
  have HTZ := Lib.hid (show (cells8 T).size = 16 by rw [cells8_size, HTL.out])
  have h1T := cells8_one T
  have hszw2 : w.heap.size < w2.heap.size := lt_of_block HB2.out
  clear hn8 hk hsh hx ht hT hy
  go_wp2_with fail
  have HF5 : Hid (Fresh w (w4.setCell ⟨w2.heap.size, k, none⟩ (.int .u8 (u8 (t ^^^ y))))) := Lib.hid (Fresh.then (HF2.out.trans HF4.out) HKK.out (fun q hq e => by omega))
  have HBK5 : Hid ((w4.setCell ⟨w2.heap.size, k, none⟩ (.int .u8 (u8 (t ^^^ y)))).heap[w.heap.size]? = some (.cells (cells8 key) 22 (0, 0))) := Lib.hid (HKK.out.at HBK.out (by omega))
  generalize (w4.setCell ⟨w2.heap.size, k, none⟩ (.int .u8 (u8 (t ^^^ y)))) = w5 at HB5 HKK HF5 HBK5 ⊢
  clear HB4 HF4 HBK HKK
  refine wp_region_ord (fun w' => w'.heap[w.heap.size]? = some (.cells (cells8 key) 22 (0, 0))) [(0, true), (1, true), (2, true), (3, true), (4, true), (5, false), (6, false), (7, true), (8, true), (9, true), (10, true), (11, true)] (by kernel_rfl) (by kernel_rfl) HBK5.out ?_
  refine ord_load (.agg (cells8 key)) rfl (by rfl) (fun w' hw' => exec_load_row _ _ rfl w.heap.size rfl _ _ _ hw' Try.underlying22 rfl (by rw [HKS.out]; exact info32B)) ?_
  iterate 4 (refine ord_quiet rfl (fun K hK => ?_); go_simp; refine hK _ ?_; clear hK K)
  refine ord_loud rfl (fun K hK => ?_)
  go_wp2_with fail
  obtain ⟨w6, hw6⟩ : ∃ w6, w6 = (w5.alloc (.cells #[.int .i64 2, .slice (some ⟨w2.heap.size, 0, none⟩) 16 16, .int .i64 1, .slice none 0 0] TCl)).drew := ⟨_, rfl⟩
  have HG6 : Hid (w6.heap[w5.heap.size]? = some (.cells #[.int .i64 2, .slice (some ⟨w2.heap.size, 0, none⟩) 16 16, .int .i64 1, .slice none 0 0] TCl (0, 0))) := Lib.hid (by rw [hw6]; exact heap_alloc_new w5 _)
  have HX6 : Hid (Fresh w5 w6) := Lib.hid (by rw [hw6]; exact ((Keeps.refl _ w5).alloc _).drew)
  rw [← hw6]
  clear hw6
  refine hK _ _ (HX6.out.at HBK5.out) ?_
  clear hK K
  have HF6 : Hid (Fresh w w6) := Lib.hid (HF5.out.trans HX6.out)
  have HT6 : Hid (SlB w6 (.slice (some ⟨w2.heap.size, 0, none⟩) 16 16) T) := Lib.hid (SlB.all16 (HX6.out.at HB5.out) HTL.out)
  refine ord_loud rfl (fun K hK => ?_)
  go_wp2_with fail
  refine (told_c key m [(.slice (some ⟨w2.heap.size, 0, none⟩) 16 16, ⟨2, T⟩), (.slice none 0 0, ⟨1, []⟩)] vm _ w6 HL.out (HS.out.fresh HF6.out) (by have := HML.out; omega) (CallsL.lit [(.slice (some ⟨w2.heap.size, 0, none⟩) 16 16, ⟨2, T⟩), (.slice none 0 0, ⟨1, []⟩)] HG6.out rfl two_le2 (by
    intro q hq
    simp only [List.mem_cons, List.not_mem_nil, or_false] at hq
    rcases hq with rfl | rfl
    · exact HT6.out
    · exact SlB.nil _)) (by simp) (by simp) (by
    intro q hq
    simp only [List.mem_cons, List.not_mem_nil, or_false] at hq
    rcases hq with rfl | rfl
    · show T.length ≤ _
      rw [HTL.out]; decide
    · exact Nat.zero_le _) rfl).mono ?_
  rintro e w7 ⟨v, ps, rfl, ha, hp, hf⟩
  have hp' : ps.map (·.2) = [⟨[], 0, decide (T = tagK key m), false⟩, ⟨[] ++ tagK key m, 0, false, false⟩] := hp
  rw [decide_eq_false HTN.out, List.nil_append] at hp'
  obtain ⟨v0, ps1, rfl, hp0⟩ := ans_cons hp'
  obtain ⟨v1, ps2, rfl, hp1⟩ := ans_cons hp0
  obtain rfl := ans_nil hp1
  obtain ⟨g, o, c, rfl, -, -, hlie⟩ := ha.form (by simp)
  obtain ⟨-, -, x0, -⟩ := AnsL.at (i := 0) hlie rfl
  obtain ⟨x1, -, -, -⟩ := AnsL.at (i := 1) hlie rfl
  simp only [Nat.zero_mul, Nat.add_zero, Nat.reduceMul] at x0 x1
  have hs1 : SlB w7 v1 (tagK key m) := ha.2 (v1, ⟨tagK key m, 0, false, false⟩) (by simp)
  have HX := Lib.hid (And.intro x0 (And.intro x1 hs1))
  have HF7 : Hid (Fresh w w7) := Lib.hid (HF6.out.trans hf)
  have HB7 := Lib.hid (hf.at (HX6.out.at HB5.out))
  have HBK7 := Lib.hid (hf.at (HX6.out.at HBK5.out))
  clear hp hp' hp0 hp1 ha hlie hf x0 x1 hs1 HT6 HG6 HX6 HB5 HBK5 HF5 HF6 HF2 HB2
  simp only [List.length_cons, List.length_nil]
  go_wp2_with fail
  refine hK _ _ HBK7.out ?_
  clear hK K
  iterate 5 (refine ord_quiet rfl (fun K hK => ?_); go_simp; refine hK _ ?_; clear hK K)
  refine ord_last ?_
  go_wp2_with (refine wpList_load_row rfl 22 (.tmp 3) rfl w.heap.size rfl 22 (cells8 key) (0, 0) _ HBK7.out Try.underlying22 rfl ?_ ?_; (rw [HKS.out]; exact info32B))
  refine (Tag_c vm m key w7 (HS.out.fresh HF7.out) HL.out).mono ?_
  rintro e w8 ⟨rfl, hf⟩
  have HF8 : Hid (Fresh w w8) := Lib.hid (HF7.out.trans hf)
  have HB8 := Lib.hid (hf.at HB7.out)
  have HBK8 := Lib.hid (hf.at HBK7.out)
  have HX8 := Lib.hid (And.intro (hf.cellAt HX.out.1 (fun x => x)) (And.intro (hf.cellAt HX.out.2.1 (fun x => x)) (HX.out.2.2.fresh hf)))
  clear hf HB7 HBK7 HX HF7
  go_wp2_with (refine wpList_store_row rfl 27 (.tmp 10) (.tmp 36) rfl w8.heap.size (cells8 (tagK key m)) rfl rfl 27 _ (heap_alloc_new w8 _) ?_ ?_ (cells8_one _) ?_; (rw [HTS.out]; exact info16B); (rw [HTS.out]; rfl))
  have HBT9 := Lib.hid (row_heap (cs := cells8 (tagK key m)) (heap_alloc_new w8 (.cells (cells8 (List.replicate 16 0)) 27)))
  have HX9 : Hid (Fresh w8 ((w8.alloc (.cells (cells8 (List.replicate 16 0)) 27)).setRow w8.heap.size (cells8 (tagK key m)))) := Lib.hid (((Keeps.refl _ w8).alloc _).setRow (Or.inr (Nat.le_refl _)) _)
  rw [cells8_zeros16] at HBT9 HX9
  generalize ((w8.alloc _).setRow w8.heap.size (cells8 (tagK key m))) = w9 at HBT9 HX9 ⊢
  simp only [Act.put]
  have HC9 : Hid (w9.heap[w.heap.size]? = some (.cells (cells8 key) 22 (0, 0)) ∧ w9.heap[w2.heap.size]? = some (.cells (cells8 T) 27 (0, 0)) ∧ SlB w9 (.slice (some ⟨w8.heap.size, 0, none⟩) 16 16) (tagK key m) ∧ w9.cell? ⟨g, o + 2, none⟩ = some (.bool false) ∧ w9.cell? ⟨g, o + 4, none⟩ = some v1 ∧ SlB w9 v1 (tagK key m)) :=
    Lib.hid ⟨HX9.out.at HBK8.out, HX9.out.at HB8.out, SlB.all16 HBT9.out (tagK_length _ _), HX9.out.cellAt HX8.out.1 (fun x => x), HX9.out.cellAt HX8.out.2.1 (fun x => x), HX8.out.2.2.fresh HX9.out⟩
  have HF9 : Hid (Fresh w w9.drew) := Lib.hid (HF8.out.trans HX9.out).drew
  clear HBT9 HX9 HBK8 HB8 HX8 HF8
  refine wp_region_ord (fun w' => w'.heap[w.heap.size]? = some (.cells (cells8 key) 22 (0, 0)) ∧ w'.heap[w2.heap.size]? = some (.cells (cells8 T) 27 (0, 0)) ∧ SlB w' (.slice (some ⟨w8.heap.size, 0, none⟩) 16 16) (tagK key m) ∧ w'.cell? ⟨g, o + 2, none⟩ = some (.bool false) ∧ w'.cell? ⟨g, o + 4, none⟩ = some v1 ∧ SlB w' v1 (tagK key m))
    [(0, true), (1, true), (2, true), (3, true), (4, true), (5, true), (6, true), (7, true), (8, true), (9, true), (10, true), (11, true), (12, false), (13, true), (14, true), (15, true), (16, true), (17, true), (18, true), (19, true), (20, true), (21, true), (22, true), (23, true), (24, true), (25, true)] (by kernel_rfl) (by kernel_rfl) HC9.out ?_
  iterate 5 (refine ord_quiet rfl (fun K hK => ?_); go_simp; refine hK _ ?_; clear hK K)
  refine ord_load (.bool false) rfl (by rfl) (fun w' hw' => ?_) ?_
  · have hc := hw'.2.2.2.1
    go_simp
  iterate 3 (refine ord_quiet rfl (fun K hK => ?_); go_simp; refine hK _ ?_; clear hK K)
  refine ord_load (.agg (cells8 T)) rfl (by rfl) (fun w' hw' => exec_load_row _ _ rfl w2.heap.size rfl _ _ _ hw'.2.1 Try.underlying27 rfl (by rw [HTZ.out]; exact info16B)) ?_
  iterate 1 (refine ord_quiet rfl (fun K hK => ?_); go_simp; refine hK _ ?_; clear hK K)
  refine ord_load (.agg (cells8 key)) rfl (by rfl) (fun w' hw' => exec_load_row _ _ rfl w.heap.size rfl _ _ _ hw'.1 Try.underlying22 rfl (by rw [HKS.out]; exact info32B)) ?_
  refine ord_loud rfl (fun K hK => ?_)
  go_wp2_with fail
  refine (Check_c vm T m key _ (HS.out.fresh HF9.out) HL.out HTL.out).mono ?_
  rintro e w10 ⟨rfl, hf⟩
  have HF10 : Hid (Fresh w w10) := Lib.hid (HF9.out.trans hf)
  have hf9 : Fresh w9 w10 := (Keeps.refl _ w9).drew.trans hf
  have HC10 := Lib.hid (And.intro (hf9.at HC9.out.1) (And.intro (hf9.at HC9.out.2.1) (And.intro (HC9.out.2.2.1.fresh hf9) (And.intro (hf9.cellAt HC9.out.2.2.2.1 (fun x => x)) (And.intro (hf9.cellAt HC9.out.2.2.2.2.1 (fun x => x)) (HC9.out.2.2.2.2.2.fresh hf9))))))
  clear hf hf9
  rw [decide_eq_false HTN.out]
  go_wp2_with fail
  refine hK _ _ HC10.out ?_
  clear hK K
  iterate 6 (refine ord_quiet rfl (fun K hK => ?_); go_simp; refine hK _ ?_; clear hK K)
  refine ord_load v1 rfl (by rfl) (fun w' hw' => ?_) ?_
  · have hc := hw'.2.2.2.2.1
    go_simp
  refine ord_load (.string (strB (tagK key m))) rfl (by rfl) (fun w' hw' => ?_) ?_
  · have hr := run_strB w' _ _ hw'.2.2.2.2.2
    go_simp
  iterate 1 (refine ord_quiet rfl (fun K hK => ?_); go_simp; refine hK _ ?_; clear hK K)
  refine ord_load (.string (strB (tagK key m))) rfl (by rfl) (fun w' hw' => ?_) ?_
  · have hr := run_strB w' _ _ hw'.2.2.1
    go_simp
  iterate 3 (refine ord_quiet rfl (fun K hK => ?_); go_simp; refine hK _ ?_; clear hK K)
  refine ord_last ?_
  go_wp2_with fail
  go_ret
  exact ⟨rfl, HF10.out⟩
end Go.Proofs.Ytlafnkcmdnfcpaa
