/-
  The walk of laws.FnAgain.
-/
import Derived.Test.YtdkhpehniciijaaFnFront
namespace Go.Proofs.Ytdkhpehniciijaa
open Go Go.RowKit
attribute [local irreducible] tagK
theorem five_le : 5 ≤ maxLen := by decide
set_option maxRecDepth 100000 in
set_option maxHeartbeats 2000000 in
theorem fnAgain_c (key m front : List UInt8) (vm vf : Value) (w : World) (hl : key.length = 32) (hs : SlB w vm m) (hf : SlB w vf front) (hml : m.length ≤ 140737488351232) (hfl : front.length ≤ 140737488351232) :
    Calls Try.prog 11 #[.agg (cells8 key), vm, vf] w fun e w' => e = .returned (.bool true) ∧ Fresh w w' := by
  have HL := Lib.hid hl
  have H1 := cells8_one key
  have HKS := Lib.hid (show (cells8 key).size = 32 by rw [cells8_size, hl])
  have HTS := Lib.hid (show (cells8 (tagK key m)).size = 16 by rw [cells8_size, tagK_length])
  obtain ⟨pf, cf, rfl⟩ := hf.slice
  have HS := Lib.hid hs
  have HV := Lib.hid hf
  have HML := Lib.hid hml
  have HFL := Lib.hid hfl
  clear hl hs hf hml hfl
  go_enter Try.func11, Try.ntmps11
  go_wp2_with (refine wpList_load_row rfl 22 (.tmp 3) rfl w.heap.size rfl 22 (cells8 key) (0, 0) _ (heap_alloc_new w _) Try.underlying22 rfl ?_ ?_; (rw [HKS.out]; exact info32B))
  have HF1 : Hid (Fresh w (w.alloc (.cells (cells8 key) 22))) := Lib.hid ((Keeps.refl _ w).alloc _)
  have HB1 := Lib.hid (heap_alloc_new w (.cells (cells8 key) 22))
  refine (Tag_c vm m key _ (HS.out.fresh HF1.out) HL.out).mono ?_
  rintro e w2 ⟨rfl, hf⟩
  have HF2 : Hid (Fresh w w2) := Lib.hid (HF1.out.trans hf)
  have HB2 := Lib.hid (hf.at HB1.out)
  clear hf HF1 HB1
  go_wp2_with (refine wpList_store_row rfl 25 (.tmp 7) (.tmp 12) rfl w2.heap.size (cells8 (tagK key m)) rfl rfl 25 _ (heap_alloc_new w2 _) ?_ ?_ (cells8_one _) ?_; (rw [HTS.out]; exact info16B); (rw [HTS.out]; rfl))
  have HB4 := Lib.hid (row_heap (cs := cells8 (tagK key m)) (heap_alloc_new w2 (.cells (cells8 (List.replicate 16 0)) 25)))
  have HF4 : Hid (Fresh w2 ((w2.alloc (.cells (cells8 (List.replicate 16 0)) 25)).setRow w2.heap.size (cells8 (tagK key m)))) := Lib.hid (((Keeps.refl _ w2).alloc _).setRow (Or.inr (Nat.le_refl _)) _)
  rw [cells8_zeros16] at HB4 HF4
  generalize ((w2.alloc _).setRow w2.heap.size (cells8 (tagK key m))) = w4 at HB4 HF4 ⊢
  simp only [Act.put]
  have HBK := Lib.hid (HF4.out.at HB2.out)
  have HF5 : Hid (Fresh w w4.drew) := Lib.hid (HF2.out.trans HF4.out).drew
  refine wp_region_ord (fun w' => w'.heap[w.heap.size]? = some (.cells (cells8 key) 22 (0, 0))) [(0, true), (1, true), (2, true), (3, true), (4, true), (5, true), (6, true), (7, true), (8, true), (9, false), (10, false), (11, true), (12, true), (13, true), (14, true), (15, true)] (by kernel_rfl) (by kernel_rfl) HBK.out ?_
  refine ord_load (.agg (cells8 key)) rfl (by rfl) (fun w' hw' => exec_load_row _ _ rfl w.heap.size rfl _ _ _ hw' Try.underlying22 rfl (by rw [HKS.out]; exact info32B)) ?_
  iterate 8 (refine ord_quiet rfl (fun K hK => ?_); go_simp; refine hK _ ?_; clear hK K)
  refine ord_loud rfl (fun K hK => ?_)
  go_wp2_with fail
  obtain ⟨w5, hw5⟩ : ∃ w5, w5 = (w4.alloc (.cells #[.int .i64 1, Value.slice none 0 0, .int .i64 2, .slice (some ⟨w2.heap.size, 0, none⟩) 16 16, .int .i64 1, .slice pf front.length cf, .int .i64 3, .slice none 0 0, .int .i64 1, .slice none 0 0] TCl)).drew := ⟨_, rfl⟩
  have HG5 : Hid (w5.heap[w4.heap.size]? = some (.cells #[.int .i64 1, Value.slice none 0 0, .int .i64 2, .slice (some ⟨w2.heap.size, 0, none⟩) 16 16, .int .i64 1, .slice pf front.length cf, .int .i64 3, .slice none 0 0, .int .i64 1, .slice none 0 0] TCl (0, 0))) := Lib.hid (by rw [hw5]; exact heap_alloc_new w4 _)
  have HX5 : Hid (Fresh w4 w5) := Lib.hid (by rw [hw5]; exact ((Keeps.refl _ w4).alloc _).drew)
  rw [← hw5]
  clear hw5
  refine hK _ _ (HX5.out.at HBK.out) ?_
  clear hK K
  have HF6 : Hid (Fresh w w5) := Lib.hid ((HF2.out.trans HF4.out).trans HX5.out)
  have HT5 : Hid (SlB w5 (.slice (some ⟨w2.heap.size, 0, none⟩) 16 16) (tagK key m)) := Lib.hid (SlB.all16 (HX5.out.at HB4.out) (tagK_length _ _))
  refine ord_loud rfl (fun K hK => ?_)
  go_wp2_with fail
  refine (told_c key m [(.slice none 0 0, ⟨1, []⟩), (.slice (some ⟨w2.heap.size, 0, none⟩) 16 16, ⟨2, tagK key m⟩), (.slice pf front.length cf, ⟨1, front⟩), (.slice none 0 0, ⟨3, []⟩), (.slice none 0 0, ⟨1, []⟩)] vm _ w5 HL.out (HS.out.fresh HF6.out) (by have := HML.out; omega) (CallsL.lit [(.slice none 0 0, ⟨1, []⟩), (.slice (some ⟨w2.heap.size, 0, none⟩) 16 16, ⟨2, tagK key m⟩), (.slice pf front.length cf, ⟨1, front⟩), (.slice none 0 0, ⟨3, []⟩), (.slice none 0 0, ⟨1, []⟩)] HG5.out rfl five_le (by
    intro q hq
    simp only [List.mem_cons, List.not_mem_nil, or_false] at hq
    rcases hq with rfl | rfl | rfl | rfl | rfl
    · exact SlB.nil _
    · exact HT5.out
    · exact HV.out.fresh HF6.out
    · exact SlB.nil _
    · exact SlB.nil _)) (by simp) (by simp) (by
    intro q hq
    simp only [List.mem_cons, List.not_mem_nil, or_false] at hq
    rcases hq with rfl | rfl | rfl | rfl | rfl
    · exact Nat.zero_le _
    · show (tagK key m).length ≤ _
      rw [tagK_length]; decide
    · have := HFL.out
      show front.length ≤ _
      omega
    · exact Nat.zero_le _
    · exact Nat.zero_le _) rfl).mono ?_
  rintro e w6 ⟨v, ps, rfl, ha, hp, hf⟩
  have hp' : ps.map (·.2) = [⟨[] ++ tagK key m, 0, false, false⟩, ⟨[], 0, decide (tagK key m = tagK key m), false⟩, ⟨front ++ tagK key m, 0, false, false⟩, ⟨[], 16, false, false⟩, ⟨[] ++ tagK key m, 0, false, false⟩] := hp
  rw [decide_eq_true (rfl : tagK key m = tagK key m), List.nil_append] at hp'
  obtain ⟨v0, ps1, rfl, hp0⟩ := ans_cons hp'
  obtain ⟨v1, ps2, rfl, hp1⟩ := ans_cons hp0
  obtain ⟨v2, ps3, rfl, hp2⟩ := ans_cons hp1
  obtain ⟨v3, ps4, rfl, hp3⟩ := ans_cons hp2
  obtain ⟨v4, ps5, rfl, hp4⟩ := ans_cons hp3
  obtain rfl := ans_nil hp4
  obtain ⟨g, o, c, rfl, -, -, hlie⟩ := ha.form (by simp)
  obtain ⟨x0, -, -, -⟩ := AnsL.at (i := 0) hlie rfl
  obtain ⟨-, -, x1, -⟩ := AnsL.at (i := 1) hlie rfl
  obtain ⟨x2, -, -, -⟩ := AnsL.at (i := 2) hlie rfl
  obtain ⟨-, x3, -, -⟩ := AnsL.at (i := 3) hlie rfl
  obtain ⟨x4, -, -, -⟩ := AnsL.at (i := 4) hlie rfl
  simp only [Nat.zero_mul, Nat.add_zero, Nat.add_assoc, Nat.reduceMul, Nat.reduceAdd] at x0 x1 x2 x3 x4
  have HX := Lib.hid (And.intro x0 (And.intro x1 (And.intro x2 (And.intro x3 x4))))
  have hs0 : SlB w6 v0 (tagK key m) := ha.2 (v0, ⟨tagK key m, 0, false, false⟩) (by simp)
  have hs2 : SlB w6 v2 (front ++ tagK key m) := ha.2 (v2, ⟨front ++ tagK key m, 0, false, false⟩) (by simp)
  have hs4 : SlB w6 v4 (tagK key m) := ha.2 (v4, ⟨tagK key m, 0, false, false⟩) (by simp)
  have HSS := Lib.hid (And.intro hs0 (And.intro hs2 hs4))
  have HF7 : Hid (Fresh w w6) := Lib.hid (HF6.out.trans hf)
  have HV7 := Lib.hid (HV.out.fresh HF7.out)
  have HT7 := Lib.hid (HT5.out.fresh hf)
  have HBK7 := Lib.hid (hf.at (HX5.out.at HBK.out))
  clear hp hp' hp0 hp1 hp2 hp3 hp4 ha hlie x0 x1 x2 x3 x4 hs0 hs2 hs4 hf HT5 HG5 HX5 HBK HB4 HF4 HF5 HF6 HF2 HB2
  simp only [List.length_cons, List.length_nil]
  go_wp2_with fail
  refine hK _ _ HBK7.out ?_
  clear hK K
  iterate 5 (refine ord_quiet rfl (fun K hK => ?_); go_simp; refine hK _ ?_; clear hK K)
  refine ord_last ?_
  go_wp2_with fail
  obtain ⟨x0, x1, x2, x3, x4⟩ := HX.out
  obtain ⟨s0, s2, s4⟩ := HSS.out
  have q0 := fun n => run_strB (w6.drewN n) _ _ (s0.fresh ((Keeps.refl _ w6).drewN n))
  have q2 := fun n => run_strB (w6.drewN n) _ _ (s2.fresh ((Keeps.refl _ w6).drewN n))
  have q4 := fun n => run_strB (w6.drewN n) _ _ (s4.fresh ((Keeps.refl _ w6).drewN n))
  have q1 := fun n => run_strB (w6.drewN n) _ _ (HV7.out.fresh ((Keeps.refl _ w6).drewN n))
  have q3 := fun n => run_strB (w6.drewN n) _ _ (HT7.out.fresh ((Keeps.refl _ w6).drewN n))
  have q5 := strB_append front (tagK key m)
  have q6 : ¬ (9223372036854775807 < (strB front).size + (strB (tagK key m)).size) := by
    rw [strB_size, strB_size, tagK_length]
    have := HFL.out
    omega
  clear s0 s2 s4 HX HSS HV7 HT7
  go_quiet (fail)
  go_wp2_with fail
  go_ret
  exact ⟨rfl, HF7.out.drewN _⟩
end Go.Proofs.Ytdkhpehniciijaa
