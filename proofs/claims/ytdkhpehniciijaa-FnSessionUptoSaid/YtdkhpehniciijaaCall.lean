/-
  Contract: spec.call.
-/
import Derived.Test.YtdkhpehniciijaaTold
import Derived.Test.YtdkhpehniciijaaTagOf
import Derived.BigQuiet
namespace Go.Proofs.Ytdkhpehniciijaa
open Go Go.RowKit
attribute [local irreducible] tagK
set_option linter.unusedVariables false
theorem strB_beq (a b : List UInt8) : ((strB a).toList == (strB b).toList) = decide (a = b) := by
  rw [strB_toList, strB_toList]
  by_cases h : a = b
  · subst h; simp
  · rw [decide_eq_false h]
    simpa using h
/-- does a sentence tell it? -/
def askT (fin : Bool) (c : Cl) : Bool := if c.kind = 0 then (if fin then decide (0 < c.bytes.length) else true) else true
theorem askT_other {fin : Bool} {k : Int} {x : List UInt8} (h : k ≠ 0) : askT fin ⟨k, x⟩ = true := by unfold askT; rw [if_neg h]
def CallR (key m : List UInt8) (fin : Bool) (c : Cl) (base : Nat) (w : World) (e : Ending) (w' : World) : Prop :=
  ∃ v vm, e = .returned (.tuple #[anV v (askA key m fin c), vm, .bool (askF fin c), .bool (askT fin c)]) ∧ OwnB 5 w' w.heap.size v (askA key m fin c).bytes ∧ OwnB 5 w' base vm (askM m fin c) ∧ Fresh w w'
/-- the three new blocks of call -/
theorem call_news (w : World) (o1 o2 o3 : Obj) : Fresh w (((w.alloc o1).alloc o2).alloc o3) := (((Keeps.refl _ w).alloc _).alloc _).alloc _
theorem call_results {w : World} {p : Nat} {a0 a1 a2 a3 x9 x10 x11 : Value} {tmps : Array Value} (h8 : tmps[8]? = some (.pointer (some ⟨p, 0, none⟩))) (h9 : tmps[9]? = some x9) (h10 : tmps[10]? = some x10) (h11 : tmps[11]? = some x11) (hb : w.heap[p]? = some (.cells #[a0, a1, a2, a3] TAn (0, 0))) :
    (results Try.f30 tmps).run Try.prog w = .ok (.tuple #[.agg #[a0, a1, a2, a3], x9, x10, x11]) w := by
  obtain ⟨⟨c0, c1, c2, c3⟩, -⟩ := four_cells hb
  simp [results, Try.results30, go_sem, h8, h9, h10, h11, c0, c1, c2, c3]
set_option maxRecDepth 100000 in
set_option maxHeartbeats 2000000 in
theorem call_write (key m x : List UInt8) (base : Nat) (vm vb : Value) (w : World) (hk : key.length = 32) (hm : OwnB 5 w base vm m) (hs : SlB w vb x) (hbase : base ≤ w.heap.size) (hl : m.length + x.length ≤ 140737488351232) :
    Calls Try.prog 30 #[.agg (cells8 key), vm, .bool false, .agg #[.int .i64 0, vb]] w (CallR key m false ⟨0, x⟩ base w) := by
  have HK := Lib.hid hk
  have H1 := cells8_one key
  have HKS := Lib.hid (show (cells8 key).size = 32 by rw [cells8_size, hk])
  have HM := Lib.hid hm
  have HS := Lib.hid hs
  obtain ⟨pa, ca, rfl⟩ := hs.slice
  clear hk hm hs
  go_enter Try.func30, Try.ntmps30
  go_wp2_with fail
  have HF := Lib.hid (call_news w (.cells (cells8 key) 22) (.cells #[.int .i64 0, .slice pa x.length ca] TCl) (.cells #[Value.slice none 0 0, .int .i64 0, .bool false, .bool false] TAn))
  have HBK : Hid ((((w.alloc (.cells (cells8 key) 22)).alloc (.cells #[.int .i64 0, .slice pa x.length ca] TCl)).alloc (.cells #[Value.slice none 0 0, .int .i64 0, .bool false, .bool false] TAn)).heap[w.heap.size]? = some (.cells (cells8 key) 22 (0, 0))) := Lib.hid (block_alloc (heap_alloc2_old w _ _))
  have HB1 : Hid ((((w.alloc (.cells (cells8 key) 22)).alloc (.cells #[.int .i64 0, .slice pa x.length ca] TCl)).alloc (.cells #[Value.slice none 0 0, .int .i64 0, .bool false, .bool false] TAn)).heap[w.heap.size + 1]? = some (.cells #[.int .i64 0, .slice pa x.length ca] TCl (0, 0))) := Lib.hid (block_alloc (heap_alloc2_new w _ _))
  have HB2 := Lib.hid (zeroAn_block (w.alloc (.cells (cells8 key) 22)) (.cells #[.int .i64 0, .slice pa x.length ca] TCl))
  rw [show (w.alloc (.cells (cells8 key) 22)).heap.size = w.heap.size + 1 by simp] at HB2
  generalize (((w.alloc (.cells (cells8 key) 22)).alloc (.cells #[.int .i64 0, .slice pa x.length ca] TCl)).alloc (.cells #[Value.slice none 0 0, .int .i64 0, .bool false, .bool false] TAn)) = w1 at HF HBK HB1 HB2 ⊢
  have hsz1 : w.heap.size + 2 < w1.heap.size := lt_of_block HB2.out
  refine wp_region_ord (fun w' => w'.cell? ⟨w.heap.size + 1, 1, none⟩ = some (.slice pa x.length ca)) [(0, true), (1, true), (2, true), (3, true), (5, true), (7, true), (8, true), (10, true), (4, false), (6, false), (9, false), (11, false), (12, true), (13, true), (14, true)] (by kernel_rfl) (by kernel_rfl) (by show w1.cell? _ = _; rw [cell_block HB1.out]; rfl) ?_
  iterate 1 (refine ord_quiet rfl (fun K hK => ?_); go_simp; refine hK _ ?_; clear hK K)
  refine ord_load (.slice pa x.length ca) rfl (by rfl) (fun w' hw' => ?_) ?_
  · have hc := hw'
    go_simp
  iterate 4 (refine ord_quiet rfl (fun K hK => ?_); go_simp; refine hK _ ?_; clear hK K)
  refine ord_load (.slice pa x.length ca) rfl (by rfl) (fun w' hw' => ?_) ?_
  · have hc := hw'
    go_simp
  iterate 1 (refine ord_quiet rfl (fun K hK => ?_); go_simp; refine hK _ ?_; clear hK K)
  refine ord_loud rfl (fun K hK => ?_)
  go_wp2_with fail
  obtain ⟨w2, hw2⟩ : ∃ w2, w2 = (w1.alloc (.cells #[] 5)).drew := ⟨_, rfl⟩
  have HX2 : Hid (Fresh w1 w2) := Lib.hid (by rw [hw2]; exact ((Keeps.refl _ w1).alloc _).drew)
  have HO2 : Hid (OwnB 5 w2 w1.heap.size (.slice (some ⟨w1.heap.size, 0, none⟩) 0 0) []) := Lib.hid (by
    rw [hw2]
    exact World.ownsRow_lit w1 #[] 0 (Nat.le_refl _) (by decide) rfl)
  rw [← hw2]
  clear hw2
  have hcl : ∀ w', Fresh w1 w' → w'.cell? ⟨w.heap.size + 1, 1, none⟩ = some (.slice pa x.length ca) := fun w' h => h.cellAt (by rw [cell_block HB1.out]; rfl) (fun x => x)
  have HCL := Lib.hid hcl
  clear hcl
  refine hK _ _ (HCL.out _ HX2.out) ?_
  clear hK K
  refine ord_loud rfl (fun K hK => ?_)
  refine wpList_appB rfl (.tmp 30) (.tmp 31) rfl w1.heap.size _ _ [] m rfl rfl HO2.out (HM.out.sl.fresh (HF.out.trans HX2.out)) (by rw [List.length_nil]; omega) HX2.out.size ?_
  rintro v3 w3 ⟨hO3, hK3, -⟩
  rw [List.nil_append] at hO3
  have HX3 : Hid (Fresh w1 w3) := Lib.hid (Fresh.then HX2.out hK3 (fun q hq e => by omega))
  have HO3 := Lib.hid hO3
  clear hO3 hK3
  go_wp2_with fail
  refine hK _ _ (HCL.out _ HX3.out) ?_
  clear hK K
  refine ord_loud rfl (fun K hK => ?_)
  refine wpList_appB rfl (.tmp 32) (.tmp 34) rfl w1.heap.size _ _ m x rfl rfl HO3.out (HS.out.fresh (HF.out.trans HX3.out)) (by omega) HX3.out.size ?_
  rintro v4 w4 ⟨hO4, hK4, -⟩
  have HX4 : Hid (Fresh w1 w4) := Lib.hid (Fresh.then HX3.out hK4 (fun q hq e => by omega))
  have HO4 := Lib.hid hO4
  clear hO4 hK4
  go_wp2_with fail
  refine hK _ _ (HCL.out _ HX4.out) ?_
  clear hK K
  have HB4 := Lib.hid (HX4.out.at HB2.out)
  obtain ⟨⟨c0, c1, c2, c3⟩, f0, f1, f2, f3⟩ := four_cells HB4.out
  refine ord_loud rfl (fun K hK => ?_)
  go_wp2_with fail
  have K5 := four_keeps (Keeps.refl (fun q => q = w.heap.size + 1 + 1) w4) (.slice none 0 0) (.int .i64 (x.length : Int)) (.bool false) (.bool false)
  have HK5 := Lib.hid K5
  have HB5 := Lib.hid (four_set HB4.out (.slice none 0 0) (.int .i64 (x.length : Int)) (.bool false) (.bool false))
  clear K5 c0 c1 c2 c3 f0 f1 f2 f3
  refine hK _ _ (HK5.out.cellAt (HCL.out _ HX4.out) (by simp)) ?_
  clear hK K
  iterate 3 (refine ord_quiet rfl (fun K hK => ?_); go_simp; refine hK _ ?_; clear hK K)
  refine ord_last ?_
  go_wp2_with fail
  refine bodyPost_ret (call_results rfl rfl rfl rfl HB5.out) rfl ?_
  refine ⟨_, _, rfl, World.ownsRow_nil _ _ _ _, OwnB.mono (OwnB.kept HO4.out HK5.out (fun k hk e => by omega)) (by have := HF.out.size; omega), ?_⟩
  exact Fresh.then (HF.out.trans HX4.out) HK5.out (fun q hq e => by omega)
set_option maxRecDepth 100000 in
set_option maxHeartbeats 2000000 in
theorem call_refused (key m x : List UInt8) (t : Bool) (ht : decide (0 < x.length) = t) (base : Nat) (vm vb : Value) (w : World) (hk : key.length = 32) (hm : OwnB 5 w base vm m) (hs : SlB w vb x) (hbase : base ≤ w.heap.size) (hl : m.length + x.length ≤ 140737488351232) :
    Calls Try.prog 30 #[.agg (cells8 key), vm, .bool true, .agg #[.int .i64 0, vb]] w (CallR key m true ⟨0, x⟩ base w) := by
  have HK := Lib.hid hk
  have H1 := cells8_one key
  have HKS := Lib.hid (show (cells8 key).size = 32 by rw [cells8_size, hk])
  have HM := Lib.hid hm
  have HS := Lib.hid hs
  obtain ⟨pa, ca, rfl⟩ := hs.slice
  clear hk hm hs
  have hgt : decide ((0 : Int) < (x.length : Int)) = t := by rw [← ht]; congr 1; simp
  have HT := Lib.hid ht
  clear ht
  go_enter Try.func30, Try.ntmps30
  go_wp2_with fail
  have HF := Lib.hid (call_news w (.cells (cells8 key) 22) (.cells #[.int .i64 0, .slice pa x.length ca] TCl) (.cells #[Value.slice none 0 0, .int .i64 0, .bool false, .bool false] TAn))
  have HBK : Hid ((((w.alloc (.cells (cells8 key) 22)).alloc (.cells #[.int .i64 0, .slice pa x.length ca] TCl)).alloc (.cells #[Value.slice none 0 0, .int .i64 0, .bool false, .bool false] TAn)).heap[w.heap.size]? = some (.cells (cells8 key) 22 (0, 0))) := Lib.hid (block_alloc (heap_alloc2_old w _ _))
  have HB1 : Hid ((((w.alloc (.cells (cells8 key) 22)).alloc (.cells #[.int .i64 0, .slice pa x.length ca] TCl)).alloc (.cells #[Value.slice none 0 0, .int .i64 0, .bool false, .bool false] TAn)).heap[w.heap.size + 1]? = some (.cells #[.int .i64 0, .slice pa x.length ca] TCl (0, 0))) := Lib.hid (block_alloc (heap_alloc2_new w _ _))
  have HB2 := Lib.hid (zeroAn_block (w.alloc (.cells (cells8 key) 22)) (.cells #[.int .i64 0, .slice pa x.length ca] TCl))
  rw [show (w.alloc (.cells (cells8 key) 22)).heap.size = w.heap.size + 1 by simp] at HB2
  generalize (((w.alloc (.cells (cells8 key) 22)).alloc (.cells #[.int .i64 0, .slice pa x.length ca] TCl)).alloc (.cells #[Value.slice none 0 0, .int .i64 0, .bool false, .bool false] TAn)) = w1 at HF HBK HB1 HB2 ⊢
  have hsz1 : w.heap.size + 2 < w1.heap.size := lt_of_block HB2.out
  refine wp_region_ord (fun w' => w'.cell? ⟨w.heap.size + 1, 1, none⟩ = some (.slice pa x.length ca)) [(0, true), (1, true), (2, true), (3, true), (4, true), (5, true), (6, true), (7, false), (8, true), (9, true), (10, true)] (by kernel_rfl) (by kernel_rfl) (by show w1.cell? _ = _; rw [cell_block HB1.out]; rfl) ?_
  iterate 4 (refine ord_quiet rfl (fun K hK => ?_); go_simp; refine hK _ ?_; clear hK K)
  refine ord_load (.slice pa x.length ca) rfl (by rfl) (fun w' hw' => ?_) ?_
  · have hc := hw'
    go_simp
  iterate 1 (refine ord_quiet rfl (fun K hK => ?_); go_simp; refine hK _ ?_; clear hK K)
  refine ord_load (.bool t) rfl (by rfl) (fun w' hw' => ?_) ?_
  · rw [← hgt]
    go_simp
  obtain ⟨⟨c0, c1, c2, c3⟩, f0, f1, f2, f3⟩ := four_cells HB2.out
  refine ord_loud rfl (fun K hK => ?_)
  go_wp2_with fail
  have K5 := four_keeps (Keeps.refl (fun q => q = w.heap.size + 1 + 1) w1) (.slice none 0 0) (.int .i64 0) (.bool false) (.bool true)
  have HK5 := Lib.hid K5
  have HB5 := Lib.hid (four_set HB2.out (.slice none 0 0) (.int .i64 0) (.bool false) (.bool true))
  clear K5 c0 c1 c2 c3 f0 f1 f2 f3
  refine hK _ _ (HK5.out.cellAt (by rw [cell_block HB1.out]; rfl) (by simp)) ?_
  clear hK K
  iterate 3 (refine ord_quiet rfl (fun K hK => ?_); go_simp; refine hK _ ?_; clear hK K)
  refine ord_last ?_
  go_wp2_with fail
  refine bodyPost_ret (call_results rfl rfl rfl rfl HB5.out) rfl ?_
  refine ⟨_, _, congrArg (fun b => Ending.returned (Value.tuple #[anV (.slice none 0 0) (askA key m true ⟨0, x⟩), vm, .bool (askF true ⟨0, x⟩), .bool b])) HT.out.symm, World.ownsRow_nil _ _ _ _, OwnB.kept' (OwnB.kept' HM.out HF.out (fun _ _ x => x)) HK5.out.drew (fun k e e2 => by have := (HM.out.lt k e).2; omega), ?_⟩
  exact (Fresh.then HF.out HK5.out.drew (fun q hq e => by omega))
set_option maxRecDepth 100000 in
set_option maxHeartbeats 2000000 in
theorem call_sum (key m x : List UInt8) (fin : Bool) (base : Nat) (vm vb : Value) (w : World) (hk : key.length = 32) (hm : OwnB 5 w base vm m) (hs : SlB w vb x) (hbase : base ≤ w.heap.size) (hl : m.length + x.length ≤ 140737488351232) :
    Calls Try.prog 30 #[.agg (cells8 key), vm, .bool fin, .agg #[.int .i64 1, vb]] w (CallR key m fin ⟨1, x⟩ base w) := by
  have HK := Lib.hid hk
  have H1 := cells8_one key
  have HKS := Lib.hid (show (cells8 key).size = 32 by rw [cells8_size, hk])
  have HM := Lib.hid hm
  have HS := Lib.hid hs
  obtain ⟨pa, ca, rfl⟩ := hs.slice
  clear hk hm hs
  have HTS := Lib.hid (show (cells8 (tagK key m)).size = 16 by rw [cells8_size, tagK_length])
  go_enter Try.func30, Try.ntmps30
  go_wp2_with (refine wpList_load_row rfl 22 (.tmp 4) rfl w.heap.size rfl 22 (cells8 key) (0, 0) _ (block_alloc (heap_alloc2_old w _ _)) Try.underlying22 rfl ?_ ?_; (rw [HKS.out]; exact info32B))
  have HF := Lib.hid (call_news w (.cells (cells8 key) 22) (.cells #[.int .i64 1, .slice pa x.length ca] TCl) (.cells #[Value.slice none 0 0, .int .i64 0, .bool false, .bool false] TAn))
  have HBK : Hid ((((w.alloc (.cells (cells8 key) 22)).alloc (.cells #[.int .i64 1, .slice pa x.length ca] TCl)).alloc (.cells #[Value.slice none 0 0, .int .i64 0, .bool false, .bool false] TAn)).heap[w.heap.size]? = some (.cells (cells8 key) 22 (0, 0))) := Lib.hid (block_alloc (heap_alloc2_old w _ _))
  have HB1 : Hid ((((w.alloc (.cells (cells8 key) 22)).alloc (.cells #[.int .i64 1, .slice pa x.length ca] TCl)).alloc (.cells #[Value.slice none 0 0, .int .i64 0, .bool false, .bool false] TAn)).heap[w.heap.size + 1]? = some (.cells #[.int .i64 1, .slice pa x.length ca] TCl (0, 0))) := Lib.hid (block_alloc (heap_alloc2_new w _ _))
  have HB2 := Lib.hid (zeroAn_block (w.alloc (.cells (cells8 key) 22)) (.cells #[.int .i64 1, .slice pa x.length ca] TCl))
  rw [show (w.alloc (.cells (cells8 key) 22)).heap.size = w.heap.size + 1 by simp] at HB2
  generalize (((w.alloc (.cells (cells8 key) 22)).alloc (.cells #[.int .i64 1, .slice pa x.length ca] TCl)).alloc (.cells #[Value.slice none 0 0, .int .i64 0, .bool false, .bool false] TAn)) = w1 at HF HBK HB1 HB2 ⊢
  have hsz1 : w.heap.size + 2 < w1.heap.size := lt_of_block HB2.out
  refine (TagOf_c vm m key w1 (HM.out.sl.fresh HF.out) HK.out (by omega)).mono ?_
  rintro e w2 ⟨rfl, hf⟩
  have HX2 := Lib.hid hf
  clear hf
  go_wp2_with (refine wpList_store_row rfl 25 (.tmp 12) (.tmp 41) rfl w2.heap.size (cells8 (tagK key m)) rfl rfl 25 _ (heap_alloc_new w2 _) ?_ ?_ (cells8_one _) ?_; (rw [HTS.out]; exact info16B); (rw [HTS.out]; rfl))
  have HBT := Lib.hid (row_heap (cs := cells8 (tagK key m)) (heap_alloc_new w2 (.cells (cells8 (List.replicate 16 0)) 25)))
  have HX3 : Hid (Fresh w2 ((w2.alloc (.cells (cells8 (List.replicate 16 0)) 25)).setRow w2.heap.size (cells8 (tagK key m)))) := Lib.hid (((Keeps.refl _ w2).alloc _).setRow (Or.inr (Nat.le_refl _)) _)
  rw [cells8_zeros16] at HBT HX3
  generalize ((w2.alloc _).setRow w2.heap.size (cells8 (tagK key m))) = w3 at HBT HX3 ⊢
  simp only [Act.put]
  have HX : Hid (Fresh w1 w3) := Lib.hid (HX2.out.trans HX3.out)
  have hcl : ∀ w', Fresh w3 w' → w'.cell? ⟨w.heap.size + 1, 1, none⟩ = some (.slice pa x.length ca) := fun w' h => (HX.out.trans h).cellAt (by rw [cell_block HB1.out]; rfl) (fun x => x)
  have HCL := Lib.hid hcl
  have hlt3 : w2.heap.size < w3.heap.size := lt_of_block HBT.out
  have hsz2 : w1.heap.size ≤ w2.heap.size := HX2.out.size
  clear hcl HX2 HX3
  refine wp_region_ord (fun w' => w'.cell? ⟨w.heap.size + 1, 1, none⟩ = some (.slice pa x.length ca)) [(1, true), (2, true), (4, true), (7, true), (0, false), (3, false), (5, false), (6, true), (8, false), (9, true), (10, true), (11, true)] (by kernel_rfl) (by kernel_rfl) (HCL.out _ (Keeps.refl _ w3).drew) ?_
  iterate 1 (refine ord_quiet rfl (fun K hK => ?_); go_simp; refine hK _ ?_; clear hK K)
  refine ord_load (.slice pa x.length ca) rfl (by rfl) (fun w' hw' => ?_) ?_
  · have hc := hw'
    go_simp
  iterate 2 (refine ord_quiet rfl (fun K hK => ?_); go_simp; refine hK _ ?_; clear hK K)
  refine ord_loud rfl (fun K hK => ?_)
  go_wp2_with fail
  obtain ⟨w4, hw4⟩ : ∃ w4, w4 = (w3.alloc (.cells #[] 5)).drew := ⟨_, rfl⟩
  have HX4 : Hid (Fresh w3 w4) := Lib.hid (by rw [hw4]; exact ((Keeps.refl _ w3).alloc _).drew)
  have HO4 : Hid (OwnB 5 w4 w3.heap.size (.slice (some ⟨w3.heap.size, 0, none⟩) 0 0) []) := Lib.hid (by
    rw [hw4]
    exact World.ownsRow_lit w3 #[] 0 (Nat.le_refl _) (by decide) rfl)
  rw [← hw4]
  clear hw4
  refine hK _ _ (HCL.out _ HX4.out) ?_
  clear hK K
  refine ord_loud rfl (fun K hK => ?_)
  refine wpList_appB rfl (.tmp 42) (.tmp 44) rfl w3.heap.size _ _ [] x rfl rfl HO4.out (HS.out.fresh ((HF.out.trans HX.out).trans HX4.out)) (by rw [List.length_nil]; omega) HX4.out.size ?_
  rintro v5 w5 ⟨hO5, hK5, -⟩
  rw [List.nil_append] at hO5
  have HX5 : Hid (Fresh w3 w5) := Lib.hid (Fresh.then HX4.out hK5 (fun q hq e => by omega))
  have HO5 := Lib.hid hO5
  clear hO5 hK5
  go_wp2_with fail
  refine hK _ _ (HCL.out _ HX5.out) ?_
  clear hK K
  refine ord_loud rfl (fun K hK => ?_)
  refine wpList_appB rfl (.tmp 45) (.tmp 46) rfl w3.heap.size _ _ x (tagK key m) rfl rfl HO5.out (SlB.all16 (HX5.out.at HBT.out) (tagK_length _ _)) (by rw [tagK_length]; omega) HX5.out.size ?_
  rintro v6 w6 ⟨hO6, hK6, -⟩
  have HX6 : Hid (Fresh w3 w6) := Lib.hid (Fresh.then HX5.out hK6 (fun q hq e => by omega))
  have HO6 := Lib.hid hO6
  obtain ⟨pv, cv, hvv⟩ := hO6.sl.slice
  obtain ⟨nv, hnv⟩ : ∃ n, n = (x ++ tagK key m).length := ⟨_, rfl⟩
  rw [← hnv] at hvv
  subst hvv
  clear hO6 hK6 hnv
  go_wp2_with fail
  refine hK _ _ (HCL.out _ HX6.out) ?_
  clear hK K
  iterate 1 (refine ord_quiet rfl (fun K hK => ?_); go_simp; refine hK _ ?_; clear hK K)
  have HB6 := Lib.hid (HX6.out.at (HX.out.at HB2.out))
  obtain ⟨⟨c0, c1, c2, c3⟩, f0, f1, f2, f3⟩ := four_cells HB6.out
  refine ord_loud rfl (fun K hK => ?_)
  go_wp2_with fail
  have K7 := four_keeps (Keeps.refl (fun q => q = w.heap.size + 1 + 1) w6) (.slice pv nv cv) (.int .i64 0) (.bool false) (.bool false)
  have HK7 := Lib.hid K7
  have HB7 := Lib.hid (four_set HB6.out (.slice pv nv cv) (.int .i64 0) (.bool false) (.bool false))
  clear K7 c0 c1 c2 c3 f0 f1 f2 f3
  refine hK _ _ (HK7.out.cellAt (HCL.out _ HX6.out) (by simp)) ?_
  clear hK K
  iterate 3 (refine ord_quiet rfl (fun K hK => ?_); go_simp; refine hK _ ?_; clear hK K)
  refine ord_last ?_
  go_wp2_with fail
  refine bodyPost_ret (call_results rfl rfl rfl rfl HB7.out) rfl ?_
  have hsw := HF.out.size
  refine ⟨_, _, rfl, OwnB.mono (OwnB.kept HO6.out HK7.out (fun k hk e => by omega)) (by omega), ?_, ?_⟩
  · exact OwnB.kept' (OwnB.kept' HM.out ((HF.out.trans HX.out).trans HX6.out) (fun _ _ x => x)) HK7.out (fun k e e2 => by have := (HM.out.lt k e).2; omega)
  · exact Fresh.then ((HF.out.trans HX.out).trans HX6.out) HK7.out (fun q hq e => by omega)
set_option maxRecDepth 100000 in
set_option maxHeartbeats 2000000 in
theorem call_verify (key m x : List UInt8) (fin : Bool) (base : Nat) (vm vb : Value) (w : World) (hk : key.length = 32) (hm : OwnB 5 w base vm m) (hs : SlB w vb x) (hbase : base ≤ w.heap.size) (hl : m.length + x.length ≤ 140737488351232) :
    Calls Try.prog 30 #[.agg (cells8 key), vm, .bool fin, .agg #[.int .i64 2, vb]] w (CallR key m fin ⟨2, x⟩ base w) := by
  have HK := Lib.hid hk
  have H1 := cells8_one key
  have HKS := Lib.hid (show (cells8 key).size = 32 by rw [cells8_size, hk])
  have HM := Lib.hid hm
  have HS := Lib.hid hs
  obtain ⟨pa, ca, rfl⟩ := hs.slice
  clear hk hm hs
  have HTS := Lib.hid (show (cells8 (tagK key m)).size = 16 by rw [cells8_size, tagK_length])
  obtain ⟨d, hd⟩ : ∃ d, d = decide (x = tagK key m) := ⟨_, rfl⟩
  have HD := Lib.hid hd
  have hbe : ((strB x).toList == (strB (tagK key m)).toList) = d := by rw [hd]; exact strB_beq _ _
  have HBE := Lib.hid hbe
  clear hd hbe
  go_enter Try.func30, Try.ntmps30
  go_wp2_with (refine wpList_load_row rfl 22 (.tmp 4) rfl w.heap.size rfl 22 (cells8 key) (0, 0) _ (block_alloc (heap_alloc2_old w _ _)) Try.underlying22 rfl ?_ ?_; (rw [HKS.out]; exact info32B))
  have HF := Lib.hid (call_news w (.cells (cells8 key) 22) (.cells #[.int .i64 2, .slice pa x.length ca] TCl) (.cells #[Value.slice none 0 0, .int .i64 0, .bool false, .bool false] TAn))
  have HBK : Hid ((((w.alloc (.cells (cells8 key) 22)).alloc (.cells #[.int .i64 2, .slice pa x.length ca] TCl)).alloc (.cells #[Value.slice none 0 0, .int .i64 0, .bool false, .bool false] TAn)).heap[w.heap.size]? = some (.cells (cells8 key) 22 (0, 0))) := Lib.hid (block_alloc (heap_alloc2_old w _ _))
  have HB1 : Hid ((((w.alloc (.cells (cells8 key) 22)).alloc (.cells #[.int .i64 2, .slice pa x.length ca] TCl)).alloc (.cells #[Value.slice none 0 0, .int .i64 0, .bool false, .bool false] TAn)).heap[w.heap.size + 1]? = some (.cells #[.int .i64 2, .slice pa x.length ca] TCl (0, 0))) := Lib.hid (block_alloc (heap_alloc2_new w _ _))
  have HB2 := Lib.hid (zeroAn_block (w.alloc (.cells (cells8 key) 22)) (.cells #[.int .i64 2, .slice pa x.length ca] TCl))
  rw [show (w.alloc (.cells (cells8 key) 22)).heap.size = w.heap.size + 1 by simp] at HB2
  generalize (((w.alloc (.cells (cells8 key) 22)).alloc (.cells #[.int .i64 2, .slice pa x.length ca] TCl)).alloc (.cells #[Value.slice none 0 0, .int .i64 0, .bool false, .bool false] TAn)) = w1 at HF HBK HB1 HB2 ⊢
  have hsz1 : w.heap.size + 2 < w1.heap.size := lt_of_block HB2.out
  refine (TagOf_c vm m key w1 (HM.out.sl.fresh HF.out) HK.out (by omega)).mono ?_
  rintro e w2 ⟨rfl, hf⟩
  have HX2 := Lib.hid hf
  clear hf
  go_wp2_with (refine wpList_store_row rfl 25 (.tmp 13) (.tmp 54) rfl w2.heap.size (cells8 (tagK key m)) rfl rfl 25 _ (heap_alloc_new w2 _) ?_ ?_ (cells8_one _) ?_; (rw [HTS.out]; exact info16B); (rw [HTS.out]; rfl))
  have HBT := Lib.hid (row_heap (cs := cells8 (tagK key m)) (heap_alloc_new w2 (.cells (cells8 (List.replicate 16 0)) 25)))
  have HX3 : Hid (Fresh w2 ((w2.alloc (.cells (cells8 (List.replicate 16 0)) 25)).setRow w2.heap.size (cells8 (tagK key m)))) := Lib.hid (((Keeps.refl _ w2).alloc _).setRow (Or.inr (Nat.le_refl _)) _)
  rw [cells8_zeros16] at HBT HX3
  generalize ((w2.alloc _).setRow w2.heap.size (cells8 (tagK key m))) = w3 at HBT HX3 ⊢
  simp only [Act.put]
  have HX : Hid (Fresh w1 w3) := Lib.hid (HX2.out.trans HX3.out)
  have hcl : ∀ w', Fresh w3 w' → w'.cell? ⟨w.heap.size + 1, 1, none⟩ = some (.slice pa x.length ca) := fun w' h => (HX.out.trans h).cellAt (by rw [cell_block HB1.out]; rfl) (fun x => x)
  have HCL := Lib.hid hcl
  have hlt3 : w2.heap.size < w3.heap.size := lt_of_block HBT.out
  have hsz2 : w1.heap.size ≤ w2.heap.size := HX2.out.size
  clear hcl HX2 HX3
  refine wp_region_ord (fun w' => w'.cell? ⟨w.heap.size + 1, 1, none⟩ = some (.slice pa x.length ca) ∧ SlB w' (.slice pa x.length ca) x ∧ SlB w' (.slice (some ⟨w2.heap.size, 0, none⟩) 16 16) (tagK key m)) [(0, true), (1, true), (2, true), (3, true), (4, true), (5, true), (6, true), (7, true), (8, false), (9, true), (10, true), (11, true)] (by kernel_rfl) (by kernel_rfl) ⟨HCL.out _ (Keeps.refl _ w3).drew, HS.out.fresh (HF.out.trans HX.out).drew, SlB.all16 HBT.out (tagK_length _ _)⟩ ?_
  iterate 1 (refine ord_quiet rfl (fun K hK => ?_); go_simp; refine hK _ ?_; clear hK K)
  refine ord_load (.slice pa x.length ca) rfl (by rfl) (fun w' hw' => ?_) ?_
  · have hc := hw'.1
    go_simp
  refine ord_load (.string (strB x)) rfl (by rfl) (fun w' hw' => ?_) ?_
  · have hr := run_strB w' _ _ hw'.2.1
    go_simp
  iterate 1 (refine ord_quiet rfl (fun K hK => ?_); go_simp; refine hK _ ?_; clear hK K)
  refine ord_load (.string (strB (tagK key m))) rfl (by rfl) (fun w' hw' => ?_) ?_
  · have hr := run_strB w' _ _ hw'.2.2
    go_simp
  refine ord_load (.bool d) rfl (by rfl) (fun w' hw' => ?_) ?_
  · rw [← HBE.out]
    go_simp
  iterate 2 (refine ord_quiet rfl (fun K hK => ?_); go_simp; refine hK _ ?_; clear hK K)
  have HB6 := Lib.hid (HX.out.at HB2.out)
  obtain ⟨⟨c0, c1, c2, c3⟩, f0, f1, f2, f3⟩ := four_cells HB6.out
  refine ord_loud rfl (fun K hK => ?_)
  go_wp2_with fail
  have K7 := four_keeps (Keeps.refl (fun q => q = w.heap.size + 1 + 1) w3) (.slice none 0 0) (.int .i64 0) (.bool d) (.bool false)
  have HK7 := Lib.hid K7
  have HB7 := Lib.hid (four_set HB6.out (.slice none 0 0) (.int .i64 0) (.bool d) (.bool false))
  clear K7 c0 c1 c2 c3 f0 f1 f2 f3
  refine hK _ _ ⟨HK7.out.cellAt (HCL.out _ (Keeps.refl _ w3)) (by simp), ?_, ?_⟩ ?_
  · exact HS.out.fresh (Fresh.then (HF.out.trans HX.out) HK7.out.drew (fun q hq e => by omega))
  · exact (SlB.all16 HBT.out (tagK_length _ _)).keeps HK7.out.drew (fun k e h1 e2 => by have : w2.heap.size = k := Option.some.inj e; omega)
  clear hK K
  iterate 3 (refine ord_quiet rfl (fun K hK => ?_); go_simp; refine hK _ ?_; clear hK K)
  refine ord_last ?_
  go_wp2_with fail
  refine bodyPost_ret (call_results rfl rfl rfl rfl HB7.out) rfl ?_
  refine ⟨_, _, by rw [askA_verify, ← HD.out]; rfl, World.ownsRow_nil _ _ _ _, ?_, ?_⟩
  · exact OwnB.kept' (OwnB.kept' HM.out (HF.out.trans HX.out) (fun _ _ x => x)) HK7.out.drew (fun k e e2 => by have := (HM.out.lt k e).2; omega)
  · exact Fresh.then (HF.out.trans HX.out) HK7.out.drew (fun q hq e => by omega)
set_option maxRecDepth 100000 in
set_option maxHeartbeats 2000000 in
theorem call_size (key m x : List UInt8) (fin : Bool) (base : Nat) (vm vb : Value) (w : World) (hk : key.length = 32) (hm : OwnB 5 w base vm m) (hs : SlB w vb x) (hbase : base ≤ w.heap.size) (hl : m.length + x.length ≤ 140737488351232) :
    Calls Try.prog 30 #[.agg (cells8 key), vm, .bool fin, .agg #[.int .i64 3, vb]] w (CallR key m fin ⟨3, x⟩ base w) := by
  have HK := Lib.hid hk
  have H1 := cells8_one key
  have HKS := Lib.hid (show (cells8 key).size = 32 by rw [cells8_size, hk])
  have HM := Lib.hid hm
  have HS := Lib.hid hs
  obtain ⟨pa, ca, rfl⟩ := hs.slice
  clear hk hm hs
  go_enter Try.func30, Try.ntmps30
  go_wp2_with fail
  have HB5 : (((w.alloc (.cells (cells8 key) 22)).alloc (.cells #[.int .i64 3, .slice pa x.length ca] TCl)).alloc (.cells #[Value.slice none 0 0, .int .i64 16, .bool false, .bool false] TAn)).heap[w.heap.size + 1 + 1]? = some (.cells #[Value.slice none 0 0, .int .i64 16, .bool false, .bool false] TAn (0, 0)) := by
    have := heap_alloc2_new (w.alloc (.cells (cells8 key) 22)) (.cells #[.int .i64 3, .slice pa x.length ca] TCl) (.cells #[Value.slice none 0 0, .int .i64 16, .bool false, .bool false] TAn)
    rw [show (w.alloc (.cells (cells8 key) 22)).heap.size = w.heap.size + 1 by simp] at this
    exact this
  refine bodyPost_ret (call_results rfl rfl rfl rfl HB5) rfl ?_
  refine ⟨.slice none 0 0, vm, rfl, World.ownsRow_nil _ _ _ _, ?_, call_news w _ _ _⟩
  exact OwnB.kept' HM.out (call_news w _ _ _) (fun _ _ x => x)
set_option maxRecDepth 100000 in
set_option maxHeartbeats 2000000 in
theorem call_other (key m x : List UInt8) (fin : Bool) (kd : Int) (h0 : kd ≠ 0) (h1 : kd ≠ 1) (h2 : kd ≠ 2) (h3 : kd ≠ 3) (base : Nat) (vm vb : Value) (w : World) (hk : key.length = 32) (hm : OwnB 5 w base vm m) (hs : SlB w vb x) (hbase : base ≤ w.heap.size) (hl : m.length + x.length ≤ 140737488351232) :
    Calls Try.prog 30 #[.agg (cells8 key), vm, .bool fin, .agg #[.int .i64 kd, vb]] w (CallR key m fin ⟨kd, x⟩ base w) := by
  have HK := Lib.hid hk
  have H1 := cells8_one key
  have HKS := Lib.hid (show (cells8 key).size = 32 by rw [cells8_size, hk])
  have HM := Lib.hid hm
  have HS := Lib.hid hs
  obtain ⟨pa, ca, rfl⟩ := hs.slice
  clear hk hm hs
  have b0 : (kd == 0) = false := by simp [h0]
  have b1 : (kd == 1) = false := by simp [h1]
  have b2 : (kd == 2) = false := by simp [h2]
  have b3 : (kd == 3) = false := by simp [h3]
  have HA := Lib.hid (askA_other key m x fin kd h0 h1 h2 h3)
  have HA2 := Lib.hid (askM_other m x fin kd h0)
  have HA3 := Lib.hid (askF_other x fin kd h1 h2)
  have HA4 := Lib.hid (askT_other (fin := fin) (x := x) h0)
  clear h0 h1 h2 h3
  go_enter Try.func30, Try.ntmps30
  go_wp2_with fail
  have HB5 : (((w.alloc (.cells (cells8 key) 22)).alloc (.cells #[.int .i64 kd, .slice pa x.length ca] TCl)).alloc (.cells #[Value.slice none 0 0, .int .i64 0, .bool false, .bool false] TAn)).heap[w.heap.size + 1 + 1]? = some (.cells #[Value.slice none 0 0, .int .i64 0, .bool false, .bool false] TAn (0, 0)) := by
    have := heap_alloc2_new (w.alloc (.cells (cells8 key) 22)) (.cells #[.int .i64 kd, .slice pa x.length ca] TCl) (.cells #[Value.slice none 0 0, .int .i64 0, .bool false, .bool false] TAn)
    rw [show (w.alloc (.cells (cells8 key) 22)).heap.size = w.heap.size + 1 by simp] at this
    exact this
  refine bodyPost_ret (call_results rfl rfl rfl rfl HB5) rfl ?_
  refine ⟨.slice none 0 0, vm, by rw [HA.out, HA3.out, HA4.out]; rfl, by rw [HA.out]; exact World.ownsRow_nil _ _ _ _, ?_, call_news w _ _ _⟩
  rw [HA2.out]
  exact OwnB.kept' HM.out (call_news w _ _ _) (fun _ _ x => x)
/-- call -/
theorem call_c (key m : List UInt8) (fin : Bool) (c : Cl) (base : Nat) (vm vb : Value) (w : World) (hk : key.length = 32) (hm : OwnB 5 w base vm m) (hs : SlB w vb c.bytes) (hbase : base ≤ w.heap.size) (hl : m.length + c.bytes.length ≤ 140737488351232) :
    Calls Try.prog 30 #[.agg (cells8 key), vm, .bool fin, .agg #[.int .i64 c.kind, vb]] w (CallR key m fin c base w) := by
  obtain ⟨kd, x⟩ := c
  by_cases h0 : kd = 0
  · subst h0
    cases fin with
    | false => exact call_write key m x base vm vb w hk hm hs hbase hl
    | true => exact call_refused key m x _ rfl base vm vb w hk hm hs hbase hl
  · by_cases h1 : kd = 1
    · subst h1; exact call_sum key m x fin base vm vb w hk hm hs hbase hl
    · by_cases h2 : kd = 2
      · subst h2; exact call_verify key m x fin base vm vb w hk hm hs hbase hl
      · by_cases h3 : kd = 3
        · subst h3; exact call_size key m x fin base vm vb w hk hm hs hbase hl
        · exact call_other key m x fin kd h0 h1 h2 h3 base vm vb w hk hm hs hbase hl
end Go.Proofs.Ytdkhpehniciijaa
