/-
  The walk of laws.FnFront.
-/
import Derived.Test.YtdkhpehniciijaaTold
import Derived.Test.YtdkhpehniciijaaFnNothing
import Derived.BigQuiet
namespace Go.Proofs.Ytdkhpehniciijaa
open Go Go.RowKit
attribute [local irreducible] tagK
theorem strB_append (a b : List UInt8) : strB a ++ strB b = strB (a ++ b) := by
  unfold strB
  apply ByteArray.ext
  simp [ByteArray.data_append]
theorem CallsL.lit {w : World} {g : Nat} {cs : Array Value} (qs : List (Value × Cl)) (hb : w.heap[g]? = some (.cells cs TCl (0, 0))) (hc : cs = (callCells qs).toArray) (hl : qs.length ≤ maxLen) (hs : ∀ q ∈ qs, SlB w q.1 q.2.bytes) :
    CallsL w (.slice (some ⟨g, 0, none⟩) qs.length qs.length) qs := by
  refine ⟨Or.inr ⟨_, _, rfl, Nat.le_refl _, hl, ?_⟩, hs⟩
  intro j u hu
  rw [Addr.add_lit, Nat.zero_add, cell_block hb, hc]
  simpa using hu
theorem ans_cons {ps : List (Value × An)} {a : An} {r : List An} (h : ps.map (·.2) = a :: r) : ∃ v ps', ps = (v, a) :: ps' ∧ ps'.map (·.2) = r := by
  cases ps with
  | nil => simp at h
  | cons p ps' =>
    rw [List.map_cons] at h
    obtain ⟨h1, h2⟩ := List.cons.inj h
    exact ⟨p.1, ps', by rw [← h1], h2⟩
theorem strB_size (a : List UInt8) : (strB a).size = a.length := by simp [strB, ByteArray.size]
theorem one_le : 1 ≤ maxLen := by decide
theorem ans_nil {ps : List (Value × An)} (h : ps.map (·.2) = []) : ps = [] := List.map_eq_nil_iff.1 h
set_option maxRecDepth 100000 in
theorem fnFront_c (key m front : List UInt8) (vm vf : Value) (w : World) (hl : key.length = 32) (hs : SlB w vm m) (hf : SlB w vf front) (hml : m.length ≤ 140737488351232) (hfl : front.length ≤ 140737488351232) :
    Calls Try.prog 12 #[.agg (cells8 key), vm, vf] w fun e w' => e = .returned (.bool true) ∧ Fresh w w' := by
  have HL := Lib.hid hl
  have H1 := cells8_one key
  have HKS := Lib.hid (show (cells8 key).size = 32 by rw [cells8_size, hl])
  have HTS := Lib.hid (show (cells8 (tagK key m)).size = 16 by rw [cells8_size, tagK_length])
  obtain ⟨pf, cf, rfl⟩ := hf.slice
  have HS := Lib.hid hs
  have HV := Lib.hid hf
  have HML := Lib.hid hml
  have HFL := Lib.hid hfl
  clear hl hs hf hml hfl
  go_enter Try.func12, Try.ntmps12
  go_wp2_with (refine wpList_load_row rfl 22 (.tmp 3) rfl w.heap.size rfl 22 (cells8 key) (0, 0) _ (heap_alloc_new w _) Try.underlying22 rfl ?_ ?_; (rw [HKS.out]; exact info32B))
  have HF1 : Hid (Fresh w ((w.alloc (.cells (cells8 key) 22)).alloc (.cells #[Value.int .i64 1, .slice pf front.length cf] TCl))) := Lib.hid (((Keeps.refl _ w).alloc _).alloc _)
  have HB1 := Lib.hid (heap_alloc2_old w (.cells (cells8 key) 22) (.cells #[Value.int .i64 1, .slice pf front.length cf] TCl))
  have HB2 := Lib.hid (heap_alloc2_new w (.cells (cells8 key) 22) (.cells #[Value.int .i64 1, .slice pf front.length cf] TCl))
  generalize ((w.alloc (.cells (cells8 key) 22)).alloc (.cells #[Value.int .i64 1, .slice pf front.length cf] TCl)) = w1 at HF1 HB1 HB2 ⊢
  refine (told_c key m [(.slice pf front.length cf, ⟨1, front⟩)] vm _ w1 HL.out (HS.out.fresh HF1.out) (by have := HML.out; omega) (CallsL.lit [(.slice pf front.length cf, ⟨1, front⟩)] HB2.out rfl one_le (by simpa using HV.out.fresh HF1.out)) (by simp) (by simp) (by have := HFL.out; simp; omega) rfl).mono ?_
  rintro e w2 ⟨v, ps, rfl, ha, hp, hf⟩
  have HF2 : Hid (Fresh w w2) := Lib.hid (HF1.out.trans hf)
  have HBK := Lib.hid (hf.at HB1.out)
  rw [List.map_cons, List.map_nil, sess_cons, askA_sum] at hp
  obtain ⟨v0, ps1, rfl, hp2⟩ := ans_cons hp
  obtain rfl := ans_nil hp2
  obtain ⟨g, o, c, rfl, -, -, hlie⟩ := ha.form (by simp)
  obtain ⟨e0, -, -, -⟩ := AnsL.at (i := 0) hlie rfl
  simp only [Nat.zero_mul, Nat.add_zero] at e0
  have hs0 : SlB w2 v0 (front ++ tagK key m) := ha.2 _ (List.mem_cons_self)
  have HE0 := Lib.hid e0
  have HS0 := Lib.hid hs0
  clear hp hp2 ha hlie e0 hs0 hf
  simp only [List.length_cons, List.length_nil]
  go_wp2_with (refine wpList_load_row rfl 22 (.tmp 3) rfl w.heap.size rfl 22 (cells8 key) (0, 0) _ HBK.out Try.underlying22 rfl ?_ ?_; (rw [HKS.out]; exact info32B))
  refine (Tag_c vm m key w2 (HS.out.fresh HF2.out) HL.out).mono ?_
  rintro e w3 ⟨rfl, hf⟩
  have HF3 : Hid (Fresh w w3) := Lib.hid (HF2.out.trans hf)
  have HE3 := Lib.hid (hf.cellAt HE0.out (fun x => x))
  have HS3 := Lib.hid (HS0.out.fresh hf)
  have HV3 := Lib.hid (HV.out.fresh HF3.out)
  clear hf HE0 HS0 HBK
  go_wp2_with (refine wpList_store_row rfl 25 (.tmp 9) (.tmp 21) rfl w3.heap.size (cells8 (tagK key m)) rfl rfl 25 _ (heap_alloc_new w3 _) ?_ ?_ (cells8_one _) ?_; (rw [HTS.out]; exact info16B); (rw [HTS.out]; rfl))
  have HB4 := Lib.hid (row_heap (cs := cells8 (tagK key m)) (heap_alloc_new w3 (.cells (cells8 (List.replicate 16 0)) 25)))
  have HF4 : Hid (Fresh w3 ((w3.alloc (.cells (cells8 (List.replicate 16 0)) 25)).setRow w3.heap.size (cells8 (tagK key m)))) := Lib.hid (((Keeps.refl _ w3).alloc _).setRow (Or.inr (Nat.le_refl _)) _)
  rw [cells8_zeros16] at HB4 HF4
  generalize ((w3.alloc _).setRow w3.heap.size (cells8 (tagK key m))) = w4 at HB4 HF4 ⊢
  simp only [Act.put]
  have c0 := HF4.out.cellAt HE3.out (fun x => x)
  have q0 := fun n => run_strB (w4.drewN n) _ _ (HS3.out.fresh (HF4.out.drewN n))
  have q1 := fun n => run_strB (w4.drewN n) _ _ (HV3.out.fresh (HF4.out.drewN n))
  have q2 := fun n => run_strB (w4.drewN n) _ _ (SlB.all16 (block_drewN (n := n) HB4.out) (tagK_length _ _))
  have q3 := strB_append front (tagK key m)
  have q4 : ¬ (9223372036854775807 < (strB front).size + (strB (tagK key m)).size) := by
    rw [strB_size, strB_size, tagK_length]
    have := HFL.out
    omega
  go_quiet (fail)
  go_wp2_with fail
  go_ret
  exact ⟨rfl, (HF3.out.trans HF4.out).drewN _⟩
end Go.Proofs.Ytdkhpehniciijaa
