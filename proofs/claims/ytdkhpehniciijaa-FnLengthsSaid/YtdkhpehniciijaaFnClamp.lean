/-
  The walk of laws.FnClamp.
-/
import Derived.Test.YtdkhpehniciijaaClampLaw
import Derived.Test.YtdkhpehniciijaaFnZero
namespace Go.Proofs.Ytdkhpehniciijaa
open Go Go.RowKit
theorem SlB.pre {w : World} {b k : Nat} {T : TypeId} {l : List UInt8} (h : w.heap[b]? = some (.cells (cells8 l) T (0, 0))) (hk : k ≤ l.length) (hl : l.length ≤ maxLen) : SlB w (.slice (some ⟨b, 0, none⟩) k l.length) (l.take k) := by
  have e : (l.take k).length = k := by rw [List.length_take]; omega
  have := SlB.of (w := w) (b := b) (o := 0) (c := l.length) (l := l.take k) (by omega) hl (fun i hi => by
    rw [Nat.zero_add, cell_block h, cells8_get (by omega)]
    simp [List.getD, show i < k by omega])
  rwa [e] at this
theorem clamp_splice (key : List UInt8) (h : key.length = 32) : splice (vals8 key) 0 (vals8 ((clampL (key.take 16)).take 32)) = vals8 (clampL (key.take 16) ++ key.drop 16) := by
  have hl : (clampL (key.take 16)).length = 16 := by rw [clampL_len]; simp; omega
  rw [List.take_of_length_le (by omega)]
  unfold splice
  rw [vals8_append, List.take_zero, List.nil_append, vals8_len, hl, Nat.zero_add]
  unfold vals8
  rw [List.map_drop]
theorem exec_index16 {o : Oper} {a : Act} {w : World} (x : Operand) (i : Nat) (ho : o.op = .index 25 x (.const (.int .i64 (i : Int)))) (l : List UInt8) (hx : a.eval x = .agg (cells8 l)) (hl : l.length = 16) (hi : i < 16) :
    (execOp a.eval o).run Try.prog w = .ok (.value (.int .u8 (u8 (l.getD i 0)))) w := by
  obtain ⟨i0, hi0, -, hz1, -⟩ := info_parts infoByte
  have hb : (0 : Int) ≤ (i : Int) ∧ (i : Int) < (16 : Nat) := by omega
  have hp := run_part8 l i (by omega) w
  have hidx : (Instr.index 25 (.agg (cells8 l)) (.int .i64 (i : Int))).run Try.prog w = .ok (.int .u8 (u8 (l.getD i 0))) w := by
    unfold Instr.index
    simp only [asIntOf, Sem.run_bind, Sem.run_pure, Result.andThen_ok, run_underlying Try.underlying25, if_pos hb, sizeOf, typeInfo, Int.toNat_natCast]
    simp [hi0, hz1, hp]
  have hc : a.eval (.const (.int .i64 (i : Int))) = .int .i64 (i : Int) := rfl
  unfold execOp
  simp only [ho, hx, hc, Sem.run_bind, hidx, Result.andThen_ok, Sem.run_pure]
/-- a key with one byte -/
def key9 : List UInt8 := [0, 0, 0, 0, 0, 0, 0, 0, 0, 0, 0, 0, 0, 0, 0, 0, 0, 0, 0, 0, 9, 0, 0, 0, 0, 0, 0, 0, 0, 0, 0, 0]
theorem tag9 : tagK key9 [] = [0, 0, 0, 0, 9, 0, 0, 0, 0, 0, 0, 0, 0, 0, 0, 0] := tag_nothing key9 rfl
attribute [local irreducible] tagK tagB splice clampL
set_option maxRecDepth 100000 in
set_option maxHeartbeats 1000000 in
theorem fnClamp_c (key m : List UInt8) (v : Value) (w : World) (hl : key.length = 32) (hs : SlB w v m) :
    Calls Try.prog 3 #[.agg (cells8 key), v] w fun e w' => e = .returned (.bool true) ∧ Fresh w w' := by
  have HL := Lib.hid hl
  have H1 := cells8_one key
  have HOL := Lib.hid (show (clampL (key.take 16) ++ key.drop 16).length = 32 by rw [List.length_append, clampL_len]; simp; omega)
  have HT := Lib.hid (tag_clamp key m hl)
  have HKS := Lib.hid (show (cells8 key).size = 32 by rw [cells8_size, hl])
  have HOS := Lib.hid (show (cells8 (clampL (key.take 16) ++ key.drop 16)).size = 32 by rw [cells8_size, HOL.out])
  have HZ := Lib.hid (clamp_splice key hl)
  have HTL := Lib.hid (show (key.take 16).length = 16 by simp; omega)
  have HS := Lib.hid hs
  clear hl hs
  go_enter Try.func3, Try.ntmps3
  go_wp2_with (first
    | (refine wpList_load_row rfl 22 (.tmp 2) rfl w.heap.size rfl 22 (cells8 key) (0, 0) _ (heap_alloc_new w _) Try.underlying22 rfl ?_ ?_; (rw [HKS.out]; exact info32B))
    | (refine wpList_store_row rfl 22 (.tmp 5) (.tmp 6) rfl (w.heap.size + 1) (cells8 key) rfl rfl 22 _ (heap_alloc2_new w _ _) ?_ ?_ H1 ?_; (rw [HKS.out]; exact info32B); (rw [HKS.out]; rfl)))
  have HF0 : Hid (Fresh w (((w.alloc (.cells (cells8 key) 22)).alloc (.cells (vals8 (List.replicate 32 0)).toArray 22)).setRow (w.heap.size + 1) (cells8 key))) := Lib.hid ((((Keeps.refl _ w).alloc _).alloc _).setRow (Or.inr (Nat.le_succ _)) _)
  have HB1 : Hid ((((w.alloc (.cells (cells8 key) 22)).alloc (.cells (vals8 (List.replicate 32 0)).toArray 22)).setRow (w.heap.size + 1) (cells8 key)).heap[w.heap.size + 1]? = some (.cells (cells8 key) 22 (0, 0))) := Lib.hid (row_heap (heap_alloc2_new w _ _))
  have HB0 : Hid ((((w.alloc (.cells (cells8 key) 22)).alloc (.cells (vals8 (List.replicate 32 0)).toArray 22)).setRow (w.heap.size + 1) (cells8 key)).heap[w.heap.size]? = some (.cells (cells8 key) 22 (0, 0))) := Lib.hid (by rw [setRow_other _ _ _ _ (by omega)]; exact block_alloc (heap_alloc_new w _))
  refine wp_region_ord (fun _ => True) [(0, true), (1, true), (2, false), (3, false)] (by kernel_rfl) (by kernel_rfl) trivial ?_
  iterate 2 (refine ord_quiet rfl (fun K hK => ?_); go_simp; refine hK _ ?_; clear hK K)
  refine ord_loud rfl (fun K hK => ?_)
  go_wp2_with fail
  have hpre := SlB.pre (k := 16) HB0.out (by rw [HL.out]; decide) (by rw [HL.out]; decide)
  rw [HL.out] at hpre
  refine (Clamped_c _ (key.take 16) _ (hpre.fresh (Keeps.refl _ _).drew) HTL.out).mono ?_
  clear hpre
  rintro e w1 ⟨v1, rfl, hown, hf⟩
  have HOWN := Lib.hid hown
  have HF1 : Hid (Fresh w w1) := Lib.hid (Fresh.then HF0.out.drew hf (fun _ _ h => h))
  have HB10 := Lib.hid (hf.at HB0.out)
  have HB11 := Lib.hid (hf.at HB1.out)
  clear hown hf HF0 HB1 HB0
  go_wp2_with fail
  refine hK _ _ trivial ?_
  clear hK K
  refine ord_loud rfl (fun K hK => ?_)
  refine wpList_copyB rfl (.tmp 7) (.tmp 9) 23 23 rfl 5 (by kernel_rfl) (by kernel_rfl) (w.heap.size + 1) 0 32 32 _ (clampL (key.take 16)) rfl rfl HOWN.out.sl (vals8 key) 22 HB11.out (by rw [vals8_len, clampL_len, HTL.out, HL.out]; decide) ?_
  intro w2 HG HK
  have HB21 : Hid (w2.heap[w.heap.size + 1]? = some (.cells (cells8 (clampL (key.take 16) ++ key.drop 16)) 22 (0, 0))) := Lib.hid (by have h := HG.out; rw [HZ.out] at h; exact h)
  have HB20 : Hid (w2.heap[w.heap.size]? = some (.cells (cells8 key) 22 (0, 0))) := Lib.hid (HK.out.at HB10.out (by omega))
  have HF2 : Hid (Fresh w w2) := Lib.hid (HF1.out.then HK.out (fun q hq e => by omega))
  clear HG HK HB10 HB11 HF1 HOWN
  go_wp2_with fail
  refine hK _ _ trivial ?_
  clear hK K
  refine ord_last ?_
  go_wp2_with fail
  refine wp_region_ord (fun w' => w'.heap[w.heap.size]? = some (.cells (cells8 key) 22 (0, 0)) ∧ w'.heap[w.heap.size + 1]? = some (.cells (cells8 (clampL (key.take 16) ++ key.drop 16)) 22 (0, 0))) [(0, true), (1, true), (3, true), (4, true), (2, false), (5, false), (6, true), (7, true), (8, true), (9, false), (10, true), (11, true), (12, true), (13, true)] (by kernel_rfl) (by kernel_rfl) ⟨HB20.out, HB21.out⟩ ?_
  refine ord_quiet rfl (fun K hK => ?_); go_simp; refine hK _ ?_; clear hK K
  refine ord_load (.agg (cells8 key)) rfl (by rfl) (fun w' hw' => exec_load_row _ _ rfl w.heap.size rfl _ _ _ hw'.1 Try.underlying22 rfl (by rw [HKS.out]; exact info32B)) ?_
  refine ord_quiet rfl (fun K hK => ?_); go_simp; refine hK _ ?_; clear hK K
  refine ord_load (.agg (cells8 (clampL (key.take 16) ++ key.drop 16))) rfl (by rfl) (fun w' hw' => exec_load_row _ _ rfl (w.heap.size + 1) rfl _ _ _ hw'.2 Try.underlying22 rfl (by rw [HOS.out]; exact info32B)) ?_
  refine ord_loud rfl (fun K hK => ?_)
  go_wp2_with fail
  refine (Tag_c v m key _ (HS.out.fresh HF2.out.drew) HL.out).mono ?_
  rintro e w3 ⟨rfl, hf⟩
  have HF3 : Hid (Fresh w w3) := Lib.hid (Fresh.then HF2.out.drew hf (fun _ _ h => h))
  have HC3 := Lib.hid (And.intro (hf.at HB20.out) (hf.at HB21.out))
  clear hf
  go_wp2_with fail
  refine hK _ _ HC3.out ?_
  clear hK K
  refine ord_loud rfl (fun K hK => ?_)
  go_wp2_with fail
  refine (Tag_c v m (clampL (key.take 16) ++ key.drop 16) _ (HS.out.fresh HF3.out) HOL.out).mono ?_
  rintro e w4 ⟨rfl, hf⟩
  have HF4 : Hid (Fresh w w4) := Lib.hid (Fresh.then HF3.out hf (fun _ _ h => h))
  have HC4 := Lib.hid (And.intro (hf.at HC3.out.1) (hf.at HC3.out.2))
  clear hf
  go_wp2_with fail
  refine hK _ _ HC4.out ?_
  clear hK K
  refine ord_load (.bool true) rfl (by rfl) (fun w' _ => ?_) ?_
  · exact (exec_eql16 (w := w') (.tmp 13) (.tmp 16) rfl (tagK key m) (tagK (clampL (key.take 16) ++ key.drop 16) m) rfl rfl (tagK_length _ _) (tagK_length _ _)).trans (by rw [decide_eq_true HT.out.symm])
  iterate 2 (refine ord_quiet rfl (fun K hK => ?_); go_simp; refine hK _ ?_; clear hK K)
  refine ord_loud rfl (fun K hK => ?_)
  go_wp2_with fail
  refine (Tag_c (.slice none 0 0) [] key9 _ (SlB.nil _) rfl).mono ?_
  rintro e w5 ⟨he, hf⟩
  subst he
  have HF5 : Hid (Fresh w w5) := Lib.hid (Fresh.then HF4.out hf (fun _ _ h => h))
  have HC5 := Lib.hid (And.intro (hf.at HC4.out.1) (hf.at HC4.out.2))
  clear hf
  go_wp2_with fail
  refine hK _ _ HC5.out ?_
  clear hK K
  refine ord_load (.int .u8 9) rfl (by rfl) (fun w' _ => ?_) ?_
  · exact (exec_index16 (w := w') (.tmp 20) 4 rfl (tagK key9 []) rfl (tagK_length _ _) (by decide)).trans (by rw [tag9]; rfl)
  iterate 3 (refine ord_quiet rfl (fun K hK => ?_); go_simp; refine hK _ ?_; clear hK K)
  refine ord_last ?_
  go_wp2_with fail
  go_ret
  exact ⟨rfl, HF5.out⟩
end Go.Proofs.Ytdkhpehniciijaa
