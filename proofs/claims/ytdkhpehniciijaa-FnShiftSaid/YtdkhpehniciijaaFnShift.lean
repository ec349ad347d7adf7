/-
  The walk of laws.FnShift.
-/
import Derived.Test.YtdkhpehniciijaaFnClamp
import Derived.Test.YtdkhpehniciijaaFnNothing
import Derived.Test.YtdkhpehniciijaaShifted
namespace Go.Proofs.Ytdkhpehniciijaa
open Go Go.RowKit
/-- THE LAW: the second half of the key is added -/
theorem tag_shift (key m : List UInt8) (h : key.length = 32) : bytes16 ((nat8 (tagK (key.take 16 ++ List.replicate 16 0) m) + nat8 (key.drop 16)) % 340282366920938463463374607431768211456) = tagK key m := by
  have hl : (key.take 16).length = 16 := by simp; omega
  have t1 : (key.take 16 ++ List.replicate 16 (0 : UInt8)).take 8 = key.take 8 := by
    rw [List.take_append_of_le_length (by omega), List.take_take]; rfl
  have t2 : ((key.take 16 ++ List.replicate 16 (0 : UInt8)).drop 8).take 8 = (key.drop 8).take 8 := by
    rw [List.drop_append_of_le_length (by omega), List.take_append_of_le_length (by simp; omega), List.drop_take]
    rw [List.take_take]; rfl
  have t3 : (key.take 16 ++ List.replicate 16 (0 : UInt8)).drop 16 = List.replicate 16 0 := by
    rw [List.drop_append_of_le_length (by omega), List.drop_eq_nil_of_le (by omega), List.nil_append]
  have t4 : (key.take 16 ++ List.replicate 16 (0 : UInt8)).drop 24 = List.replicate 8 0 := by
    have : (key.take 16 ++ List.replicate 16 (0 : UInt8)).drop 24 = ((key.take 16 ++ List.replicate 16 (0 : UInt8)).drop 16).drop 8 := by rw [List.drop_drop]
    rw [this, t3]; rfl
  have hR : keyR (key.take 16 ++ List.replicate 16 0) = keyR key := by
    unfold keyR clamp0 clamp1
    rw [t1, t2]
  have hS : keyS (key.take 16 ++ List.replicate 16 0) = 0 := by
    unfold keyS key2 key3
    rw [t3, t4]; rfl
  have hK : nat8 (key.drop 16) = keyS key := by
    unfold nat8 keyS key2 key3
    have e1 : (key.drop 24).take 8 = ((key.drop 16).drop 8).take 8 := by rw [List.drop_drop]
    rw [e1, val16 (key.drop 16) (by simp; omega)]
  unfold tagK tagB
  rw [hR, hS, hK, nat8_bytes16 _ (by unfold tagN; exact Nat.mod_lt _ (by decide))]
  congr 1
  unfold tagN
  rw [Nat.add_zero, Nat.mod_add_mod]
theorem shift_splice (key : List UInt8) (h : key.length = 32) : splice (vals8 (List.replicate 32 0)) 0 (vals8 ((key.take 16).take 32)) = vals8 (key.take 16 ++ List.replicate 16 0) := by
  have hl : (key.take 16).length = 16 := by simp; omega
  rw [List.take_of_length_le (by omega)]
  unfold splice
  rw [vals8_append, List.take_zero, List.nil_append, vals8_len, hl, Nat.zero_add]
  rfl
def key7 : List UInt8 := [0, 0, 0, 0, 0, 0, 0, 0, 0, 0, 0, 0, 0, 0, 0, 0, 0, 0, 0, 0, 0, 0, 0, 0, 0, 0, 0, 0, 0, 0, 0, 7]
theorem tag7 : tagK key7 [] = [0, 0, 0, 0, 0, 0, 0, 0, 0, 0, 0, 0, 0, 0, 0, 7] := tag_nothing key7 rfl
attribute [local irreducible] tagK tagB splice bytes16 nat8
set_option maxRecDepth 100000 in
set_option maxHeartbeats 1000000 in
theorem fnShift_c (key m : List UInt8) (v : Value) (w : World) (hl : key.length = 32) (hs : SlB w v m) :
    Calls Try.prog 5 #[.agg (cells8 key), v] w fun e w' => e = .returned (.bool true) ∧ Fresh w w' := by
  have HL := Lib.hid hl
  have H1 := cells8_one key
  have HTL := Lib.hid (show (key.take 16).length = 16 by simp; omega)
  have HDL := Lib.hid (show (key.drop 16).length = 16 by simp; omega)
  have HOL := Lib.hid (show (key.take 16 ++ List.replicate 16 0).length = 32 by rw [List.length_append, HTL.out]; rfl)
  have HT := Lib.hid (tag_shift key m hl)
  have HKS := Lib.hid (show (cells8 key).size = 32 by rw [cells8_size, hl])
  have HOS := Lib.hid (show (cells8 (key.take 16 ++ List.replicate 16 0)).size = 32 by rw [cells8_size, HOL.out])
  have HZ := Lib.hid (shift_splice key hl)
  have HS := Lib.hid hs
  clear hl hs
  go_enter Try.func5, Try.ntmps5
  go_wp2_with (refine wpList_store_row rfl 22 (.tmp 5) (.tmp 6) rfl (w.heap.size + 1) (vals8 (List.replicate 32 0)).toArray rfl rfl 22 _ (heap_alloc2_new w _ _) info32B rfl (cells8_one _) ?_)
  have HF0 : Hid (Fresh w (((w.alloc (.cells (cells8 key) 22)).alloc (.cells (vals8 (List.replicate 32 0)).toArray 22)).setRow (w.heap.size + 1) (vals8 (List.replicate 32 0)).toArray)) := Lib.hid ((((Keeps.refl _ w).alloc _).alloc _).setRow (Or.inr (Nat.le_succ _)) _)
  have HBK : Hid ((((w.alloc (.cells (cells8 key) 22)).alloc (.cells (vals8 (List.replicate 32 0)).toArray 22)).setRow (w.heap.size + 1) (vals8 (List.replicate 32 0)).toArray).heap[w.heap.size + 1]? = some (.cells (vals8 (List.replicate 32 0)).toArray 22 (0, 0))) := Lib.hid (row_heap (heap_alloc2_new w _ _))
  have HBL : Hid ((((w.alloc (.cells (cells8 key) 22)).alloc (.cells (vals8 (List.replicate 32 0)).toArray 22)).setRow (w.heap.size + 1) (vals8 (List.replicate 32 0)).toArray).heap[w.heap.size]? = some (.cells (cells8 key) 22 (0, 0))) := Lib.hid (by rw [setRow_other _ _ _ _ (by omega)]; exact block_alloc (heap_alloc_new w _))
  refine wp_region_tailD 2 (by kernel_rfl) (by kernel_rfl) ?_
  simp only [List.take_succ_cons, List.take_zero, List.drop_succ_cons, List.drop_zero]
  repeat (quiet_step (fail))
  refine wpQuiet_nil ?_
  rintro _ ⟨m0, rfl⟩
  have hpre := SlB.pre (k := 16) (block_drewN (n := m0) HBL.out) (by rw [HL.out]; decide) (by rw [HL.out]; decide)
  rw [HL.out] at hpre
  refine wpList_copyB rfl (.tmp 7) (.tmp 8) 23 23 rfl 5 (by kernel_rfl) (by kernel_rfl) (w.heap.size + 1) 0 32 32 _ (key.take 16) rfl rfl hpre (vals8 (List.replicate 32 0)) 22 (block_drewN HBK.out) (by rw [HTL.out]; decide) ?_
  clear hpre
  intro w2 HG HK
  have HB21 : Hid (w2.heap[w.heap.size + 1]? = some (.cells (cells8 (key.take 16 ++ List.replicate 16 0)) 22 (0, 0))) := Lib.hid (by have h := HG.out; rw [HZ.out] at h; exact h)
  have HB20 : Hid (w2.heap[w.heap.size]? = some (.cells (cells8 key) 22 (0, 0))) := Lib.hid (HK.out.at (block_drewN HBL.out) (by omega))
  have HF2 : Hid (Fresh w w2) := Lib.hid (Fresh.then (HF0.out.drewN m0) HK.out (fun q hq e => by omega))
  clear HG HK HF0 HBK HBL
  go_wp2_with fail
  refine wp_region_ord (fun w' => w'.heap[w.heap.size]? = some (.cells (cells8 key) 22 (0, 0)) ∧ w'.heap[w.heap.size + 1]? = some (.cells (cells8 (key.take 16 ++ List.replicate 16 0)) 22 (0, 0))) [(0, true), (1, true), (3, true), (4, true), (6, true), (2, false), (5, false), (7, false), (8, true), (9, true), (10, true), (11, false), (12, true), (13, true), (14, true), (15, true)] (by kernel_rfl) (by kernel_rfl) ⟨HB20.out, HB21.out⟩ ?_
  refine ord_quiet rfl (fun K hK => ?_); go_simp; refine hK _ ?_; clear hK K
  refine ord_load (.agg (cells8 key)) rfl (by rfl) (fun w' hw' => exec_load_row _ _ rfl w.heap.size rfl _ _ _ hw'.1 Try.underlying22 rfl (by rw [HKS.out]; exact info32B)) ?_
  refine ord_quiet rfl (fun K hK => ?_); go_simp; refine hK _ ?_; clear hK K
  refine ord_load (.agg (cells8 (key.take 16 ++ List.replicate 16 0))) rfl (by rfl) (fun w' hw' => exec_load_row _ _ rfl (w.heap.size + 1) rfl _ _ _ hw'.2 Try.underlying22 rfl (by rw [HOS.out]; exact info32B)) ?_
  refine ord_quiet rfl (fun K hK => ?_); go_simp; refine hK _ ?_; clear hK K
  refine ord_loud rfl (fun K hK => ?_)
  go_wp2_with fail
  refine (Tag_c v m key _ (HS.out.fresh HF2.out.drew) HL.out).mono ?_
  rintro e w3 ⟨rfl, hf⟩
  have HF3 : Hid (Fresh w w3) := Lib.hid (Fresh.then HF2.out.drew hf (fun _ _ h => h))
  have HC3 := Lib.hid (And.intro (hf.at HB20.out) (hf.at HB21.out))
  clear hf
  go_wp2_with fail
  refine hK _ _ HC3.out ?_
  clear hK K
  refine ord_loud rfl (fun K hK => ?_)
  go_wp2_with fail
  refine (Tag_c v m (key.take 16 ++ List.replicate 16 0) _ (HS.out.fresh HF3.out) HOL.out).mono ?_
  rintro e w4 ⟨rfl, hf⟩
  have HF4 : Hid (Fresh w w4) := Lib.hid (Fresh.then HF3.out hf (fun _ _ h => h))
  have HC4 := Lib.hid (And.intro (hf.at HC3.out.1) (hf.at HC3.out.2))
  clear hf
  go_wp2_with fail
  refine hK _ _ HC4.out ?_
  clear hK K
  refine ord_loud rfl (fun K hK => ?_)
  go_wp2_with fail
  have hs16 := SlB.at32 (k := 16) HC4.out.1 (by rw [HL.out]; decide) (by rw [HL.out]; decide)
  rw [HL.out] at hs16
  refine (Shifted_c w.heap.size 16 16 (tagK (key.take 16 ++ List.replicate 16 0) m) (key.drop 16) _ hs16 (tagK_length _ _) HDL.out).mono ?_
  clear hs16
  rintro e w5 ⟨rfl, hf⟩
  have HF5 : Hid (Fresh w w5) := Lib.hid (Fresh.then HF4.out hf (fun _ _ h => h))
  have HC5 := Lib.hid (And.intro (hf.at HC4.out.1) (hf.at HC4.out.2))
  clear hf
  go_wp2_with fail
  refine hK _ _ HC5.out ?_
  clear hK K
  refine ord_load (.bool true) rfl (by rfl) (fun w' _ => ?_) ?_
  · exact (exec_eql16 (w := w') (.tmp 12) (.tmp 17) rfl (tagK key m) _ rfl rfl (tagK_length _ _) (bytes16_length _)).trans (congrArg (fun b => Result.ok (Next.value (Value.bool b)) w') (decide_eq_true HT.out.symm))
  iterate 2 (refine ord_quiet rfl (fun K hK => ?_); go_simp; refine hK _ ?_; clear hK K)
  refine ord_loud rfl (fun K hK => ?_)
  go_wp2_with fail
  refine (Tag_c (.slice none 0 0) [] key7 _ (SlB.nil _) rfl).mono ?_
  rintro e w6 ⟨rfl, hf⟩
  have HF6 : Hid (Fresh w w6) := Lib.hid (Fresh.then HF5.out hf (fun _ _ h => h))
  have HC6 := Lib.hid (And.intro (hf.at HC5.out.1) (hf.at HC5.out.2))
  clear hf
  go_wp2_with fail
  refine hK _ _ HC6.out ?_
  clear hK K
  refine ord_load (.int .u8 7) rfl (by rfl) (fun w' _ => ?_) ?_
  · exact (exec_index16 (w := w') (.tmp 21) 15 rfl (tagK key7 []) rfl (tagK_length _ _) (by decide)).trans (by rw [tag7]; rfl)
  iterate 3 (refine ord_quiet rfl (fun K hK => ?_); go_simp; refine hK _ ?_; clear hK K)
  refine ord_last ?_
  go_wp2_with fail
  go_ret
  exact ⟨rfl, HF6.out⟩
end Go.Proofs.Ytdkhpehniciijaa
