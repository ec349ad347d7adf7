/-
  The walk of laws.FnNothing.
-/
import Derived.Test.YtdkhpehniciijaaArrEq
import Derived.Test.YtdkhpehniciijaaTagLaws
import Derived.Test.YtdkhpehniciijaaStr
namespace Go.Proofs.Ytdkhpehniciijaa
open Go Go.RowKit
theorem SlB.at32 {w : World} {b k : Nat} {T : TypeId} {l : List UInt8} (h : w.heap[b]? = some (.cells (cells8 l) T (0, 0))) (hk : k ≤ l.length) (hl : l.length ≤ maxLen) : SlB w (.slice (some ⟨b, k, none⟩) (l.length - k) (l.length - k)) (l.drop k) := by
  have e : (l.drop k).length = l.length - k := List.length_drop
  have := SlB.of (w := w) (b := b) (o := k) (c := l.length - k) (l := l.drop k) (by omega) (by omega) (fun i hi => by
    rw [cell_block h, cells8_get (by omega)]
    simp [List.getD, List.getElem?_drop])
  rwa [e] at this
attribute [local irreducible] tagK tagB
set_option maxRecDepth 100000 in
theorem fnNothing_c (key : List UInt8) (w : World) (hl : key.length = 32) :
    Calls Try.prog 4 #[.agg (cells8 key)] w fun e w' => e = .returned (.bool true) ∧ Fresh w w' := by
  have HL := Lib.hid hl
  have H1 := cells8_one key
  have HT := Lib.hid (tag_nothing key hl)
  have HKS := Lib.hid (show (cells8 key).size = 32 by rw [cells8_size, hl])
  have HTS := Lib.hid (show (cells8 (tagK key [])).size = 16 by rw [cells8_size, tagK_length])
  clear hl
  go_enter Try.func4, Try.ntmps4
  go_wp2_with (refine wpList_load_row rfl 22 (.tmp 1) rfl w.heap.size rfl 22 (cells8 key) (0, 0) _ (heap_alloc_new w _) Try.underlying22 rfl ?_ ?_; (rw [HKS.out]; exact info32B))
  refine (Tag_c (.slice none 0 0) [] key _ (SlB.nil _) HL.out).mono ?_
  rintro e w1 ⟨rfl, hf⟩
  have HF : Hid (Fresh w w1) := Lib.hid (Fresh.then ((Keeps.refl _ w).alloc _) hf (fun _ _ h => h))
  have HB := Lib.hid (hf.at (heap_alloc_new w _))
  clear hf
  go_wp2_with (refine wpList_store_row rfl 25 (.tmp 3) (.tmp 5) rfl w1.heap.size (cells8 (tagK key [])) rfl rfl 25 _ (heap_alloc_new w1 _) ?_ ?_ (cells8_one _) ?_; (rw [HTS.out]; exact info16B); (rw [HTS.out]; rfl))
  have hz16 : w1.heap[w1.heap.size]? = none := by simp
  have hA : ∀ A : Obj, ∀ C : Array Value, Fresh w ((w1.alloc A).setRow w1.heap.size C) := fun A C => (HF.out.alloc A).setRow (Or.inr HF.out.size) C
  have HF2 := Lib.hid (hA (.cells (cells8 (List.replicate 16 0)) 25) (cells8 (tagK key [])))
  have HB2 := Lib.hid (row_heap (cs := cells8 (tagK key [])) (heap_alloc_new w1 (.cells (cells8 (List.replicate 16 0)) 25)))
  have HB1 : Hid (((w1.alloc (.cells (cells8 (List.replicate 16 0)) 25)).setRow w1.heap.size (cells8 (tagK key []))).heap[w.heap.size]? = some (.cells (cells8 key) 22 (0, 0))) := Lib.hid (by
    have h := lt_of_block HB.out
    rw [setRow_other _ _ _ _ (Nat.ne_of_lt h), Below.heap_alloc w1 _ _ h]; exact HB.out)
  clear hz16 hA
  refine wp_region_ord (fun w' => SlB w' (.slice (some ⟨w1.heap.size, 0, none⟩) 16 16) (key.drop 16) ∧ SlB w' (.slice (some ⟨w.heap.size, 16, none⟩) 16 16) (key.drop 16)) [(0, true), (1, true), (2, true), (3, true), (4, true), (5, true)] (by kernel_rfl) (by kernel_rfl) ⟨?c1, ?c2⟩ ?_
  case c1 => rw [← HT.out]; exact SlB.all16 HB2.out (tagK_length _ _)
  case c2 => have := SlB.at32 (k := 16) HB1.out (by rw [HL.out]; decide) (by rw [HL.out]; decide); rw [HL.out] at this; exact this
  refine ord_quiet rfl (fun K hK => ?_); go_simp; refine hK _ ?_; clear hK K
  refine ord_load (.string (strB (key.drop 16))) rfl (by rfl) (fun w' hw' => ?_) ?_
  · have hr := run_strB w' _ _ hw'.1
    go_simp
  refine ord_quiet rfl (fun K hK => ?_); go_simp; refine hK _ ?_; clear hK K
  refine ord_load (.string (strB (key.drop 16))) rfl (by rfl) (fun w' hw' => ?_) ?_
  · have hr := run_strB w' _ _ hw'.2
    go_simp
  iterate 2 (refine ord_quiet rfl (fun K hK => ?_); go_simp; refine hK _ ?_; clear hK K)
  refine ord_last ?_
  go_wp2_with fail
  go_ret
  exact ⟨rfl, HF2.out.drew⟩
end Go.Proofs.Ytdkhpehniciijaa
