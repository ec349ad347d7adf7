/-
  Contract: spec.Hash.
-/
import Derived.Test.YtlafnkcmdnfcpaaStart
import Derived.Test.YtlafnkcmdnfcpaaBytesOf
import Derived.Test.YtlafnkcmdnfcpaaOrd
namespace Go.Proofs.Ytlafnkcmdnfcpaa
open Go Go.RowKit
attribute [local irreducible] Cha.iter Cha.rounds Cha.dbl Cha.qr
theorem WordsAt.of_block {w : World} {b : Nat} {T : TypeId} {l : List UInt32} (h : w.heap[b]? = some (.cells (cells32 l) T (0, 0))) (k n : Nat) (hk : k + n ≤ l.length) : WordsAt w b k ((l.drop k).take n) := by
  intro i hi
  simp only [List.length_take, List.length_drop] at hi
  rw [cell_block h, cells32_get (by omega)]
  simp [List.getD, List.getElem?_drop, show i < n from by omega]
theorem WordsAt.of_end {w : World} {b : Nat} {T : TypeId} {l : List UInt32} (h : w.heap[b]? = some (.cells (cells32 l) T (0, 0))) (k : Nat) : WordsAt w b k (l.drop k) := by
  intro i hi
  simp only [List.length_drop] at hi
  rw [cell_block h, cells32_get (by omega)]
  simp [List.getD]
theorem rounds_len (l : List UInt32) : (Cha.rounds l).length = l.length := by rw [Cha.rounds_eq]; exact iter_len 10 l
def hashL (key nonce : List UInt8) : List UInt8 := bytesL ((Cha.rounds (start key nonce)).take 4) ++ bytesL ((Cha.rounds (start key nonce)).drop 12)
set_option maxHeartbeats 2000000 in
theorem hash_c (bk ok nk ck bl ol nl cl : Nat) (key last : List UInt8) (w : World) (hk : key.length = 32) (hl : last.length = 16) (hnk : nk = 32) (hnl : nl = 16) (h1 : BytesAt w bk ok key) (h2 : BytesAt w bl ol last) :
    Calls Try.prog 41 #[.slice (some ⟨bk, ok, none⟩) nk ck, .slice (some ⟨bl, ol, none⟩) nl cl] w (RetB 5 w (hashL key last)) := by
  have C1 := Lib.hid (fun w' => start_c bk ok nk ck bl ol nl cl key last w' hk hl hnk hnl)
  obtain ⟨R, hR⟩ : ∃ R, R = Cha.rounds (start key last) := ⟨_, rfl⟩
  have hRl : R.length = 16 := by rw [hR, rounds_len, start_len]
  have HR := Lib.hid hR
  have HRl := Lib.hid hRl
  have H1 := Lib.hid h1
  have H2 := Lib.hid h2
  clear hR hRl h1 h2 hk hl hnk hnl
  go_enter Try.func41, Try.ntmps41
  go_wp2_with fail
  refine (C1.out _ H1.out H2.out).mono ?_
  rintro e w1 ⟨rfl, hf1⟩
  have HF1 := Lib.hid hf1
  clear hf1
  go_wp2_with fail
  refine (rounds_c _ (start_len _ _) _).mono ?_
  rintro e w2 ⟨rfl, hf2⟩
  have HF2 := Lib.hid (HF1.out.trans hf2)
  clear hf2
  rw [← HR.out]
  go_wp2_with (refine wpList_store_row rfl 108 (.tmp 5) (.tmp 9) rfl w2.heap.size (cells32 R) rfl rfl 108 _ (heap_alloc_new w2 _) ?_ ?_ (cells32_one _) ?_; (rw [cells32_size, HRl.out]; exact info16); (rw [cells32_size, HRl.out]; rfl))
  have hb3 := row_heap (cs := cells32 R) (heap_alloc_new w2 (.cells #[Value.int IntKind.u32 0, Value.int IntKind.u32 0, Value.int IntKind.u32 0, Value.int IntKind.u32 0, Value.int IntKind.u32 0, Value.int IntKind.u32 0, Value.int IntKind.u32 0, Value.int IntKind.u32 0, Value.int IntKind.u32 0, Value.int IntKind.u32 0, Value.int IntKind.u32 0, Value.int IntKind.u32 0, Value.int IntKind.u32 0, Value.int IntKind.u32 0, Value.int IntKind.u32 0, Value.int IntKind.u32 0] 108))
  have hf3 := (HF2.out.alloc (.cells #[Value.int IntKind.u32 0, Value.int IntKind.u32 0, Value.int IntKind.u32 0, Value.int IntKind.u32 0, Value.int IntKind.u32 0, Value.int IntKind.u32 0, Value.int IntKind.u32 0, Value.int IntKind.u32 0, Value.int IntKind.u32 0, Value.int IntKind.u32 0, Value.int IntKind.u32 0, Value.int IntKind.u32 0, Value.int IntKind.u32 0, Value.int IntKind.u32 0, Value.int IntKind.u32 0, Value.int IntKind.u32 0] 108)).setRow (p := w2.heap.size) (Or.inr HF2.out.size) (cells32 R)
  generalize ((w2.alloc (.cells #[Value.int IntKind.u32 0, Value.int IntKind.u32 0, Value.int IntKind.u32 0, Value.int IntKind.u32 0, Value.int IntKind.u32 0, Value.int IntKind.u32 0, Value.int IntKind.u32 0, Value.int IntKind.u32 0, Value.int IntKind.u32 0, Value.int IntKind.u32 0, Value.int IntKind.u32 0, Value.int IntKind.u32 0, Value.int IntKind.u32 0, Value.int IntKind.u32 0, Value.int IntKind.u32 0, Value.int IntKind.u32 0] 108)).setRow w2.heap.size (cells32 R)) = w3 at hb3 hf3 ⊢
  have HB3 := Lib.hid hb3
  have HF3 := Lib.hid hf3
  have hlt3 : w2.heap.size < w3.heap.size := lt_of_block hb3
  clear hb3 hf3
  simp only [Act.put]
  refine wp_region_ord (fun _ => True) [(0, true), (2, true), (1, false), (3, false), (4, false), (5, false)] (by kernel_rfl) (by kernel_rfl) trivial ?_
  refine ord_quiet rfl (fun K hK => ?_)
  go_simp
  refine hK _ ?_
  clear hK K
  refine ord_quiet rfl (fun K hK => ?_)
  go_simp
  refine hK _ ?_
  clear hK K
  refine ord_loud rfl (fun K hK => ?_)
  go_wp2_with fail
  refine (bytesOf_c w2.heap.size 0 4 16 (R.take 4) w3.drew (by rw [List.length_take, HRl.out]; rfl) (by decide) (WordsAt.of_block HB3.out 0 4 (by rw [HRl.out]; decide))).mono ?_
  rintro e w4 ⟨v4, rfl, ho4, hf4⟩
  have HO4 := Lib.hid ho4
  have HF4 := Lib.hid hf4
  clear ho4 hf4
  go_wp2_with fail
  have HK4 := Lib.hid (((Keeps.refl (fun _ => False) w3).drew).trans HF4.out)
  refine hK _ _ trivial ?_
  clear hK K
  refine ord_loud rfl (fun K hK => ?_)
  go_wp2_with fail
  refine (bytesOf_c w2.heap.size 12 4 4 (R.drop 12) w4 (by rw [List.length_drop, HRl.out]) (by decide) (WordsAt.of_end (Fresh.at HK4.out HB3.out) 12)).mono ?_
  rintro e w5 ⟨v5, rfl, ho5, hf5⟩
  have HO5 := Lib.hid ho5
  have HF5 := Lib.hid hf5
  clear ho5 hf5
  go_wp2_with fail
  have HK5 := Lib.hid (HK4.out.trans HF5.out)
  refine hK _ _ trivial ?_
  clear hK K
  have hl5 : (bytesL (R.drop 12)).length = 16 := by rw [bytesL_len, List.length_drop, HRl.out]
  have hl4 : (bytesL (R.take 4)).length = 16 := by rw [bytesL_len, List.length_take, HRl.out]; rfl
  have HL5 := Lib.hid hl5
  have HL4 := Lib.hid hl4
  clear hl4 hl5
  refine ord_loud rfl (fun K hK => ?_)
  refine wpList_appB rfl (.tmp 11) (.tmp 13) rfl w.heap.size v4 v5 (bytesL (R.take 4)) (bytesL (R.drop 12)) rfl rfl (OwnB.mono (OwnB.kept HO4.out HF5.out (fun _ _ h => h)) HF3.out.size) HO5.out.sl (by rw [HL4.out, HL5.out]; decide) (Nat.le_trans HF3.out.size HK5.out.size) ?_
  intro v6 w6 hA
  have HO6 := Lib.hid hA.1
  have HA6 := Lib.hid hA.2.1
  clear hA
  refine wpList_nil (hK _ _ trivial ?_)
  clear hK K
  simp only [Act.put, List.setIfInBounds_toArray]
  refine ord_loud rfl (fun K hK => ?_)
  go_wp2_with fail
  refine hK _ _ trivial ?_
  clear hK K
  refine ord_last ?_
  go_wp2
  go_ret
  refine ⟨_, rfl, ?_, ?_⟩
  · unfold hashL
    rw [← HR.out]
    exact HO6.out
  · exact Fresh.then (HF3.out.trans HK5.out) HA6.out (by intro q hq; omega)
end Go.Proofs.Ytlafnkcmdnfcpaa
