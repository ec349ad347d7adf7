/-
  Contract: spec.Block.
-/
import Derived.Test.YtaapglpnofmmlaaBlockP
import Derived.Test.YtaapglpnofmmlaaHash
namespace Go.Proofs.Ytaapglpnofmmlaa
open Go Go.RowKit
attribute [local irreducible] Cha.iter Cha.rounds Cha.dbl Cha.qr blkB
/-- the words with the state added to the first k -/
def addK (R st : List UInt32) : Nat → List UInt32
  | 0 => R
  | k + 1 => (addK R st k).set k ((addK R st k).getD k 0 + st.getD k 0)
theorem addK_len (R st : List UInt32) (k : Nat) : (addK R st k).length = R.length := by
  induction k with
  | zero => rfl
  | succ k ih => simp [addK, ih]
theorem addK_get (R st : List UInt32) (k i : Nat) (h : k ≤ R.length) : (addK R st k).getD i 0 = if i < k then R.getD i 0 + st.getD i 0 else R.getD i 0 := by
  induction k with
  | zero => rfl
  | succ k ih =>
    have ih := ih (by omega)
    have hk : k < (addK R st k).length := by rw [addK_len]; omega
    by_cases e : i = k
    · subst e
      rw [if_pos (by omega)]
      rw [if_neg (by omega)] at ih
      simp only [addK, List.getD, List.getElem?_set_self hk, Option.getD_some]
      simp only [List.getD] at ih
      rw [ih]
    · have h1 : (addK R st (k + 1)).getD i 0 = (addK R st k).getD i 0 := by
        simp only [addK, List.getD]
        rw [List.getElem?_set_ne (by omega)]
      rw [h1, ih]
      by_cases h2 : i < k
      · rw [if_pos h2, if_pos (by omega)]
      · rw [if_neg h2, if_neg (by omega)]
theorem addK_blk (st : List UInt32) (h : st.length = 16) : addK (Cha.rounds st) st 16 = blkW st := by
  have hl : (Cha.rounds st).length = 16 := by rw [rounds_len, h]
  apply List.ext_getElem
  · rw [addK_len, hl, blkW_len]
  · intro i h1 h2
    rw [blkW_len] at h2
    have e := addK_get (Cha.rounds st) st 16 i (by omega)
    rw [if_pos h2] at e
    simp only [List.getD] at e
    rw [List.getElem?_eq_getElem h1, Option.getD_some] at e
    rw [e]
    unfold blkW zw
    simp [List.getD]
def BlockRel (w : World) (b7 b8 : Nat) (st : List UInt32) (i : Value) (wr : World) : Prop :=
  ∃ k : Nat, k ≤ 16 ∧ i = .int .i64 k ∧ wr.heap[b7]? = some (.cells (cells32 st) 63 (0, 0)) ∧ wr.heap[b8]? = some (.cells (cells32 (addK (Cha.rounds st) st k)) 63 (0, 0)) ∧ Fresh w wr
theorem st_len (K : CK) (c : UInt32) : (K.st c).length = 16 := rfl
theorem SlB.oneW (w : World) (x : UInt32) (T : TypeId) : WordsAt (w.alloc (.cells #[.int .u32 (u32 x)] T)) w.heap.size 0 [x] := by
  intro i hi
  have : i = 0 := by simpa using hi
  subst this
  exact cell_block (heap_alloc_new w _) 0
set_option maxRecDepth 100000 in
set_option maxHeartbeats 4000000 in
theorem block_c (bk ok ck : Nat) (vn : Value) (key nonce : List UInt8) (c : UInt32) (w : World) (hk : key.length = 32) (hn : nonce.length = 12) (h1 : BytesAt w bk ok key) (h2 : SlB w vn nonce) :
    Calls Try.prog 24 #[.slice (some ⟨bk, ok, none⟩) 32 ck, .int .u32 (u32 c), vn] w (RetB 5 w (blkB ((ck12 key nonce).st c))) := by
  obtain ⟨st, hst⟩ : ∃ st, st = (ck12 key nonce).st c := ⟨_, rfl⟩
  have HST := Lib.hid hst
  have HSL : Hid (st.length = 16) := Lib.hid (by rw [hst]; rfl)
  rw [← hst]
  have HK := Lib.hid hk
  have HN := Lib.hid hn
  have H1 := Lib.hid h1
  have H2 := Lib.hid h2
  clear hk hn h1 h2 hst
  have one32 := cells32_one st
  go_enter Try.func24, Try.ntmps24
  go_wp2_with fail
  have HF0 : Hid (Fresh w (w.alloc (.cells #[.int .u32 (u32 c)] 29))) := Lib.hid ((Keeps.refl _ w).alloc _)
  refine (bytesOf_c w.heap.size 0 1 1 [c] _ rfl (by decide) (SlB.oneW w c _)).mono ?_
  rintro e w1 ⟨v1, rfl, ho1, hf1⟩
  have HO1 := Lib.hid ho1
  have HF1 : Hid (Fresh w w1) := Lib.hid (HF0.out.trans hf1)
  have hsz1 := HF1.out.size
  clear ho1 hf1
  go_wp2_with (at_builtin; refine wpList_appB rfl (.tmp 13) (.tmp 14) rfl w.heap.size v1 vn (bytesL [c]) nonce rfl rfl (HO1.out.mono HF0.out.size) (H2.out.fresh HF1.out) (by rw [bytesL_len, HN.out]; exact Nat.le_of_ble_eq_true rfl) hsz1 ?_; intro v2 w2 hA)
  have HK2 := Lib.hid hA.2.1
  have hl2 : (bytesL [c] ++ nonce).length = 16 := by rw [List.length_append, bytesL_len, HN.out]; rfl
  have HF2 : Hid (Fresh w w2) := Lib.hid (Fresh.then HF1.out HK2.out (by intro q hq; omega))
  obtain ⟨g2, o2, c2, e2, k2, m2, l2, q2⟩ := hA.1.sl.form (by rw [hl2]; decide)
  rw [hl2] at e2
  subst e2
  have HST2 : Hid (start key (bytesL [c] ++ nonce) = st) := Lib.hid (by
    rw [HST.out, ← start_st]
    simp [bytesL])
  have HX := Lib.hid (start_c bk ok 32 ck g2 o2 16 c2 key (bytesL [c] ++ nonce) w2 HK.out hl2 rfl rfl (H1.out.keeps HF2.out (fun x => x)) q2)
  clear hA q2 hl2
  go_wp2_with fail
  refine HX.out.mono ?_
  rintro e w3 ⟨rfl, hf3⟩
  rw [HST2.out]
  have HF3 : Hid (Fresh w w3) := Lib.hid (HF2.out.trans hf3)
  clear hf3 HX
  go_wp2_with (first
    | (refine wpList_store_row rfl 63 (.tmp 7) (.tmp 16) rfl w3.heap.size (cells32 st) rfl rfl 63 _ (heap_alloc_new w3 _) ?_ ?_ (cells32_one _) ?_; (rw [cells32_size, HSL.out]; exact info16); (rw [cells32_size, HSL.out]; rfl); (try simp only [Act.put]); generalize hw4 : World.setRow _ _ (cells32 st) = w4; have HB7 : Hid (w4.heap[w3.heap.size]? = some (.cells (cells32 st) 63 (0, 0))) := Lib.hid (by rw [← hw4]; exact row_heap (heap_alloc_new w3 _)); have HF4 : Hid (Fresh w w4) := Lib.hid (by rw [← hw4]; exact (HF3.out.alloc _).setRow (Or.inr HF3.out.size) _); clear hw4)
    | (refine wpList_load_row rfl 63 (.tmp 7) rfl w3.heap.size rfl 63 (cells32 st) (0, 0) _ HB7.out Try.underlying63 rfl ?_ ?_; (rw [cells32_size, HSL.out]; exact info16)))
  refine (rounds_c st HSL.out w4).mono ?_
  rintro e w5 ⟨rfl, hf5⟩
  have hsz3 := HF3.out.size
  have HB75 := Lib.hid (hf5.at HB7.out)
  have HF5 : Hid (Fresh w w5) := Lib.hid (HF4.out.trans hf5)
  have HRL : Hid ((Cha.rounds st).length = 16) := Lib.hid (by rw [rounds_len]; exact HSL.out)
  have hlt5 : w3.heap.size < w5.heap.size := lt_of_block HB75.out
  clear hf5
  go_wp2_with (refine wpList_store_row rfl 63 (.tmp 8) (.tmp 18) rfl w5.heap.size (cells32 (Cha.rounds st)) rfl rfl 63 _ (heap_alloc_new w5 _) ?_ ?_ (cells32_one _) ?_; (rw [cells32_size, HRL.out]; exact info16); (rw [cells32_size, HRL.out]; rfl); (try simp only [Act.put]); generalize hw6 : World.setRow _ _ (cells32 (Cha.rounds st)) = w6; have HB8 : Hid (w6.heap[w5.heap.size]? = some (.cells (cells32 (Cha.rounds st)) 63 (0, 0))) := Lib.hid (by rw [← hw6]; exact row_heap (heap_alloc_new w5 _)); have HFS : Hid (Fresh w5 w6) := Lib.hid (by rw [← hw6]; exact ((Keeps.refl _ w5).alloc _).setRow (Or.inr (Nat.le_refl _)) _); clear hw6)
  have HB76 := Lib.hid (HFS.out.at HB75.out)
  have HF6 : Hid (Fresh w w6) := Lib.hid (HF5.out.trans HFS.out)
  have hsz5 := HF5.out.size
  clear HB7 HF4 HB75 HFS
  go_loopw [19] (fun i wr => BlockRel w w3.heap.size w5.heap.size st i wr) (fun i _ => 16 - (intOf i).toNat)
  case atStart => exact ⟨0, by omega, rfl, HB76.out, HB8.out, HF6.out⟩
  case round =>
    clear HB76 HB8 HF6
    obtain ⟨k, hk, rfl, hb7, hb8, hf⟩ := hrel
    have HB7 := Lib.hid hb7
    have HB8 := Lib.hid hb8
    have HF := Lib.hid hf
    clear hb7 hb8 hf
    have HAL : Hid ((addK (Cha.rounds st) st k).length = 16) := Lib.hid (by rw [addK_len]; exact HRL.out)
    by_cases hlt : k < 16
    · obtain ⟨x, hx⟩ : ∃ x, x = (addK (Cha.rounds st) st k).getD k 0 := ⟨_, rfl⟩
      obtain ⟨y, hy⟩ : ∃ y, y = st.getD k 0 := ⟨_, rfl⟩
      have c8 : wr.cell? ⟨w5.heap.size, k, none⟩ = some (.int .u32 (Go.Proofs.Ytaapglpnofmmlaa.u32 x)) := by rw [hx, cell_block HB8.out]; exact cells32_get (by rw [HAL.out]; exact hlt)
      have c7 : wr.cell? ⟨w3.heap.size, k, none⟩ = some (.int .u32 (Go.Proofs.Ytaapglpnofmmlaa.u32 y)) := by rw [hy, cell_block HB7.out]; exact cells32_get (by rw [HSL.out]; exact hlt)
      have f8 : wr.frozen? ⟨w5.heap.size, k, none⟩ = false := free_block HB8.out k
      have HXY : Hid (addK (Cha.rounds st) st (k + 1) = (addK (Cha.rounds st) st k).set k (x + y)) := Lib.hid (by rw [hx, hy]; rfl)
      clear hx hy
      go_wp2_with fail
      refine wp_region_tailD 8 (by kernel_rfl) (by kernel_rfl) ?_
      simp only [List.take_succ_cons, List.take_zero, List.drop_succ_cons, List.drop_zero]
      repeat (quiet_step (fail))
      refine wpQuiet_nil ?_
      rintro _ ⟨m, rfl⟩
      go_wp2_with fail
      go_roundw
      case rel =>
        refine ⟨k + 1, by omega, by go_num, ?_, ?_, ?_⟩
        · exact block_set_other HB7.out (by show w3.heap.size ≠ w5.heap.size; omega)
        · rw [HXY.out, ← cells32_set]
          exact block_set HB8.out
        · exact (HF.out.drewN m).setCell (Or.inr (by show w.heap.size ≤ w5.heap.size; omega)) _
      case measure => simp [intOf]; omega
    · obtain rfl : k = 16 := by omega
      have hb := HB8.out
      rw [addK_blk st HSL.out] at hb
      have HB9 := Lib.hid hb
      clear hb HB8 HAL
      go_wp2_with fail
      refine (bytesOf_c w5.heap.size 0 16 16 (blkW st) wr (blkW_len _) (by decide) (fun i hi => by rw [cell_block HB9.out, Nat.zero_add]; exact cells32_get hi)).mono ?_
      rintro e w9 ⟨v9, rfl, ho9, hf9⟩
      have HO9 := Lib.hid ho9
      have HF9 := Lib.hid (HF.out.trans hf9)
      clear ho9 hf9
      go_wp2_with fail
      go_ret
      refine ⟨_, rfl, ?_, HF9.out⟩
      unfold blkB
      exact HO9.out.mono HF.out.size
end Go.Proofs.Ytaapglpnofmmlaa
