/-
  Contract: spec.TagOf.
-/
import Derived.Test.YtdkhpehniciijaaTagOfP
import Derived.Test.YtdkhpehniciijaaNums
import Derived.Test.YtdkhpehniciijaaSlPart
namespace Go.Proofs.Ytdkhpehniciijaa
open Go Go.RowKit
theorem keyS_le (key : List UInt8) : keyS key ≤ 2 * Poly.prime := Nat.le_trans (Nat.le_of_lt (keyS_lt key)) (by decide)
/-- the last loop of TagOf -/
def TgOut (w4 : World) (D : List Nat) (i : Value) (wr : World) : Prop :=
  ∃ k : Nat, k ≤ 16 ∧ k ≤ D.length ∧ i = .int .i64 k ∧ wr.heap[w4.heap.size]? = some (.cells (cells8 (outK D k)) 25 (0, 0)) ∧ Fresh w4 wr
theorem Fresh.setNew {a : World} {o : Obj} (h : Fresh a (a.alloc o)) (cs : Array Value) : Fresh a ((a.alloc o).setRow a.heap.size cs) := h.setRow (Or.inr (Nat.le_refl _)) cs
theorem horner_nil (R A : Nat) : Poly.horner R A [] = A := rfl
attribute [local irreducible] Poly.prime Dig.dig Dig.val Poly.horner chunks keyR keyS tagK clampL blk bytes16
set_option maxRecDepth 100000 in
set_option maxHeartbeats 2000000 in
theorem TagOf_c (vm : Value) (m key : List UInt8) (w : World) (hs : SlB w vm m) (hl : key.length = 32) (hm : m.length ≤ 140737488351232) :
    Calls Try.prog 18 #[vm, .agg (cells8 key)] w fun e w' => e = .returned (.agg (cells8 (tagK key m))) ∧ Fresh w w' := by
  have HS := Lib.hid hs
  have HL := Lib.hid hl
  have H1 := cells8_one key
  have HTL := Lib.hid (show (key.take 16).length = 16 by simp; omega)
  have HCV := Lib.hid (clamp_val key hl)
  have HKV := Lib.hid (keyS_nat8 key hl)
  have HRL := Lib.hid (keyR_lt key)
  obtain ⟨pm, cm, rfl⟩ : ∃ p c, vm = .slice p m.length c := by
    rcases hs with ⟨rfl, rfl⟩ | ⟨ad, c, rfl, -⟩
    · exact ⟨_, _, rfl⟩
    · exact ⟨_, _, rfl⟩
  clear hs hl
  go_enter Try.func18, Try.ntmps18
  go_wp2_with fail
  have HF0 : Hid (Fresh w ((w.alloc (.cells (cells8 key) 22)).alloc Z16)) := Lib.hid (((Keeps.refl _ w).alloc _).alloc _)
  have HB0 : Hid (((w.alloc (.cells (cells8 key) 22)).alloc Z16).heap[w.heap.size]? = some (.cells (cells8 key) 22 (0, 0))) := Lib.hid (block_alloc (heap_alloc_new w _))
  have HR0 : Hid (((w.alloc (.cells (cells8 key) 22)).alloc Z16).heap[w.heap.size + 1]? = some Z16) := Lib.hid (heap_alloc2_new w _ _)
  have hpre := SlB.pre (k := 16) HB0.out (by rw [HL.out]; decide) (by rw [HL.out]; decide)
  rw [HL.out] at hpre
  refine (Clamped_c _ (key.take 16) _ hpre HTL.out).mono ?_
  clear hpre
  rintro e w1 ⟨v1, rfl, hown, hf⟩
  have HOWN1 := Lib.hid hown
  have HF1 : Hid (Fresh w w1) := Lib.hid (HF0.out.then hf (fun _ _ h => h))
  have HB1 := Lib.hid (hf.at HB0.out)
  have HR1 := Lib.hid (hf.at HR0.out)
  clear hown hf HF0 HB0 HR0
  go_wp2_with fail
  refine (natural_c _ (clampL (key.take 16)) _ HOWN1.out.sl (by rw [clampL_len, HTL.out]; decide)).mono ?_
  rintro e w2 ⟨v2, rfl, hv2, hf2⟩
  have HV2 : Hid (SlI w2 v2 (Dig.dig (keyR key))) := Lib.hid (by rw [HCV.out] at hv2; exact hv2)
  have HF2 : Hid (Fresh w w2) := Lib.hid (HF1.out.then hf2 (fun _ _ h => h))
  have HB2 := Lib.hid (hf2.at HB1.out)
  have HR2 := Lib.hid (hf2.at HR1.out)
  clear hv2 hf2 HF1 HB1 HR1 HOWN1
  go_wp2_with fail
  go_loopw [6, 7, 8] (fun vp vs q wr => TgRel w2 (keyR key) m vp vs q wr) (fun _ _ q _ => (intOf q).toNat)
  case atStart =>
    refine ⟨(m.length + 15) / 16, Nat.le_refl _, by simp, ?_, ?_, (Keeps.refl _ w2).alloc _⟩
    · rw [List.drop_eq_nil_of_le (by omega), chunks_nil, horner_nil, Nat.zero_mod, Dig.dig_zero]
      exact SlI.none_of (Nat.zero_le _)
    · rw [List.drop_eq_nil_of_le (by omega), chunks_nil, List.length_nil, Nat.zero_add, Nat.pow_one, Nat.mod_eq_of_lt HRL.out]
      exact HV2.out.fresh ((Keeps.refl _ w2).alloc _)
  case round =>
    obtain ⟨k, hk, rfl, hsum, hpow, hf⟩ := hrel
    have HSUM := Lib.hid hsum
    have HPOW := Lib.hid hpow
    have HF := Lib.hid hf
    clear hsum hpow hf
    rcases Nat.eq_zero_or_pos k with hk0 | hk0
    · have HK := Lib.hid hk0
      have ik : ¬ (0 : Int) < k := by omega
      clear hk0
      go_wp2_with fail
      have hB := HF.out.at HB2.out
      have hs16 := SlB.at32 (k := 16) hB (by rw [HL.out]; decide) (by rw [HL.out]; decide)
      rw [HL.out] at hs16
      refine (natural_c _ (key.drop 16) wr hs16 (by rw [List.length_drop, HL.out]; decide)).mono ?_
      clear hs16 hB
      rintro e w3 ⟨v9, rfl, hv9, hf3⟩
      have HV9 : Hid (SlI w3 v9 (Dig.dig (keyS key))) := Lib.hid (by rw [HKV.out] at hv9; exact hv9)
      have HF3 : Hid (Fresh w2 w3) := Lib.hid (HF.out.then hf3 (fun _ _ h => h))
      have HS3 := Lib.hid (HSUM.out.fresh hf3)
      clear hv9 hf3
      obtain ⟨S, hS⟩ : ∃ S, S = Poly.horner (keyR key) 0 (chunks (m.drop (16 * k))) % Poly.prime := ⟨_, rfl⟩
      rw [← hS] at HS3
      have HSE : Hid (S = Poly.horner (keyR key) 0 (chunks m) % Poly.prime) := Lib.hid (by rw [HK.out, Nat.mul_zero, List.drop_zero] at hS; exact hS)
      have HSB : Hid (S ≤ 2 * Poly.prime) := Lib.hid (by have := Nat.mod_lt (Poly.horner (keyR key) 0 (chunks (m.drop (16 * k)))) prime_pos; omega)
      clear hS HSUM HPOW
      go_wp2_with fail
      refine (plus_c _ _ (Dig.dig S) (Dig.dig (keyS key)) w3 HS3.out HV9.out (Dig.small_dig _) (Dig.small_dig _) (dig_len_big (big1 HSB.out)) (dig_len_big (big1 (keyS_le key)))).mono ?_
      rintro e w4 ⟨v10, rfl, hv10, hf4⟩
      obtain ⟨N, hN⟩ : ∃ N, N = S + keyS key := ⟨_, rfl⟩
      have HV10 : Hid (SlI w4 v10 (Dig.dig N)) := Lib.hid (by rw [Dig.val_dig, Dig.val_dig, ← hN] at hv10; exact hv10)
      have HF4 : Hid (Fresh w2 w4) := Lib.hid (HF3.out.then hf4 (fun _ _ h => h))
      have HNE : Hid (bytes16 (N % 340282366920938463463374607431768211456) = tagK key m) := Lib.hid (by rw [hN, HSE.out]; exact tag_end key m)
      obtain ⟨D, hD⟩ : ∃ D, D = Dig.dig N := ⟨_, rfl⟩
      rw [← hD] at HV10
      have HDE := Lib.hid hD
      clear hv10 hf4 hN hD HF3 HS3 HV9
      obtain ⟨pd, cd, rfl⟩ := HV10.out.shape
      go_wp2_with (refine wpList_store_row rfl 25 (.tmp 11) (.tmp 55) rfl w4.heap.size (cells8 (List.replicate 16 0)) rfl rfl 25 _ (heap_alloc_new w4 _) info16B rfl (cells8_one _) ?_)
      go_loopw [12] (fun i wr => TgOut w4 D i wr) (fun i _ => 16 - (intOf i).toNat)
      case atStart => exact ⟨0, by omega, Nat.zero_le _, rfl, row_heap (heap_alloc_new w4 _), Fresh.setNew ((Keeps.refl _ w4).alloc _) _⟩
      case round =>
        obtain ⟨i, hi, hiD, rfl, hblk, hfo⟩ := hrel
        have HBLK := Lib.hid hblk
        have HFO := Lib.hid hfo
        clear hblk hfo
        by_cases hc : i < 16 ∧ i < D.length
        · obtain ⟨h16, hDl⟩ := hc
          obtain ⟨bd, od, xd, ed, -, -, hbd, hcd⟩ := HV10.out.form (by omega)
          obtain ⟨rfl, rfl⟩ : pd = some ⟨bd, od, none⟩ ∧ cd = xd := by injection ed with a1 a2 a3; exact ⟨a1, a3⟩
          obtain ⟨d, hd⟩ : ∃ d, d = D.getD i 0 := ⟨_, rfl⟩
          have cx : wr.cell? ⟨bd, od + i, none⟩ = some (.int .i64 (d : Int)) := by rw [hd]; exact HFO.out.cellAt (hcd i hDl) (fun x => x)
          have hds : d < 256 := by rw [hd]; exact small_getD (by rw [HDE.out]; exact Dig.small_dig N) i
          have cz : wr.cell? ⟨w4.heap.size, i, none⟩ = some (.int .u8 (u8 ((outK D i).getD i 0))) := by rw [cell_block HBLK.out]; exact cells8_get (by rw [outK_len D i hi hiD]; exact h16)
          have fz : wr.frozen? ⟨w4.heap.size, i, none⟩ = false := free_block HBLK.out i
          have HD2 := Lib.hid hd
          have j1 : (i : Int) < 16 := by omega
          have j2 : (i : Int) < D.length := by omega
          have j3 : (d : Int) < 256 := by omega
          have j4 : (0 : Int) ≤ d := by omega
          clear ed hcd hd
          go_wp2_with fail
          refine ⟨⟨i + 1, by omega, by omega, by go_num, ?_, HFO.out.setCell (Or.inr (Nat.le_refl _)) _⟩, by simp [intOf]; omega⟩
          have hu : (d : Int) = u8 (UInt8.ofNat d) := by unfold u8; rw [UInt8.toNat_ofNat']; omega
          have h := block_set (i := i) (v := .int .u8 (u8 (UInt8.ofNat d))) HBLK.out
          rw [cells8_set, HD2.out, outK_set D i h16 hDl, ← HD2.out, ← hu] at h
          exact h
        · have HE : Hid (outK D i = tagK key m) := Lib.hid (by
            rw [← HNE.out, HDE.out]
            rw [HDE.out] at hiD hc
            exact outK_end N i hi hiD (by omega))
          have HBT : Hid (wr.heap[w4.heap.size]? = some (.cells (cells8 (tagK key m)) 25 (0, 0))) := Lib.hid (by rw [← HE.out]; exact HBLK.out)
          have HRR : Hid (wr.heap[w.heap.size + 1]? = some Z16) := Lib.hid (HFO.out.at (HF4.out.at HR2.out))
          have HTS := Lib.hid (show (cells8 (tagK key m)).size = 16 by rw [cells8_size, tagK_length])
          have HFIN : Hid (Fresh w wr) := Lib.hid (HF2.out.then (HF4.out.then HFO.out (fun _ _ h => h)) (fun _ _ h => h))
          by_cases h16 : i < 16
          · have j1 : (i : Int) < 16 := by omega
            have j2 : ¬ (i : Int) < D.length := by omega
            go_wp2_with (first
              | (refine wpList_load_row rfl 25 (.tmp 11) rfl w4.heap.size rfl 25 (cells8 (tagK key m)) (0, 0) _ HBT.out Try.underlying25 rfl ?_ ?_; (rw [HTS.out]; exact info16B))
              | (refine wpList_store_row rfl 25 (.tmp 4) (.tmp 73) rfl (w.heap.size + 1) (cells8 (tagK key m)) rfl rfl 25 _ HRR.out ?_ ?_ (cells8_one _) ?_; (rw [HTS.out]; exact info16B); (rw [HTS.out]; rfl)))
            refine bodyPost_ret (results_cell_row (g := w.heap.size + 1) rfl _ _ 25 (cells8 (tagK key m)) (0, 0) _ rfl (row_heap HRR.out) Try.underlying25 rfl ?_) rfl ?_
            · rw [HTS.out]; exact info16B
            · exact ⟨rfl, HFIN.out.setRow (Or.inr (by omega)) _⟩
          · have j1 : ¬ (i : Int) < 16 := by omega
            go_wp2_with (first
              | (refine wpList_load_row rfl 25 (.tmp 11) rfl w4.heap.size rfl 25 (cells8 (tagK key m)) (0, 0) _ HBT.out Try.underlying25 rfl ?_ ?_; (rw [HTS.out]; exact info16B))
              | (refine wpList_store_row rfl 25 (.tmp 4) (.tmp 73) rfl (w.heap.size + 1) (cells8 (tagK key m)) rfl rfl 25 _ HRR.out ?_ ?_ (cells8_one _) ?_; (rw [HTS.out]; exact info16B); (rw [HTS.out]; rfl)))
            refine bodyPost_ret (results_cell_row (g := w.heap.size + 1) rfl _ _ 25 (cells8 (tagK key m)) (0, 0) _ rfl (row_heap HRR.out) Try.underlying25 rfl ?_) rfl ?_
            · rw [HTS.out]; exact info16B
            · exact ⟨rfl, HFIN.out.setRow (Or.inr (by omega)) _⟩
    · obtain ⟨j, rfl⟩ : ∃ j, k = j + 1 := ⟨k - 1, by omega⟩
      have ik : (0 : Int) < ((j + 1 : Nat) : Int) := by omega
      have hm0 : 0 < m.length := by omega
      obtain ⟨bm, om, xm, em, hlc, hmx, hbm, hcm⟩ := HS.out.form hm0
      obtain ⟨rfl, rfl⟩ : pm = some ⟨bm, om, none⟩ ∧ cm = xm := by injection em with a1 a2 a3; exact ⟨a1, a3⟩
      have HBY := Lib.hid (show BytesIn w bm om m from hcm)
      clear em hcm
      have hj16 : 16 * j < m.length := by omega
      obtain ⟨S, hS⟩ : ∃ S, S = Poly.horner (keyR key) 0 (chunks (m.drop (16 * (j + 1)))) % Poly.prime := ⟨_, rfl⟩
      obtain ⟨P, hP⟩ : ∃ P, P = keyR key ^ ((chunks (m.drop (16 * (j + 1)))).length + 1) % Poly.prime := ⟨_, rfl⟩
      obtain ⟨M, hM⟩ : ∃ M, M = blk ((m.drop (16 * j)).take 16) := ⟨_, rfl⟩
      rw [← hS] at HSUM
      rw [← hP] at HPOW
      have HSB : Hid (S ≤ 2 * Poly.prime) := Lib.hid (by have := Nat.mod_lt (Poly.horner (keyR key) 0 (chunks (m.drop (16 * (j + 1))))) prime_pos; omega)
      have HPB : Hid (P ≤ 2 * Poly.prime) := Lib.hid (by have := Nat.mod_lt (keyR key ^ ((chunks (m.drop (16 * (j + 1)))).length + 1)) prime_pos; omega)
      have HML : Hid (M ≤ 2 * Poly.prime) := Lib.hid (by rw [hM]; exact blk_le _ (by rw [List.length_take]; omega))
      have HPL : Hid (((m.drop (16 * j)).take 16).length = min 16 (m.length - 16 * j)) := Lib.hid (by rw [List.length_take, List.length_drop])
      have HSE := Lib.hid hS
      have HPE := Lib.hid hP
      have HM := Lib.hid hM
      clear hS hP hM
      simp only [maxLen] at hmx
      by_cases hlast : m.length < 16 * (j + 1)
      · have il : ¬ 16 * ((j : Int) + 1) ≤ m.length := by omega
        go_upto_region 8 with (at_builtin; refine wpList_appB rfl (.tmp 26) (.tmp 36) rfl wr.heap.size _ _ [] ((m.drop (16 * j)).take 16) rfl rfl (World.ownsRow_lit wr #[] 0 (Nat.le_refl _) (by decide) rfl) (tg_part (k := j) HBY.out ((HF2.out.then HF.out (fun _ _ h => h)).alloc _) (by omega) (by omega) (by omega) (by unfold maxLen; omega)) (by have := HPL.out; rw [List.length_nil]; omega) (by simp) ?_; intro v9 w3 hA)
        have HP9 : Hid (OwnB 5 w3 wr.heap.size v9 ((m.drop (16 * j)).take 16)) := Lib.hid (by have h := hA.1; rw [List.nil_append] at h; exact h)
        have HF3 : Hid (Fresh wr w3) := Lib.hid (Fresh.then ((Keeps.refl _ wr).alloc _) hA.2.1 (fun q hq e => by omega))
        clear hA
        go_wp2_with (at_builtin; refine wpList_appB rfl (.tmp 39) (.tmp 40) rfl wr.heap.size _ _ ((m.drop (16 * j)).take 16) [1] rfl rfl (OwnB.kept HP9.out ((Keeps.refl (fun _ => False) w3).alloc _) (fun _ _ h => h)) (SlB.one 1 (heap_alloc_new w3 _)) (by have := HPL.out; rw [List.length_singleton]; omega) (by have := HF3.out.size; simp; omega) ?_; intro v10 w4 hA)
        have HP10 : Hid (SlB w4 v10 ((m.drop (16 * j)).take 16 ++ [1])) := Lib.hid hA.1.sl
        have HF4 : Hid (Fresh wr w4) := Lib.hid (Fresh.then (HF3.out.alloc _) hA.2.1 (fun q hq e => by omega))
        clear hA HP9 HF3
        refine (natural_c _ _ w4 HP10.out (by have := HPL.out; rw [List.length_append, List.length_singleton]; omega)).mono ?_
        rintro e w5 ⟨v11, rfl, hv11, hf5⟩
        have HV11 : Hid (SlI w5 v11 (Dig.dig M)) := Lib.hid (by rw [blk_snoc, ← HM.out] at hv11; exact hv11)
        have HF5 : Hid (Fresh wr w5) := Lib.hid (HF4.out.then hf5 (fun _ _ h => h))
        clear hv11 hf5 HP10 HF4
        go_wp2_with fail
        refine (times_c _ _ (Dig.dig M) (Dig.dig P) w5 HV11.out (HPOW.out.fresh HF5.out) (Dig.small_dig _) (Dig.small_dig _) (dig_len_big (big1 HML.out)) (dig_len_big (big1 HPB.out))).mono ?_
        rintro e w6 ⟨v12, rfl, hv12, hf6⟩
        have HV12 : Hid (SlI w6 v12 (Dig.dig (M * P))) := Lib.hid (by rw [Dig.val_dig, Dig.val_dig] at hv12; exact hv12)
        have HF6 : Hid (Fresh wr w6) := Lib.hid (HF5.out.then hf6 (fun _ _ h => h))
        clear hv12 hf6 HV11 HF5
        go_wp2_with fail
        refine (plus_c _ _ (Dig.dig S) (Dig.dig (M * P)) w6 (HSUM.out.fresh HF6.out) HV12.out (Dig.small_dig _) (Dig.small_dig _) (dig_len_big (big1 HSB.out)) (dig_len_big (big2 HML.out HPB.out))).mono ?_
        rintro e w7 ⟨v13, rfl, hv13, hf7⟩
        have HV13 : Hid (SlI w7 v13 (Dig.dig (S + M * P))) := Lib.hid (by rw [Dig.val_dig, Dig.val_dig] at hv13; exact hv13)
        have HF7 : Hid (Fresh wr w7) := Lib.hid (HF6.out.then hf7 (fun _ _ h => h))
        clear hv13 hf7 HV12 HF6
        go_wp2_with fail
        refine (rest_c _ (Dig.dig (S + M * P)) w7 HV13.out (Dig.small_dig _)).mono ?_
        rintro e w8 ⟨v14, rfl, hv14, hf8⟩
        have HV14 : Hid (SlI w8 v14 (Dig.dig ((S + M * P) % Poly.prime))) := Lib.hid (by rw [Dig.val_dig] at hv14; exact hv14)
        have HF8 : Hid (Fresh wr w8) := Lib.hid (HF7.out.then hf8 (fun _ _ h => h))
        clear hv14 hf8 HV13 HF7
        go_wp2_with fail
        refine (times_c _ _ (Dig.dig P) (Dig.dig (keyR key)) w8 (HPOW.out.fresh HF8.out) (HV2.out.fresh (HF.out.then HF8.out (fun _ _ h => h))) (Dig.small_dig _) (Dig.small_dig _) (dig_len_big (big1 HPB.out)) (dig_len_big (big1 (by have := HRL.out; omega)))).mono ?_
        rintro e w10 ⟨v15, rfl, hv15, hf10⟩
        have HV15 : Hid (SlI w10 v15 (Dig.dig (P * keyR key))) := Lib.hid (by rw [Dig.val_dig, Dig.val_dig] at hv15; exact hv15)
        have HF10 : Hid (Fresh wr w10) := Lib.hid (HF8.out.then hf10 (fun _ _ h => h))
        have HV14b := Lib.hid (HV14.out.fresh hf10)
        clear hv15 hf10 HF8
        go_wp2_with fail
        refine (rest_c _ (Dig.dig (P * keyR key)) w10 HV15.out (Dig.small_dig _)).mono ?_
        rintro e w11 ⟨v16, rfl, hv16, hf11⟩
        have HV16 : Hid (SlI w11 v16 (Dig.dig (P * keyR key % Poly.prime))) := Lib.hid (by rw [Dig.val_dig] at hv16; exact hv16)
        have HF11 : Hid (Fresh w2 w11) := Lib.hid (HF.out.then (HF10.out.then hf11 (fun _ _ h => h)) (fun _ _ h => h))
        have HV14c := Lib.hid (HV14b.out.fresh hf11)
        clear hv16 hf11 HF10 HV14b
        go_wp2_with fail
        refine ⟨?rel, ?measure⟩
        case rel => exact tg_next hk HM.out HSE.out HPE.out HV14c.out HV16.out HF11.out
        case measure => simp [intOf]
      · have il3 : 16 * ((j : Int) + 1) ≤ m.length := by omega
        go_upto_region 8 with (at_builtin; refine wpList_appB rfl (.tmp 26) (.tmp 36) rfl wr.heap.size _ _ [] ((m.drop (16 * j)).take 16) rfl rfl (World.ownsRow_lit wr #[] 0 (Nat.le_refl _) (by decide) rfl) (tg_part (k := j) HBY.out ((HF2.out.then HF.out (fun _ _ h => h)).alloc _) (by omega) (by omega) (by omega) (by unfold maxLen; omega)) (by have := HPL.out; rw [List.length_nil]; omega) (by simp) ?_; intro v9 w3 hA)
        have HP9 : Hid (OwnB 5 w3 wr.heap.size v9 ((m.drop (16 * j)).take 16)) := Lib.hid (by have h := hA.1; rw [List.nil_append] at h; exact h)
        have HF3 : Hid (Fresh wr w3) := Lib.hid (Fresh.then ((Keeps.refl _ wr).alloc _) hA.2.1 (fun q hq e => by omega))
        clear hA
        go_wp2_with (at_builtin; refine wpList_appB rfl (.tmp 39) (.tmp 40) rfl wr.heap.size _ _ ((m.drop (16 * j)).take 16) [1] rfl rfl (OwnB.kept HP9.out ((Keeps.refl (fun _ => False) w3).alloc _) (fun _ _ h => h)) (SlB.one 1 (heap_alloc_new w3 _)) (by have := HPL.out; rw [List.length_singleton]; omega) (by have := HF3.out.size; simp; omega) ?_; intro v10 w4 hA)
        have HP10 : Hid (SlB w4 v10 ((m.drop (16 * j)).take 16 ++ [1])) := Lib.hid hA.1.sl
        have HF4 : Hid (Fresh wr w4) := Lib.hid (Fresh.then (HF3.out.alloc _) hA.2.1 (fun q hq e => by omega))
        clear hA HP9 HF3
        refine (natural_c _ _ w4 HP10.out (by have := HPL.out; rw [List.length_append, List.length_singleton]; omega)).mono ?_
        rintro e w5 ⟨v11, rfl, hv11, hf5⟩
        have HV11 : Hid (SlI w5 v11 (Dig.dig M)) := Lib.hid (by rw [blk_snoc, ← HM.out] at hv11; exact hv11)
        have HF5 : Hid (Fresh wr w5) := Lib.hid (HF4.out.then hf5 (fun _ _ h => h))
        clear hv11 hf5 HP10 HF4
        go_wp2_with fail
        refine (times_c _ _ (Dig.dig M) (Dig.dig P) w5 HV11.out (HPOW.out.fresh HF5.out) (Dig.small_dig _) (Dig.small_dig _) (dig_len_big (big1 HML.out)) (dig_len_big (big1 HPB.out))).mono ?_
        rintro e w6 ⟨v12, rfl, hv12, hf6⟩
        have HV12 : Hid (SlI w6 v12 (Dig.dig (M * P))) := Lib.hid (by rw [Dig.val_dig, Dig.val_dig] at hv12; exact hv12)
        have HF6 : Hid (Fresh wr w6) := Lib.hid (HF5.out.then hf6 (fun _ _ h => h))
        clear hv12 hf6 HV11 HF5
        go_wp2_with fail
        refine (plus_c _ _ (Dig.dig S) (Dig.dig (M * P)) w6 (HSUM.out.fresh HF6.out) HV12.out (Dig.small_dig _) (Dig.small_dig _) (dig_len_big (big1 HSB.out)) (dig_len_big (big2 HML.out HPB.out))).mono ?_
        rintro e w7 ⟨v13, rfl, hv13, hf7⟩
        have HV13 : Hid (SlI w7 v13 (Dig.dig (S + M * P))) := Lib.hid (by rw [Dig.val_dig, Dig.val_dig] at hv13; exact hv13)
        have HF7 : Hid (Fresh wr w7) := Lib.hid (HF6.out.then hf7 (fun _ _ h => h))
        clear hv13 hf7 HV12 HF6
        go_wp2_with fail
        refine (rest_c _ (Dig.dig (S + M * P)) w7 HV13.out (Dig.small_dig _)).mono ?_
        rintro e w8 ⟨v14, rfl, hv14, hf8⟩
        have HV14 : Hid (SlI w8 v14 (Dig.dig ((S + M * P) % Poly.prime))) := Lib.hid (by rw [Dig.val_dig] at hv14; exact hv14)
        have HF8 : Hid (Fresh wr w8) := Lib.hid (HF7.out.then hf8 (fun _ _ h => h))
        clear hv14 hf8 HV13 HF7
        go_wp2_with fail
        refine (times_c _ _ (Dig.dig P) (Dig.dig (keyR key)) w8 (HPOW.out.fresh HF8.out) (HV2.out.fresh (HF.out.then HF8.out (fun _ _ h => h))) (Dig.small_dig _) (Dig.small_dig _) (dig_len_big (big1 HPB.out)) (dig_len_big (big1 (by have := HRL.out; omega)))).mono ?_
        rintro e w10 ⟨v15, rfl, hv15, hf10⟩
        have HV15 : Hid (SlI w10 v15 (Dig.dig (P * keyR key))) := Lib.hid (by rw [Dig.val_dig, Dig.val_dig] at hv15; exact hv15)
        have HF10 : Hid (Fresh wr w10) := Lib.hid (HF8.out.then hf10 (fun _ _ h => h))
        have HV14b := Lib.hid (HV14.out.fresh hf10)
        clear hv15 hf10 HF8
        go_wp2_with fail
        refine (rest_c _ (Dig.dig (P * keyR key)) w10 HV15.out (Dig.small_dig _)).mono ?_
        rintro e w11 ⟨v16, rfl, hv16, hf11⟩
        have HV16 : Hid (SlI w11 v16 (Dig.dig (P * keyR key % Poly.prime))) := Lib.hid (by rw [Dig.val_dig] at hv16; exact hv16)
        have HF11 : Hid (Fresh w2 w11) := Lib.hid (HF.out.then (HF10.out.then hf11 (fun _ _ h => h)) (fun _ _ h => h))
        have HV14c := Lib.hid (HV14b.out.fresh hf11)
        clear hv16 hf11 HF10 HV14b
        go_wp2_with fail
        refine ⟨?rel, ?measure⟩
        case rel => exact tg_next hk HM.out HSE.out HPE.out HV14c.out HV16.out HF11.out
        case measure => simp [intOf]
end Go.Proofs.Ytdkhpehniciijaa
