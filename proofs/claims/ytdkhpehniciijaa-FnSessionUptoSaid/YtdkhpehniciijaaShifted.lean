/-
  Contract: spec.Shifted.
-/
import Derived.Test.YtdkhpehniciijaaArrEq
import Derived.Test.YtdkhpehniciijaaTagLaws
import Derived.BigQuiet
namespace Go.Proofs.Ytdkhpehniciijaa
open Go Go.RowKit
/-- the number of bytes -/
def nat8 (l : List UInt8) : Nat := Dig.val (l.map UInt8.toNat)
theorem nat8_take_succ (l : List UInt8) (k : Nat) (h : k < l.length) : nat8 (l.take (k + 1)) = nat8 (l.take k) + 256 ^ k * (l.getD k 0).toNat := by
  unfold nat8
  rw [List.take_succ_eq_append_getElem h, List.map_append, Dig.val_append, List.length_map, List.length_take, Nat.min_eq_left (Nat.le_of_lt h)]
  simp [Dig.val, List.getD, h]
theorem nat8_set (l : List UInt8) (k : Nat) (x : UInt8) (h : k < l.length) : nat8 ((l.set k x).take (k + 1)) = nat8 (l.take k) + 256 ^ k * x.toNat := by
  rw [nat8_take_succ _ _ (by simpa using h)]
  congr 2
  · rw [List.take_set, List.set_eq_of_length_le (by rw [List.length_take]; omega)]
  · simp [List.getD, h]
theorem nat8_lt (l : List UInt8) : nat8 l < 256 ^ l.length := by
  have := Dig.val_lt (l.map UInt8.toNat) (fun d hd => by obtain ⟨x, -, rfl⟩ := List.mem_map.1 hd; exact x.toNat_lt)
  rwa [List.length_map] at this
theorem bytes16_nat8 (l : List UInt8) (h : l.length = 16) : bytes16 (nat8 l) = l := by
  unfold nat8
  have e8 : (l.drop 8).take 8 = l.drop 8 := List.take_of_length_le (by simp; omega)
  rw [← val16 l h, bytes16_two, by64_w64 _ (by simp; omega), by64_w64 _ (by simp; omega), e8, List.take_append_drop]
theorem bytes16_inj (a b : Nat) (ha : a < 340282366920938463463374607431768211456) (hb : b < 340282366920938463463374607431768211456) (h : bytes16 a = bytes16 b) : a = b := by
  have key : ∀ n, n < 340282366920938463463374607431768211456 → nat8 (bytes16 n) = n := by
    intro n hn
    unfold nat8 bytes16
    rw [List.map_append, Dig.val_append, List.length_map, by64_length, by64_val, by64_val]
    simp only [Dig.val, UInt64.toNat_ofNat']
    omega
  rw [← key a ha, ← key b hb, h]
theorem nat8_bytes16 (n : Nat) (hn : n < 340282366920938463463374607431768211456) : nat8 (bytes16 n) = n := by
  unfold nat8 bytes16
  rw [List.map_append, Dig.val_append, List.length_map, by64_length, by64_val, by64_val]
  simp only [Dig.val, UInt64.toNat_ofNat']
  omega
/-- the loop of Shifted -/
def ShRel (w : World) (tag s : List UInt8) (vs : Value) (c i : Value) (wr : World) : Prop :=
  ∃ (k q : Nat) (o : List UInt8), k ≤ 16 ∧ q ≤ 1 ∧ i = .int .i64 k ∧ c = .int .i64 q ∧ o.length = 16 ∧ wr.heap[w.heap.size + 1 + 1]? = some (.cells (cells8 o) 25 (0, 0)) ∧
    nat8 (o.take k) + 256 ^ k * q = nat8 (tag.take k) + nat8 (s.take k) ∧ wr.heap[w.heap.size]? = some (.cells (cells8 tag) 25 (0, 0)) ∧ SlB wr vs s ∧ Room wr (w.heap.size + 1) 25 16 ∧ Fresh w wr
theorem nat8_nil : nat8 [] = 0 := rfl
attribute [local irreducible] nat8
set_option maxRecDepth 100000 in
set_option maxHeartbeats 1000000 in
theorem Shifted_c (b o c : Nat) (tag s : List UInt8) (w : World) (hs : SlB w (.slice (some ⟨b, o, none⟩) 16 c) s) (ht : tag.length = 16) (hl : s.length = 16) :
    Calls Try.prog 17 #[.agg (cells8 tag), .slice (some ⟨b, o, none⟩) 16 c] w fun e w' =>
      e = .returned (.agg (cells8 (bytes16 ((nat8 tag + nat8 s) % 340282366920938463463374607431768211456)))) ∧ Fresh w w' := by
  have HS := Lib.hid hs
  have HT := Lib.hid ht
  have HL := Lib.hid hl
  have H1 := cells8_one tag
  have HTS := Lib.hid (show (cells8 tag).size = 16 by rw [cells8_size, ht])
  clear hs ht hl
  go_enter Try.func17, Try.ntmps17
  go_wp2_with (refine wpList_store_row rfl 25 (.tmp 5) (.tmp 8) rfl (w.heap.size + 1 + 1) (cells8 (List.replicate 16 0)) rfl rfl 25 _ (heap_alloc3_new w _ _ _) info16B rfl (cells8_one _) ?_)
  go_loopw [6, 9] (fun q i wr => ShRel w tag s (.slice (some ⟨b, o, none⟩) 16 c) q i wr) (fun _ i _ => 16 - (intOf i).toNat)
  case atStart =>
    refine ⟨0, 0, List.replicate 16 0, by omega, by omega, rfl, rfl, rfl, row_heap (heap_alloc3_new w _ _ _), by rw [List.take_zero, List.take_zero, List.take_zero, nat8_nil], ?_, ?_, ?_, ?_⟩
    · rw [setRow_other _ _ _ _ (by omega)]; exact block_alloc (block_alloc (heap_alloc_new w _))
    · exact HS.out.fresh (((((Keeps.refl _ w).alloc _).alloc _).alloc _).setRow (Or.inr (by omega)) _)
    · refine Room.of (old := cells8 (List.replicate 16 0)) ?_ rfl
      rw [setRow_other _ _ _ _ (by omega)]; exact block_alloc (heap_alloc2_new w _ _)
    · exact ((((Keeps.refl _ w).alloc _).alloc _).alloc _).setRow (Or.inr (by omega)) _
  case round =>
    obtain ⟨k, q, u, hk, hq, rfl, rfl, hu, hbu, hval, hbt, hss, hroom, hf⟩ := hrel
    have HU := Lib.hid hu
    have HBU := Lib.hid hbu
    have HVAL := Lib.hid hval
    have HBT := Lib.hid hbt
    have HSS := Lib.hid hss
    have HROOM := Lib.hid hroom
    have HF := Lib.hid hf
    clear hu hbu hval hbt hss hroom hf
    by_cases hlt : k < 16
    · obtain ⟨x, hx⟩ : ∃ x, x = tag.getD k 0 := ⟨_, rfl⟩
      obtain ⟨y, hy⟩ : ∃ y, y = s.getD k 0 := ⟨_, rfl⟩
      have cx : wr.cell? ⟨w.heap.size, k, none⟩ = some (.int .u8 (u8 x)) := by rw [cell_block HBT.out, hx]; exact cells8_get (by rw [HT.out]; exact hlt)
      have cy : wr.cell? ⟨b, o + k, none⟩ = some (.int .u8 (u8 y)) := by
        obtain ⟨b', o', c', e, -, -, -, hc⟩ := HSS.out.form (by rw [HL.out]; decide)
        rw [HL.out] at e
        cases e
        rw [hy]; exact hc k (by rw [HL.out]; exact hlt)
      have cz : wr.cell? ⟨w.heap.size + 1 + 1, k, none⟩ = some (.int .u8 (u8 (u.getD k 0))) := by rw [cell_block HBU.out]; exact cells8_get (by rw [HU.out]; exact hlt)
      have fz : wr.frozen? ⟨w.heap.size + 1 + 1, k, none⟩ = false := free_block HBU.out k
      have HX := Lib.hid hx
      have HY := Lib.hid hy
      have x0 := u8_nonneg x
      have x1 := u8_lt x
      have y0 := u8_nonneg y
      have y1 := u8_lt y
      have i1 : (k : Int) < 16 := by omega
      have i4 : (0 : Int) ≤ k := by omega
      clear hx hy
      go_wp2_with fail
      go_quiet (fail)
      go_wp2_with fail
      refine ⟨?rel, ?measure⟩
      case rel =>
        have hxn : u8 x = (x.toNat : Int) := rfl
        have hyn : u8 y = (y.toNat : Int) := rfl
        have hx := x.toNat_lt
        have hy := y.toNat_lt
        have hz : (UInt8.ofNat ((q + x.toNat + y.toNat) % 256)).toNat = (q + x.toNat + y.toNat) % 256 := by rw [UInt8.toNat_ofNat']; omega
        have hzi : ((q : Int) + (u8 x + u8 y)) % 256 = u8 (UInt8.ofNat ((q + x.toNat + y.toNat) % 256)) := by
          unfold u8 at hxn hyn ⊢
          rw [hz]; omega
        have hqi : ((q : Int) + (u8 x + u8 y)) / 256 = (((q + x.toNat + y.toNat) / 256 : Nat) : Int) := by rw [hxn, hyn]; omega
        rw [hzi, hqi]
        have hk1 : Keeps (fun p => p = w.heap.size + 1 + 1) wr ((wr.setCell ⟨w.heap.size + 1 + 1, k, none⟩ (.int .u8 (u8 (UInt8.ofNat ((q + x.toNat + y.toNat) % 256))))).drewN nq) := ((Keeps.refl _ wr).own _).drewN _
        refine ⟨k + 1, (q + x.toNat + y.toNat) / 256, u.set k (UInt8.ofNat ((q + x.toNat + y.toNat) % 256)), by omega, by omega, by go_num, rfl, by rw [List.length_set]; exact HU.out, ?_, ?_, hk1.at HBT.out (by omega), ?_, HROOM.out.keeps hk1 (by omega), HF.out.then hk1 (fun p hp e => by omega)⟩
        · have h := block_set (i := k) (v := .int .u8 (u8 (UInt8.ofNat ((q + x.toNat + y.toNat) % 256)))) HBU.out
          rw [cells8_set] at h
          exact block_drewN h
        · rw [nat8_set u k _ (by rw [HU.out]; exact hlt), nat8_take_succ tag k (by rw [HT.out]; exact hlt), nat8_take_succ s k (by rw [HL.out]; exact hlt), ← HX.out, ← HY.out, hz, Nat.pow_succ]
          have hv := HVAL.out
          have hdm := Nat.div_add_mod (q + x.toNat + y.toNat) 256
          generalize 256 ^ k = P at *
          generalize (q + x.toNat + y.toNat) / 256 = D at *
          generalize (q + x.toNat + y.toNat) % 256 = M at *
          have e1 : P * M + P * 256 * D = P * (q + x.toNat + y.toNat) := by rw [Nat.mul_assoc, ← Nat.mul_add, Nat.add_comm, hdm]
          rw [Nat.mul_add, Nat.mul_add] at e1
          omega
        · exact HSS.out.keeps hk1 (fun p hp hlt' e => by
            have := HS.out.lt (by rw [HL.out]; decide) p hp
            omega)
      case measure => simp [intOf]; omega
    · have K16 := Lib.hid (show k = 16 by omega)
      obtain ⟨old, hos, hbo⟩ := HROOM.out
      have HBO := Lib.hid hbo
      have HUS := Lib.hid (show (cells8 u).size = 16 by rw [cells8_size, HU.out])
      clear hbo
      go_wp2_with (first
        | (refine wpList_load_row rfl 25 (.tmp 5) rfl (w.heap.size + 1 + 1) rfl 25 (cells8 u) (0, 0) _ HBU.out Try.underlying25 rfl ?_ ?_; (rw [HUS.out]; exact info16B))
        | (refine wpList_store_row rfl 25 (.tmp 4) (.tmp 32) rfl (w.heap.size + 1) (cells8 u) rfl rfl 25 old HBO.out ?_ ?_ (cells8_one _) ?_; (rw [HUS.out]; exact info16B); (rw [HUS.out]; exact hos)))
      refine bodyPost_ret (results_cell_row (g := w.heap.size + 1) rfl _ _ 25 (cells8 u) (0, 0) _ rfl (row_heap HBO.out) Try.underlying25 rfl ?_) rfl ?_
      · rw [HUS.out]; exact info16B
      · refine ⟨?_, HF.out.setRow (Or.inr (by omega)) _⟩
        have hv := HVAL.out
        rw [K16.out, List.take_of_length_le (by rw [HU.out]; decide), List.take_of_length_le (by rw [HT.out]; decide), List.take_of_length_le (by rw [HL.out]; decide)] at hv
        have h1 := nat8_lt u
        rw [HU.out] at h1
        have h3 : (256 : Nat) ^ 16 = 340282366920938463463374607431768211456 := by decide
        rw [h3] at h1 hv
        have h2 : (nat8 tag + nat8 s) % 340282366920938463463374607431768211456 = nat8 u := by omega
        rw [h2, bytes16_nat8 u HU.out]
end Go.Proofs.Ytdkhpehniciijaa
