/-
  Plain: what TagOf computes is the authenticator.
-/
import Derived.Test.YtdkhpehniciijaaClampLaw
import Derived.Test.YtdkhpehniciijaaShifted
import Derived.Test.YtdkhpehniciijaaRest
namespace Go.Proofs.Ytdkhpehniciijaa
open Go Go.RowKit
theorem keyR_lt (key : List UInt8) : keyR key < Poly.prime := by
  unfold keyR
  have h1 := clamp0_lt key
  have h2 := clamp1_lt key
  have h3 : (21267647932558653966460912964485513216 : Nat) < Poly.prime := by decide
  omega
/-- the loop of TagOf: blocks from place 16 q on are done -/
def TgRel (wB : World) (R : Nat) (m : List UInt8) (vp vs q : Value) (wr : World) : Prop :=
  ∃ k : Nat, k ≤ (m.length + 15) / 16 ∧ q = .int .i64 k ∧ SlI wr vs (Dig.dig (Poly.horner R 0 (chunks (m.drop (16 * k))) % Poly.prime)) ∧
    SlI wr vp (Dig.dig (R ^ ((chunks (m.drop (16 * k))).length + 1) % Poly.prime)) ∧ Fresh wB wr
theorem tg_chunk (m : List UInt8) (k : Nat) (h : k + 1 ≤ (m.length + 15) / 16) : chunks (m.drop (16 * k)) = blk ((m.drop (16 * k)).take 16) :: chunks (m.drop (16 * (k + 1))) := by
  rw [chunks_cons _ (by rw [List.length_drop]; omega), List.drop_drop, Nat.mul_succ]
theorem tg_sum (R S P M : Nat) (ms : List Nat) (hS : S = Poly.horner R 0 ms % Poly.prime) (hP : P = R ^ (ms.length + 1) % Poly.prime) : (S + M * P) % Poly.prime = Poly.horner R 0 (M :: ms) % Poly.prime := by
  rw [Poly.horner_cons, hS, hP, Nat.add_comm, Nat.add_mod, Nat.mul_mod, Nat.mod_mod, Nat.mod_mod, ← Nat.mul_mod, ← Nat.add_mod]
theorem tg_pow (R P n : Nat) (hP : P = R ^ (n + 1) % Poly.prime) : (P * R) % Poly.prime = R ^ (n + 1 + 1) % Poly.prime := by
  rw [hP, Nat.pow_succ R (n + 1), Nat.mul_mod, Nat.mod_mod, ← Nat.mul_mod]
/-- the bytes that the last loop writes -/
def outK (D : List Nat) (k : Nat) : List UInt8 := (D.take k).map UInt8.ofNat ++ List.replicate (16 - k) 0
theorem outK_len (D : List Nat) (k : Nat) (h : k ≤ 16) (hD : k ≤ D.length) : (outK D k).length = 16 := by
  simp [outK]; omega
theorem outK_set (D : List Nat) (k : Nat) (h : k < 16) (hD : k < D.length) : (outK D k).set k (UInt8.ofNat (D.getD k 0)) = outK D (k + 1) := by
  unfold outK
  have hl : ((D.take k).map UInt8.ofNat).length = k := by simp; omega
  obtain ⟨n, hn⟩ : ∃ n, 16 - k = n + 1 := ⟨15 - k, by omega⟩
  rw [List.set_append_right _ _ (by omega), hl, Nat.sub_self, hn, List.replicate_succ, List.set_cons_zero, show 16 - (k + 1) = n by omega, List.take_succ_eq_append_getElem hD, List.map_append, List.append_assoc]
  simp [List.getD, hD]
theorem outK_end (N k : Nat) (hk : k ≤ 16) (hD : k ≤ (Dig.dig N).length) (he : k = 16 ∨ k = (Dig.dig N).length) : outK (Dig.dig N) k = bytes16 (N % 340282366920938463463374607431768211456) := by
  rw [← bytes16_nat8 (outK (Dig.dig N) k) (outK_len _ _ hk hD)]
  congr 1
  have hmap : (((Dig.dig N).take k).map UInt8.ofNat).map UInt8.toNat = (Dig.dig N).take k := by
    rw [List.map_map]
    conv => rhs; rw [← List.map_id ((Dig.dig N).take k)]
    apply List.map_congr_left
    intro x hx
    have := Dig.small_dig N x (List.mem_of_mem_take hx)
    simp [UInt8.toNat_ofNat', Nat.mod_eq_of_lt this]
  unfold nat8 outK
  rw [List.map_append, Dig.val_append, hmap, val_zeros, Nat.mul_zero, Nat.add_zero]
  rcases he with rfl | rfl
  · conv => rhs; rw [← Dig.val_dig N, ← List.take_append_drop 16 (Dig.dig N), Dig.val_append]
    have hl : ((Dig.dig N).take 16).length = 16 := by rw [List.length_take]; omega
    have hlt := Dig.val_lt ((Dig.dig N).take 16) (fun d hd => Dig.small_dig N d (List.mem_of_mem_take hd))
    rw [hl] at hlt ⊢
    have h3 : (256 : Nat) ^ 16 = 340282366920938463463374607431768211456 := by decide
    rw [h3] at hlt ⊢
    rw [Nat.add_mul_mod_self_left, Nat.mod_eq_of_lt hlt]
  · rw [List.take_length, Dig.val_dig, Nat.mod_eq_of_lt]
    have h1 := dig_lt N
    have h3 : (256 : Nat) ^ 16 = 340282366920938463463374607431768211456 := by decide
    rw [← h3]
    exact Nat.lt_of_lt_of_le h1 (Nat.pow_le_pow_right (by decide) hk)
theorem tag_end (key m : List UInt8) : bytes16 ((Poly.horner (keyR key) 0 (chunks m) % Poly.prime + keyS key) % 340282366920938463463374607431768211456) = tagK key m := by
  unfold tagK tagB tagN
  rw [Poly.runH_mod (keyR key) (chunks m) 0 0 rfl]
theorem keyS_nat8 (key : List UInt8) (h : key.length = 32) : Dig.val ((key.drop 16).map UInt8.toNat) = keyS key := by
  unfold keyS key2 key3
  have e1 : (key.drop 24).take 8 = ((key.drop 16).drop 8).take 8 := by rw [List.drop_drop]
  rw [e1, val16 (key.drop 16) (by simp; omega)]
theorem dig_len_big {x : Nat} (h : x ≤ (2 * Poly.prime + 1) ^ 3) : (Dig.dig x).length ≤ 100000 := by
  rcases Nat.eq_zero_or_pos x with rfl | hx
  · rw [Dig.dig_zero]; decide
  · by_cases hc : (Dig.dig x).length ≤ 100
    · omega
    · have h3 := dig_ge x hx
      have h4 : 256 ^ 100 ≤ 256 ^ ((Dig.dig x).length - 1) := Nat.pow_le_pow_right (by decide) (by omega)
      have h5 : ¬ (256 ^ 100 ≤ (2 * Poly.prime + 1) ^ 3) := by decide
      exact absurd (Nat.le_trans h4 (Nat.le_trans h3 h)) h5
theorem big1 {x : Nat} (h : x ≤ 2 * Poly.prime) : x ≤ (2 * Poly.prime + 1) ^ 3 := Nat.le_trans h (by decide)
theorem big2 {x y : Nat} (hx : x ≤ 2 * Poly.prime) (hy : y ≤ 2 * Poly.prime) : x * y ≤ (2 * Poly.prime + 1) ^ 3 := Nat.le_trans (Nat.mul_le_mul hx hy) (by decide)
theorem big3 {s x y : Nat} (hs : s ≤ 2 * Poly.prime) (hx : x ≤ 2 * Poly.prime) (hy : y ≤ 2 * Poly.prime) : s + x * y ≤ (2 * Poly.prime + 1) ^ 3 := Nat.le_trans (Nat.add_le_add hs (Nat.mul_le_mul hx hy)) (by decide)
theorem blk_le (l : List UInt8) (h : l.length ≤ 16) : blk l ≤ 2 * Poly.prime := by
  have h1 := Dig.val_lt (l.map UInt8.toNat) (small_bytes l)
  rw [List.length_map] at h1
  have h2 : 256 ^ l.length ≤ 256 ^ 16 := Nat.pow_le_pow_right (by decide) h
  have h3 : 256 ^ 16 + 256 ^ 16 * 1 ≤ 2 * Poly.prime := by decide
  unfold blk
  rw [Dig.val_append, List.length_map]
  have h4 : Dig.val [1] = 1 := rfl
  rw [h4]
  omega
theorem tg_part {w w' : World} {bm om lo n c : Nat} {m : List UInt8} {k : Nat} (hb : BytesIn w bm om m) (hf : Fresh w w') (hlo : lo = 16 * k) (hn : n = min 16 (m.length - 16 * k)) (hc : n ≤ c) (hmx : c ≤ maxLen) :
    SlB w' (.slice (some ⟨bm, om + lo, none⟩) n c) ((m.drop (16 * k)).take 16) := by
  have hl : ((m.drop (16 * k)).take 16).length = n := by rw [List.length_take, List.length_drop]; omega
  have := SlB.of (w := w') (b := bm) (o := om + lo) (c := c) (l := (m.drop (16 * k)).take 16) (by omega) hmx (fun i hi => by
    have h := (hb.keeps hf (fun x => x)) (16 * k + i) (by omega)
    rw [hlo, Nat.add_assoc, h]
    simp [List.getD, List.getElem?_drop, show i < 16 by omega])
  rwa [hl] at this
theorem SlB.one {w : World} {g : Nat} {T : TypeId} (x : UInt8) (h : w.heap[g]? = some (.cells #[.int .u8 (u8 x)] T (0, 0))) : SlB w (.slice (some ⟨g, 0, none⟩) 1 1) [x] := by
  have := SlB.of (w := w) (b := g) (o := 0) (c := 1) (l := [x]) (Nat.le_refl _) (by decide) (fun i hi => by
    have : i = 0 := by simp at hi; omega
    subst this
    rw [cell_block h]; rfl)
  exact this
theorem blk_snoc (l : List UInt8) : Dig.val ((l ++ [1]).map UInt8.toNat) = blk l := by
  unfold blk; rw [List.map_append]; rfl
/-- a round of TagOf -/
theorem tg_next {wB wr : World} {R S P M : Nat} {m : List UInt8} {k : Nat} {vp vs : Value} (hk : k + 1 ≤ (m.length + 15) / 16) (hM : M = blk ((m.drop (16 * k)).take 16))
    (hS : S = Poly.horner R 0 (chunks (m.drop (16 * (k + 1)))) % Poly.prime) (hP : P = R ^ ((chunks (m.drop (16 * (k + 1)))).length + 1) % Poly.prime)
    (hs : SlI wr vs (Dig.dig ((S + M * P) % Poly.prime))) (hp : SlI wr vp (Dig.dig (P * R % Poly.prime))) (hf : Fresh wB wr) : TgRel wB R m vp vs (.int .i64 (k : Int)) wr := by
  refine ⟨k, by omega, rfl, ?_, ?_, hf⟩
  · rw [tg_chunk m k hk, ← hM, ← tg_sum R S P M _ hS hP]; exact hs
  · rw [tg_chunk m k hk, List.length_cons, ← tg_pow R P _ hP]; exact hp
end Go.Proofs.Ytdkhpehniciijaa
