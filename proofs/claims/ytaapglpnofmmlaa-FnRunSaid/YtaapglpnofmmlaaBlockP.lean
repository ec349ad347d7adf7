/-
  Plain: the bytes of a block are those of the key stream.
-/
import Derived.Test.YtaapglpnofmmlaaRunP
import Derived.Test.YtaapglpnofmmlaaBytesOf
namespace Go.Proofs.Ytaapglpnofmmlaa
open Go Go.RowKit
attribute [local irreducible] Cha.iter Cha.rounds Cha.dbl Cha.qr
theorem mod_and (y : BitVec 32) : y % 256#32 = y &&& 255#32 := by
  apply BitVec.eq_of_toNat_eq
  rw [BitVec.toNat_umod, BitVec.toNat_and]
  exact (Nat.and_two_pow_sub_one_eq_mod y.toNat 8).symm
theorem le32_by (x : UInt32) : Byt.le32 (Byt.by0 x) (Byt.by1 x) (Byt.by2 x) (Byt.by3 x) = x := by
  unfold Byt.le32 Byt.by0 Byt.by1 Byt.by2 Byt.by3
  apply UInt32.toBitVec_inj.1
  apply BitVec.eq_of_getLsbD_eq
  intro i hi
  have h : i = 0 ∨ i = 1 ∨ i = 2 ∨ i = 3 ∨ i = 4 ∨ i = 5 ∨ i = 6 ∨ i = 7 ∨ i = 8 ∨ i = 9 ∨ i = 10 ∨ i = 11 ∨ i = 12 ∨ i = 13 ∨ i = 14 ∨ i = 15 ∨ i = 16 ∨ i = 17 ∨ i = 18 ∨ i = 19 ∨ i = 20 ∨ i = 21 ∨ i = 22 ∨ i = 23 ∨ i = 24 ∨ i = 25 ∨ i = 26 ∨ i = 27 ∨ i = 28 ∨ i = 29 ∨ i = 30 ∨ i = 31 := by omega
  rcases h with rfl | rfl | rfl | rfl | rfl | rfl | rfl | rfl | rfl | rfl | rfl | rfl | rfl | rfl | rfl | rfl | rfl | rfl | rfl | rfl | rfl | rfl | rfl | rfl | rfl | rfl | rfl | rfl | rfl | rfl | rfl | rfl <;> simp [mod_and]
/-- the state of a block -/
theorem start_st (key nonce : List UInt8) (c : UInt32) : start key (Byt.bytes32 c ++ nonce) = (ck12 key nonce).st c := by
  rw [start_lit]
  have e0 : wd (Byt.bytes32 c ++ nonce) 0 = c := le32_by c
  have e : ∀ k, wd (Byt.bytes32 c ++ nonce) (4 + k) = wd nonce k := fun k => by
    unfold wd Byt.bytes32
    have g : ∀ j, ([Byt.by0 c, Byt.by1 c, Byt.by2 c, Byt.by3 c] ++ nonce).getD (4 + j) 0 = nonce.getD j 0 := fun j => by
      simp only [List.getD]
      rw [List.getElem?_append_right (by simp)]
      simp
    rw [g k, show 4 + k + 1 = 4 + (k + 1) by omega, show 4 + k + 2 = 4 + (k + 2) by omega, show 4 + k + 3 = 4 + (k + 3) by omega, g (k + 1), g (k + 2), g (k + 3)]
  rw [e0, e 0, e 4, e 8]
  rfl
/-- the words of a block -/
def blkW (l : List UInt32) : List UInt32 := (List.range 16).map (zw l)
theorem blkW_len (l : List UInt32) : (blkW l).length = 16 := by simp [blkW]
theorem bytesL_getD (l : List UInt32) (i : Nat) (h : i < 4 * l.length) : (bytesL l).getD i 0 = (Byt.bytes32 (l.getD (i / 4) 0)).getD (i % 4) 0 := by
  induction l generalizing i with
  | nil => simp at h
  | cons x l ih =>
    simp only [bytesL, List.flatMap_cons, List.length_cons] at ih h ⊢
    by_cases hi : i < 4
    · rw [show i / 4 = 0 by omega, show i % 4 = i by omega]
      simp only [List.getD, List.getElem?_cons_zero, Option.getD_some]
      rw [List.getElem?_append_left (by simp [Byt.bytes32]; omega)]
    · have := ih (i - 4) (by omega)
      rw [show i / 4 = (i - 4) / 4 + 1 by omega, show i % 4 = (i - 4) % 4 by omega]
      simp only [List.getD, List.getElem?_cons_succ] at this ⊢
      rw [List.getElem?_append_right (by simp [Byt.bytes32]; omega)]
      simpa [Byt.bytes32] using this
/-- the bytes of a block -/
def blkB (l : List UInt32) : List UInt8 := bytesL (blkW l)
theorem blkB_len (l : List UInt32) : (blkB l).length = 64 := by unfold blkB; rw [bytesL_len, blkW_len]
theorem blkB_get (l : List UInt32) (i : Nat) (h : i < 64) : (blkB l).getD i 0 = ksB l i := by
  unfold blkB
  rw [bytesL_getD _ _ (by rw [blkW_len]; omega)]
  have hz : (blkW l).getD (i / 4) 0 = zw l (i / 4) := by
    unfold blkW
    simp [List.getD, show i / 4 < 16 by omega]
  rw [hz]
  unfold ksB Byt.bytes32
  have h4 : i % 4 < 4 := Nat.mod_lt _ (by decide)
  split
  · rename_i h0; rw [h0]; rfl
  · split
    · rename_i h0; rw [h0]; rfl
    · split
      · rename_i h0; rw [h0]; rfl
      · rw [show i % 4 = 3 by omega]; rfl
/-- the block at a counter: bytes of the key stream -/
theorem blk_ks (key nonce : List UInt8) (q : Nat) (i : Nat) (h : i < 64) : (blkB ((ck12 key nonce).st (UInt32.ofNat q))).getD i 0 = (ck12 key nonce).ks (64 * q + i) := by
  rw [blkB_get _ _ h]
  unfold CK.ks
  rw [show (64 * q + i) / 64 = q by omega, show (64 * q + i) % 64 = i by omega]
end Go.Proofs.Ytaapglpnofmmlaa
