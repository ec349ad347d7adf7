/-
  Plain: laws of the authenticator: of no bytes; with a first half of noughts.
-/
import Derived.Test.YtdkhpehniciijaaTag
namespace Go.Proofs.Ytdkhpehniciijaa
open Go
theorem by8 (x : UInt64) (k : Nat) (hk : k < 64) : (x >>> UInt64.ofNat k).toUInt8.toNat = x.toNat / 2 ^ k % 256 := by
  rw [UInt64.toNat_toUInt8, UInt64.toNat_shiftRight, UInt64.toNat_ofNat', Nat.mod_eq_of_lt (show k < 2 ^ 64 by omega), Nat.mod_eq_of_lt hk, Nat.shiftRight_eq_div_pow]
theorem by64_val (x : UInt64) : (by64 x).map UInt8.toNat = [x.toNat % 256, x.toNat / 256 % 256, x.toNat / 65536 % 256, x.toNat / 16777216 % 256, x.toNat / 4294967296 % 256, x.toNat / 1099511627776 % 256, x.toNat / 281474976710656 % 256, x.toNat / 72057594037927936 % 256] := by
  unfold by64
  simp only [List.map_cons, List.map_nil]
  have h0 : x.toUInt8.toNat = x.toNat % 256 := UInt64.toNat_toUInt8 x
  have h1 := by8 x 8 (by decide)
  have h2 := by8 x 16 (by decide)
  have h3 := by8 x 24 (by decide)
  have h4 := by8 x 32 (by decide)
  have h5 := by8 x 40 (by decide)
  have h6 := by8 x 48 (by decide)
  have h7 := by8 x 56 (by decide)
  rw [h0]
  exact congr (congrArg _ rfl) (congr (congrArg _ h1) (congr (congrArg _ h2) (congr (congrArg _ h3) (congr (congrArg _ h4) (congr (congrArg _ h5) (congr (congrArg _ h6) (congr (congrArg _ h7) rfl)))))))
theorem map_toNat_inj {a b : List UInt8} (h : a.map UInt8.toNat = b.map UInt8.toNat) : a = b := by
  induction a generalizing b with
  | nil => cases b with
    | nil => rfl
    | cons y b => cases h
  | cons x a ih => cases b with
    | nil => cases h
    | cons y b =>
      simp only [List.map_cons, List.cons.injEq] at h
      rw [UInt8.toNat_inj.1 h.1, ih h.2]
theorem by64_w64 (l : List UInt8) (h : l.length = 8) : by64 (w64 l) = l := by
  apply map_toNat_inj
  rw [by64_val]
  match l, h with
  | [a, b, c, d, e, f, g, i], _ =>
    have hw : (w64 [a, b, c, d, e, f, g, i]).toNat = a.toNat + 256 * b.toNat + 65536 * c.toNat + 16777216 * d.toNat + 4294967296 * e.toNat + 1099511627776 * f.toNat + 281474976710656 * g.toNat + 72057594037927936 * i.toNat := le64_toNat a b c d e f g i
    rw [hw]
    have := a.toNat_lt; have := b.toNat_lt; have := c.toNat_lt; have := d.toNat_lt
    have := e.toNat_lt; have := f.toNat_lt; have := g.toNat_lt; have := i.toNat_lt
    simp only [List.map_cons, List.map_nil, List.cons.injEq, and_true]
    refine ⟨?_, ?_, ?_, ?_, ?_, ?_, ?_, ?_⟩ <;> omega
theorem bytes16_two (x y : UInt64) : bytes16 (x.toNat + y.toNat * 18446744073709551616) = by64 x ++ by64 y := by
  have h := x.toNat_lt
  have h' := y.toNat_lt
  unfold bytes16
  congr 2
  · apply UInt64.toNat_inj.1; rw [UInt64.toNat_ofNat']; omega
  · apply UInt64.toNat_inj.1; rw [UInt64.toNat_ofNat']; omega
theorem key_last (key : List UInt8) (h : key.length = 32) : bytes16 (keyS key) = key.drop 16 := by
  unfold keyS key2 key3
  have e8 : (key.drop 24).take 8 = key.drop 24 := List.take_of_length_le (by simp; omega)
  rw [bytes16_two, by64_w64 _ (by simp; omega), by64_w64 _ (by simp; omega), e8, show key.drop 24 = (key.drop 16).drop 8 from by rw [List.drop_drop], List.take_append_drop]
theorem keyS_lt (key : List UInt8) : keyS key < 340282366920938463463374607431768211456 := by
  unfold keyS
  have := (key2 key).toNat_lt
  have := (key3 key).toNat_lt
  omega
/-- with no bytes: the second half of the key -/
theorem tag_nothing (key : List UInt8) (h : key.length = 32) : tagK key [] = key.drop 16 := by
  rw [← key_last key h]
  unfold tagK tagB tagN
  rw [chunks_nil, runH_nil, Nat.zero_mod, Nat.zero_add, Nat.mod_eq_of_lt (keyS_lt key)]
theorem redT_zero : Poly.redT 0 = 0 := rfl
theorem runH_zero (ms : List Nat) : Poly.runH 0 0 ms = 0 := by
  induction ms with
  | nil => rfl
  | cons m ms ih => rw [runH_cons, Nat.mul_zero, redT_zero]; exact ih
theorem clamp_zero (key : List UInt8) (h : key.take 16 = List.replicate 16 0) : keyR key = 0 := by
  have h1 : key.take 8 = List.replicate 8 0 := by
    have := congrArg (List.take 8) h
    rwa [List.take_take] at this
  have h2 : (key.drop 8).take 8 = List.replicate 8 0 := by
    have := congrArg (List.drop 8) h
    rwa [List.drop_take] at this
  unfold keyR clamp0 clamp1
  rw [h1, h2]
  rfl
/-- with a first half of noughts: the second half -/
theorem tag_zero (key l : List UInt8) (h : key.take 16 = List.replicate 16 0) (hl : key.length = 32) : tagK key l = key.drop 16 := by
  rw [← key_last key hl]
  unfold tagK tagB tagN
  rw [clamp_zero key h, runH_zero, Nat.zero_mod, Nat.zero_add, Nat.mod_eq_of_lt (keyS_lt key)]
end Go.Proofs.Ytdkhpehniciijaa
