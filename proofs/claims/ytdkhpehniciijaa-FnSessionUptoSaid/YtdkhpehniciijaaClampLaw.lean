/-
  Plain: clamping bytes is clamping words; what is clamped twice is clamped once.
-/
import Derived.Test.YtdkhpehniciijaaClamped
import Derived.Test.YtdkhpehniciijaaTagLaws
namespace Go.Proofs.Ytdkhpehniciijaa
open Go
theorem and_split (x y : Nat) : x &&& y = (x % 256 &&& y % 256) + 256 * (x / 256 &&& y / 256) := by
  have h1 : (x &&& y) % 2 ^ 8 = x % 2 ^ 8 &&& y % 2 ^ 8 := Nat.and_mod_two_pow
  have h2 : (x &&& y) / 2 ^ 8 = x / 2 ^ 8 &&& y / 2 ^ 8 := Nat.and_div_two_pow
  have h3 : (2 : Nat) ^ 8 = 256 := rfl
  rw [h3] at h1 h2
  rw [← h1, ← h2]
  omega
theorem val_and : ∀ (a b : List Nat), a.length = b.length → Dig.Small a → Dig.Small b → Dig.val a &&& Dig.val b = Dig.val (List.zipWith (· &&& ·) a b) := by
  intro a
  induction a with
  | nil =>
    intro b h _ _
    cases b with
    | nil => rfl
    | cons y b => cases h
  | cons x a ih =>
    intro b h ha hb
    cases b with
    | nil => cases h
    | cons y b =>
      have hx : x < 256 := ha x (by simp)
      have hy : y < 256 := hb y (by simp)
      simp only [Dig.val, List.zipWith_cons_cons]
      rw [and_split, ← ih b (by simpa using h) (fun d hd => ha d (by simp [hd])) (fun d hd => hb d (by simp [hd]))]
      have e1 : (x + 256 * Dig.val a) % 256 = x := by omega
      have e2 : (y + 256 * Dig.val b) % 256 = y := by omega
      have e3 : (x + 256 * Dig.val a) / 256 = Dig.val a := by omega
      have e4 : (y + 256 * Dig.val b) / 256 = Dig.val b := by omega
      rw [e1, e2, e3, e4]
theorem small_bytes (l : List UInt8) : Dig.Small (l.map UInt8.toNat) := by
  intro d hd
  obtain ⟨x, -, rfl⟩ := List.mem_map.1 hd
  exact x.toNat_lt
theorem w64_and (l m : List UInt8) (hl : l.length = 8) (hm : m.length = 8) : w64 l &&& w64 m = w64 (List.zipWith (· &&& ·) l m) := by
  apply UInt64.toNat_inj.1
  rw [UInt64.toNat_and, w64_val l hl, w64_val m hm, w64_val _ (by simp [hl, hm]), val_and _ _ (by simp [hl, hm]) (small_bytes l) (small_bytes m)]
  congr 1
  rw [List.map_zipWith, List.zipWith_map]
  congr 1
theorem and255 (a : UInt8) : a &&& 255 = a := by
  apply UInt8.toNat_inj.1
  rw [UInt8.toNat_and]
  show a.toNat &&& 2 ^ 8 - 1 = a.toNat
  rw [Nat.and_two_pow_sub_one_eq_mod]
  exact Nat.mod_eq_of_lt a.toNat_lt
theorem clamp_words (l : List UInt8) (h : l.length = 16) : w64 ((clampL l).take 8) = w64 (l.take 8) &&& 1152921487695413247 ∧ w64 ((clampL l).drop 8) = w64 (l.drop 8) &&& 1152921487695413244 := by
  match l, h with
  | [a0, a1, a2, a3, a4, a5, a6, a7, b0, b1, b2, b3, b4, b5, b6, b7], _ =>
    have h1 : (1152921487695413247 : UInt64) = w64 [255, 255, 255, 15, 252, 255, 255, 15] := by decide
    have h2 : (1152921487695413244 : UInt64) = w64 [252, 255, 255, 15, 252, 255, 255, 15] := by decide
    rw [h1, h2, w64_and _ _ rfl rfl, w64_and _ _ rfl rfl]
    have e1 : (clampL [a0, a1, a2, a3, a4, a5, a6, a7, b0, b1, b2, b3, b4, b5, b6, b7]).take 8 = [a0, a1, a2, a3 &&& 15, a4 &&& 252, a5, a6, a7 &&& 15] := rfl
    have e2 : (clampL [a0, a1, a2, a3, a4, a5, a6, a7, b0, b1, b2, b3, b4, b5, b6, b7]).drop 8 = [b0 &&& 252, b1, b2, b3 &&& 15, b4 &&& 252, b5, b6, b7 &&& 15] := rfl
    rw [e1, e2]
    simp only [List.take_succ_cons, List.take_zero, List.drop_succ_cons, List.drop_zero, List.zipWith_cons_cons, List.zipWith_nil_left, and255]
    exact ⟨trivial, trivial⟩
/-- the clamped half as a number -/
theorem clamp_val (key : List UInt8) (h : key.length = 32) : Dig.val ((clampL (key.take 16)).map UInt8.toNat) = keyR key := by
  have hl : (key.take 16).length = 16 := by simp; omega
  obtain ⟨c1, c2⟩ := clamp_words (key.take 16) hl
  have e1 : (key.take 16).take 8 = key.take 8 := by rw [List.take_take]; rfl
  have e2 : (key.take 16).drop 8 = (key.drop 8).take 8 := by rw [List.drop_take]
  have hc : (clampL (key.take 16)).length = 16 := by rw [clampL_len, hl]
  have e3 : ((clampL (key.take 16)).drop 8).take 8 = (clampL (key.take 16)).drop 8 := List.take_of_length_le (by simp; omega)
  rw [← val16 _ hc, e3, c1, c2, e1, e2]
  rfl
theorem and_idem (x m : UInt64) : x &&& m &&& m = x &&& m := by
  apply UInt64.toNat_inj.1
  rw [UInt64.toNat_and, UInt64.toNat_and, Nat.and_assoc, Nat.and_self]
/-- THE LAW: a clamped key has the same authenticators -/
theorem tag_clamp (key l : List UInt8) (h : key.length = 32) : tagK (clampL (key.take 16) ++ key.drop 16) l = tagK key l := by
  have hl : (key.take 16).length = 16 := by simp; omega
  have hc : (clampL (key.take 16)).length = 16 := by rw [clampL_len, hl]
  obtain ⟨c1, c2⟩ := clamp_words (key.take 16) hl
  have e1 : (key.take 16).take 8 = key.take 8 := by rw [List.take_take]; rfl
  have e2 : (key.take 16).drop 8 = (key.drop 8).take 8 := by rw [List.drop_take]
  have t1 : (clampL (key.take 16) ++ key.drop 16).take 8 = (clampL (key.take 16)).take 8 := List.take_append_of_le_length (by omega)
  have t2 : ((clampL (key.take 16) ++ key.drop 16).drop 8).take 8 = (clampL (key.take 16)).drop 8 := by
    rw [List.drop_append_of_le_length (by omega), List.take_append_of_le_length (by simp; omega), List.take_of_length_le (by simp; omega)]
  have t3 : (clampL (key.take 16) ++ key.drop 16).drop 16 = key.drop 16 := by
    rw [List.drop_append_of_le_length (by omega), List.drop_eq_nil_of_le (by omega), List.nil_append]
  have t4 : (clampL (key.take 16) ++ key.drop 16).drop 24 = key.drop 24 := by
    have : (clampL (key.take 16) ++ key.drop 16).drop 24 = ((clampL (key.take 16) ++ key.drop 16).drop 16).drop 8 := by rw [List.drop_drop]
    rw [this, t3, List.drop_drop]
  have hR : keyR (clampL (key.take 16) ++ key.drop 16) = keyR key := by
    unfold keyR clamp0 clamp1
    rw [t1, t2, c1, c2, e1, e2, and_idem, and_idem]
  have hS : keyS (clampL (key.take 16) ++ key.drop 16) = keyS key := by
    unfold keyS key2 key3
    rw [t3, t4]
  unfold tagK
  rw [hR, hS]
end Go.Proofs.Ytdkhpehniciijaa
