/-
  Plain: the blocks of a message as numbers, and words of eight bytes against digits.
-/
import Derived.Test.YtlafnkcmdnfcpaaMulRed
import Derived.Test.YtlafnkcmdnfcpaaLe64
namespace Go.Proofs.Ytlafnkcmdnfcpaa
open Go
/-- a block of a message as a number -/
def blk (l : List UInt8) : Nat := Dig.val (l.map UInt8.toNat ++ [1])
def chunksF : Nat → List UInt8 → List Nat
  | 0, _ => []
  | f + 1, l => if l = [] then [] else blk (l.take 16) :: chunksF f (l.drop 16)
/-- the blocks of a message -/
def chunks (l : List UInt8) : List Nat := chunksF l.length l
theorem chunksF_enough : ∀ (f g : Nat) (l : List UInt8), l.length ≤ f → l.length ≤ g → chunksF f l = chunksF g l := by
  intro f
  induction f with
  | zero =>
    intro g l h _
    have : l = [] := List.eq_nil_of_length_eq_zero (by omega)
    subst this
    cases g <;> simp [chunksF]
  | succ f ih =>
    intro g l h h'
    by_cases h0 : l = []
    · subst h0; cases g <;> simp [chunksF]
    · have hp : 0 < l.length := List.length_pos_iff.2 h0
      cases g with
      | zero => omega
      | succ g =>
        simp only [chunksF, if_neg h0]
        rw [ih g (l.drop 16) (by simp; omega) (by simp; omega)]
theorem chunks_nil : chunks [] = [] := rfl
theorem chunks_cons (l : List UInt8) (h : 0 < l.length) : chunks l = blk (l.take 16) :: chunks (l.drop 16) := by
  have h0 : l ≠ [] := List.length_pos_iff.1 h
  unfold chunks
  obtain ⟨n, hn⟩ : ∃ n, l.length = n + 1 := ⟨l.length - 1, by omega⟩
  conv => lhs; rw [hn]
  simp only [chunksF, if_neg h0]
  rw [chunksF_enough n (l.drop 16).length (l.drop 16) (by simp; omega) (Nat.le_refl _)]
theorem chunks_short (l : List UInt8) (h : 0 < l.length) (h' : l.length ≤ 16) : chunks l = [blk l] := by
  rw [chunks_cons l h, List.take_of_length_le h', List.drop_eq_nil_of_le h', chunks_nil]
theorem chunks_append : ∀ (k : Nat) (a b : List UInt8), a.length = 16 * k → chunks (a ++ b) = chunks a ++ chunks b := by
  intro k
  induction k with
  | zero =>
    intro a b h
    have : a = [] := List.eq_nil_of_length_eq_zero (by omega)
    subst this; rfl
  | succ k ih =>
    intro a b h
    rw [chunks_cons (a ++ b) (by simp; omega), chunks_cons a (by omega), List.take_append_of_le_length (by omega), List.drop_append_of_le_length (by omega), ih (a.drop 16) b (by simp; omega)]
    rfl
theorem w64_val (l : List UInt8) (h : l.length = 8) : (w64 l).toNat = Dig.val (l.map UInt8.toNat) := by
  match l, h with
  | [a, b, c, d, e, f, g, i], _ =>
    show (le64 a b c d e f g i).toNat = _
    rw [le64_toNat]
    simp only [List.map, Dig.val]
    omega
theorem val16 (l : List UInt8) (h : l.length = 16) : (w64 (l.take 8)).toNat + (w64 ((l.drop 8).take 8)).toNat * 18446744073709551616 = Dig.val (l.map UInt8.toNat) := by
  have e8 : (l.drop 8).take 8 = l.drop 8 := List.take_of_length_le (by simp; omega)
  rw [e8, w64_val (l.take 8) (by simp; omega), w64_val (l.drop 8) (by simp; omega)]
  conv => rhs; rw [← List.take_append_drop 8 l, List.map_append, Dig.val_append]
  rw [List.length_map, List.length_take, show min 8 l.length = 8 from by omega]
  omega
theorem blk_full (l : List UInt8) (h : l.length = 16) : blk l = (w64 (l.take 8)).toNat + (w64 ((l.drop 8).take 8)).toNat * 18446744073709551616 + 340282366920938463463374607431768211456 := by
  rw [val16 l h]
  unfold blk
  rw [Dig.val_append, List.length_map, h]
  simp only [Dig.val]
theorem blk_take (l : List UInt8) (h : 16 ≤ l.length) : blk (l.take 16) = (w64 (l.take 8)).toNat + (w64 ((l.drop 8).take 8)).toNat * 18446744073709551616 + 340282366920938463463374607431768211456 := by
  rw [blk_full _ (by simp; omega), List.take_take, List.drop_take, List.take_take]
  simp
theorem val_zeros (n : Nat) : Dig.val ((List.replicate n (0 : UInt8)).map UInt8.toNat) = 0 := by
  induction n with
  | zero => rfl
  | succ n ih => simp only [List.replicate_succ, List.map_cons, Dig.val, ih]; rfl
/-- a last block in its buffer -/
def padded (l : List UInt8) : List UInt8 := l ++ (1 :: List.replicate (15 - l.length) 0)
theorem padded_length (l : List UInt8) (h : l.length < 16) : (padded l).length = 16 := by simp [padded]; omega
theorem mblk_part (l : List UInt8) (h : l.length < 16) : blk l = (w64 ((padded l).take 8)).toNat + (w64 (((padded l).drop 8).take 8)).toNat * 18446744073709551616 := by
  rw [val16 _ (padded_length l h)]
  unfold padded blk
  rw [List.map_append, Dig.val_append, Dig.val_append]
  simp only [List.map_cons, Dig.val, val_zeros]
  rfl
theorem addL (x0 x1 x2 m0 m1 : UInt64) (b : Bool) (h : x2.toNat ≤ 5) (y0 y1 y2 : UInt64) (e0 : y0 = adW x0 m0 false) (e1 : y1 = adW x1 m1 (adB x0 m0 false)) (e2 : y2 = x2 + (bW (adB x1 m1 (adB x0 m0 false)) + bW b)) :
    Poly.val3 y0.toNat y1.toNat y2.toNat = Poly.val3 x0.toNat x1.toNat x2.toNat + (m0.toNat + m1.toNat * 18446744073709551616 + b.toNat * 340282366920938463463374607431768211456) ∧ y2.toNat ≤ 7 := by
  have h1 := toNat_le1 (adB x1 m1 (adB x0 m0 false))
  have h2 := toNat_le1 b
  have hy2 : y2.toNat = x2.toNat + ((adB x1 m1 (adB x0 m0 false)).toNat + b.toNat) := by
    rw [e2, UInt64.toNat_add, UInt64.toNat_add, bW_toNat, bW_toNat]
    omega
  have := Poly.add_ok x0.toNat x1.toNat x2.toNat m0.toNat m1.toNat b.toNat h x0.toNat_lt x1.toNat_lt m0.toNat_lt m1.toNat_lt h2
  rw [hy2, e0, e1]
  simp only [adW_adS, adB_adC, Bool.toNat_false]
  exact this
end Go.Proofs.Ytlafnkcmdnfcpaa
