/-
  The block of a MAC, and what it has been told.
-/
import Derived.Test.YtlafnkcmdnfcpaaUpdPlain
namespace Go.Proofs.Ytlafnkcmdnfcpaa
open Go Go.RowKit
/-- the cells of a MAC -/
def macCs (h0 h1 h2 r0 r1 s0 s1 : UInt64) (buf : List UInt8) (off : Nat) (fin : Bool) : List Value :=
  [.int .u64 (u64 h0), .int .u64 (u64 h1), .int .u64 (u64 h2), .int .u64 (u64 r0), .int .u64 (u64 r1), .int .u64 (u64 s0), .int .u64 (u64 s1)] ++ (vals8 buf ++ [.int .i64 (off : Int), .bool fin])
section
variable {h0 h1 h2 r0 r1 s0 s1 : UInt64} {buf : List UInt8} {off : Nat} {fin : Bool}
theorem macCs_length (hb : buf.length = 16) : (macCs h0 h1 h2 r0 r1 s0 s1 buf off fin).length = 25 := by
  simp [macCs, vals8_len, hb]
theorem macCs_buf (hb : buf.length = 16) (i : Nat) (hi : i < 16) : (macCs h0 h1 h2 r0 r1 s0 s1 buf off fin).toArray[7 + i]? = some (.int .u8 (u8 (buf.getD i 0))) := by
  unfold macCs
  rw [List.getElem?_toArray, List.getElem?_append_right (by simp), List.getElem?_append_left (by simp [vals8_len]; omega)]
  rw [← vals8_get (by omega)]
  congr 1
  simp
theorem macCs_off (hb : buf.length = 16) : (macCs h0 h1 h2 r0 r1 s0 s1 buf off fin).toArray[23]? = some (.int .i64 (off : Int)) := by
  unfold macCs
  rw [List.getElem?_toArray, List.getElem?_append_right (by simp), List.getElem?_append_right (by simp [vals8_len, hb])]
  simp [vals8_len, hb]
theorem macCs_fin (hb : buf.length = 16) : (macCs h0 h1 h2 r0 r1 s0 s1 buf off fin).toArray[24]? = some (.bool fin) := by
  unfold macCs
  rw [List.getElem?_toArray, List.getElem?_append_right (by simp), List.getElem?_append_right (by simp [vals8_len, hb])]
  simp [vals8_len, hb]
theorem macCs_set_off (hb : buf.length = 16) (n : Nat) : (macCs h0 h1 h2 r0 r1 s0 s1 buf off fin).toArray.setIfInBounds 23 (.int .i64 (n : Int)) = (macCs h0 h1 h2 r0 r1 s0 s1 buf n fin).toArray := by
  unfold macCs
  rw [List.setIfInBounds_toArray, List.set_append_right _ _ (by simp), List.set_append_right _ _ (by simp [vals8_len, hb])]
  simp [vals8_len, hb]
theorem macCs_set_fin (hb : buf.length = 16) (c : Bool) : (macCs h0 h1 h2 r0 r1 s0 s1 buf off fin).toArray.setIfInBounds 24 (.bool c) = (macCs h0 h1 h2 r0 r1 s0 s1 buf off c).toArray := by
  unfold macCs
  rw [List.setIfInBounds_toArray, List.set_append_right _ _ (by simp), List.set_append_right _ _ (by simp [vals8_len, hb])]
  simp [vals8_len, hb]
theorem macCs_set_h (g0 g1 g2 : UInt64) : (((macCs h0 h1 h2 r0 r1 s0 s1 buf off fin).toArray.setIfInBounds 0 (.int .u64 (u64 g0))).setIfInBounds 1 (.int .u64 (u64 g1))).setIfInBounds 2 (.int .u64 (u64 g2)) = (macCs g0 g1 g2 r0 r1 s0 s1 buf off fin).toArray := by
  simp [macCs]
theorem macCs_set_rs (a b c d : UInt64) : ((((macCs h0 h1 h2 r0 r1 s0 s1 buf off fin).toArray.setIfInBounds 3 (.int .u64 (u64 a))).setIfInBounds 4 (.int .u64 (u64 b))).setIfInBounds 5 (.int .u64 (u64 c))).setIfInBounds 6 (.int .u64 (u64 d)) = (macCs h0 h1 h2 a b c d buf off fin).toArray := by
  simp [macCs]
theorem macCs_splice (hb : buf.length = 16) (k : Nat) (l : List UInt8) (hk : k + l.length ≤ 16) : splice (macCs h0 h1 h2 r0 r1 s0 s1 buf off fin) (7 + k) (vals8 l) = macCs h0 h1 h2 r0 r1 s0 s1 (splice buf k l) off fin := by
  unfold macCs splice
  rw [vals8_append, vals8_append]
  have e1 : vals8 (buf.take k) = (vals8 buf).take k := by simp [vals8]
  have e2 : vals8 (buf.drop (k + l.length)) = (vals8 buf).drop (k + l.length) := by simp [vals8]
  rw [e1, e2, vals8_len]
  generalize hA : [Value.int .u64 (u64 h0), .int .u64 (u64 h1), .int .u64 (u64 h2), .int .u64 (u64 r0), .int .u64 (u64 r1), .int .u64 (u64 s0), .int .u64 (u64 s1)] = A
  have hAl : A.length = 7 := by subst hA; rfl
  rw [List.take_append, List.drop_append, List.take_of_length_le (by omega), List.drop_eq_nil_of_le (show A.length ≤ 7 + k + l.length by omega), hAl]
  have e3 : 7 + k - 7 = k := by omega
  have e4 : 7 + k + l.length - 7 = k + l.length := by omega
  rw [e3, e4, List.take_append_of_le_length (by rw [vals8_len]; omega), List.drop_append_of_le_length (by rw [vals8_len]; omega)]
  simp
end
/-- a MAC in block b that has been told the bytes l -/
def Mac (T : TypeId) (r0 r1 s0 s1 : UInt64) (w : World) (b : Nat) (l : List UInt8) (fin : Bool) : Prop :=
  ∃ (h0 h1 h2 : UInt64) (buf : List UInt8), buf.length = 16 ∧ h2.toNat ≤ 5 ∧ w.heap[b]? = some (.cells (macCs h0 h1 h2 r0 r1 s0 s1 buf (l.length % 16) fin).toArray T (0, 0)) ∧
    buf.take (l.length % 16) = l.drop (l.length / 16 * 16) ∧
    Poly.val3 h0.toNat h1.toNat h2.toNat = Poly.runH (r0.toNat + r1.toNat * 18446744073709551616) 0 (chunks (l.take (l.length / 16 * 16)))
theorem Mac.keeps {S : Nat → Prop} {T : TypeId} {r0 r1 s0 s1 : UInt64} {w w' : World} {b : Nat} {l : List UInt8} {fin : Bool} (h : Mac T r0 r1 s0 s1 w b l fin) (hk : Keeps S w w') (hs : ¬ S b) : Mac T r0 r1 s0 s1 w' b l fin := by
  obtain ⟨h0, h1, h2, buf, a, c, d, e, f⟩ := h
  exact ⟨h0, h1, h2, buf, a, c, hk.at d hs, e, f⟩
theorem Mac.lt {T : TypeId} {r0 r1 s0 s1 : UInt64} {w : World} {b : Nat} {l : List UInt8} {fin : Bool} (h : Mac T r0 r1 s0 s1 w b l fin) : b < w.heap.size := by
  obtain ⟨h0, h1, h2, buf, a, c, d, e, f⟩ := h
  exact lt_of_block d
/-- the authenticator of l -/
def tagH (r0 r1 : UInt64) (l : List UInt8) : Nat := Poly.runH (r0.toNat + r1.toNat * 18446744073709551616) 0 (chunks l)
end Go.Proofs.Ytlafnkcmdnfcpaa
