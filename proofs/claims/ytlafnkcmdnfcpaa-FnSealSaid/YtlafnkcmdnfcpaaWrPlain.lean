/-
  Plain: what Write makes of a MAC's state.
-/
import Derived.Test.YtlafnkcmdnfcpaaMacSt
namespace Go.Proofs.Ytlafnkcmdnfcpaa
open Go Go.RowKit
theorem take_app_le {α : Type} (a b : List α) (k : Nat) (h : k ≤ a.length) : (a ++ b).take k = a.take k := List.take_append_of_le_length h
theorem drop_app_le {α : Type} (a b : List α) (k : Nat) (h : k ≤ a.length) : (a ++ b).drop k = a.drop k ++ b := List.drop_append_of_le_length h
theorem splice_take {buf m : List UInt8} {k : Nat} (hb : buf.length = 16) (h : k + m.length ≤ 16) : (splice buf k m).take (k + m.length) = buf.take k ++ m := by
  unfold splice
  rw [← List.append_assoc, List.take_append_of_le_length (by simp; omega), List.take_of_length_le (by simp; omega)]
section
variable {T : TypeId} {r0 r1 s0 s1 : UInt64} {b : Nat} {fin : Bool}
/-- a MAC told a piece that stays in its buffer -/
theorem Mac.kept {w' : World} {l m buf : List UInt8} {h0 h1 h2 : UInt64} (hb : buf.length = 16) (hh : h2.toNat ≤ 5) (hm : l.length % 16 + m.length < 16)
    (hw : w'.heap[b]? = some (.cells (macCs h0 h1 h2 r0 r1 s0 s1 (splice buf (l.length % 16) m) (l.length % 16 + m.length) fin).toArray T (0, 0)))
    (hbuf : buf.take (l.length % 16) = l.drop (l.length / 16 * 16)) (hv : Poly.val3 h0.toNat h1.toNat h2.toNat = Poly.runH (r0.toNat + r1.toNat * 18446744073709551616) 0 (chunks (l.take (l.length / 16 * 16)))) :
    Mac T r0 r1 s0 s1 w' b (l ++ m) fin := by
  have e1 : (l ++ m).length % 16 = l.length % 16 + m.length := by rw [List.length_append]; omega
  have e2 : (l ++ m).length / 16 * 16 = l.length / 16 * 16 := by rw [List.length_append]; omega
  refine ⟨h0, h1, h2, splice buf (l.length % 16) m, by rw [length_splice _ _ _ (by omega)]; exact hb, hh, by rw [e1]; exact hw, ?_, ?_⟩
  · rw [e1, e2, splice_take hb (by omega), hbuf, drop_app_le _ _ _ (by omega)]
  · rw [e2, take_app_le _ _ _ (by omega)]; exact hv
/-- a MAC told what fills its buffer -/
theorem Mac.filled {w' : World} {l m buf : List UInt8} {h0 h1 h2 g0 g1 g2 : UInt64} (hb : buf.length = 16) (hh : g2.toNat ≤ 5) (hm : l.length % 16 + m.length = 16)
    (hw : w'.heap[b]? = some (.cells (macCs g0 g1 g2 r0 r1 s0 s1 (splice buf (l.length % 16) m) 0 fin).toArray T (0, 0)))
    (hbuf : buf.take (l.length % 16) = l.drop (l.length / 16 * 16)) (hv : Poly.val3 h0.toNat h1.toNat h2.toNat = Poly.runH (r0.toNat + r1.toNat * 18446744073709551616) 0 (chunks (l.take (l.length / 16 * 16))))
    (hg : Poly.val3 g0.toNat g1.toNat g2.toNat = Poly.runH (r0.toNat + r1.toNat * 18446744073709551616) (Poly.val3 h0.toNat h1.toNat h2.toNat) (chunks (splice buf (l.length % 16) m))) :
    Mac T r0 r1 s0 s1 w' b (l ++ m) fin := by
  have e0 : (l ++ m).length = l.length / 16 * 16 + 16 := by rw [List.length_append]; omega
  have e1 : (l ++ m).length % 16 = 0 := by omega
  have e2 : (l ++ m).length / 16 * 16 = (l ++ m).length := by omega
  have hsp : splice buf (l.length % 16) m = l.drop (l.length / 16 * 16) ++ m := by
    have h1 := splice_take (buf := buf) (m := m) (k := l.length % 16) hb (by omega)
    rw [List.take_of_length_le (by rw [length_splice _ _ _ (by omega)]; omega)] at h1
    rw [h1, hbuf]
  refine ⟨g0, g1, g2, splice buf (l.length % 16) m, by rw [length_splice _ _ _ (by omega)]; exact hb, hh, by rw [e1]; exact hw, ?_, ?_⟩
  · rw [e1, e2, List.take_zero, List.drop_eq_nil_of_le (Nat.le_refl _)]
  · rw [hg, hv, ← Poly.runH_append, e2, List.take_of_length_le (Nat.le_refl _), hsp]
    congr 1
    rw [← chunks_append (l.length / 16) _ _ (by rw [List.length_take]; omega), ← List.append_assoc, List.take_append_drop]
/-- a MAC with an empty buffer told whole blocks -/
theorem Mac.whole {w' : World} {l m buf : List UInt8} {h0 h1 h2 g0 g1 g2 : UInt64} (hb : buf.length = 16) (hh : g2.toNat ≤ 5) (hl : l.length % 16 = 0) (hm : m.length % 16 = 0)
    (hw : w'.heap[b]? = some (.cells (macCs g0 g1 g2 r0 r1 s0 s1 buf 0 fin).toArray T (0, 0)))
    (hv : Poly.val3 h0.toNat h1.toNat h2.toNat = Poly.runH (r0.toNat + r1.toNat * 18446744073709551616) 0 (chunks (l.take (l.length / 16 * 16))))
    (hg : Poly.val3 g0.toNat g1.toNat g2.toNat = Poly.runH (r0.toNat + r1.toNat * 18446744073709551616) (Poly.val3 h0.toNat h1.toNat h2.toNat) (chunks m)) :
    Mac T r0 r1 s0 s1 w' b (l ++ m) fin := by
  have e0 : (l ++ m).length % 16 = 0 := by rw [List.length_append]; omega
  have e2 : (l ++ m).length / 16 * 16 = (l ++ m).length := by omega
  have e3 : l.length / 16 * 16 = l.length := by omega
  refine ⟨g0, g1, g2, buf, hb, hh, by rw [e0]; exact hw, ?_, ?_⟩
  · rw [e0, e2, List.take_zero, List.drop_eq_nil_of_le (Nat.le_refl _)]
  · rw [hg, hv, ← Poly.runH_append, e2, e3, List.take_of_length_le (Nat.le_refl _), List.take_of_length_le (Nat.le_refl _), chunks_append (l.length / 16) _ _ (by omega)]
end
/-- in the midst of Write: l1 is told, m1 is still to be told, and nothing lies in the buffer -/
def MidW (T : TypeId) (r0 r1 s0 s1 : UInt64) (b : Nat) (fin : Bool) (w0 : World) (tot : List UInt8) (P : List UInt8 → Prop) (v1 : Value) (wx : World) : Prop :=
  ∃ l1 m1 : List UInt8, l1.length % 16 = 0 ∧ l1 ++ m1 = tot ∧ P m1 ∧ Mac T r0 r1 s0 s1 wx b l1 fin ∧ SlB wx v1 m1 ∧ (0 < m1.length → v1.ownBlock ≠ some b) ∧ Keeps (fun q => q = b) w0 wx
theorem SlB.shape {w : World} {v : Value} {l : List UInt8} (h : SlB w v l) : ∃ p c, v = .slice p l.length c := by
  rcases h with ⟨rfl, rfl⟩ | ⟨ad, c, rfl, -⟩
  · exact ⟨_, _, rfl⟩
  · exact ⟨_, _, rfl⟩
end Go.Proofs.Ytlafnkcmdnfcpaa
