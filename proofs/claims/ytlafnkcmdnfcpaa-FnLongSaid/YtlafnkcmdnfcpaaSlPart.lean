/-
  Parts of arrays of bytes, as slices.
-/
import Derived.Test.YtlafnkcmdnfcpaaMem
namespace Go.Proofs.Ytlafnkcmdnfcpaa
open Go Go.RowKit
theorem SlB.at32 {w : World} {b k : Nat} {T : TypeId} {l : List UInt8} (h : w.heap[b]? = some (.cells (cells8 l) T (0, 0))) (hk : k ≤ l.length) (hl : l.length ≤ maxLen) : SlB w (.slice (some ⟨b, k, none⟩) (l.length - k) (l.length - k)) (l.drop k) := by
  have e : (l.drop k).length = l.length - k := List.length_drop
  have := SlB.of (w := w) (b := b) (o := k) (c := l.length - k) (l := l.drop k) (by omega) (by omega) (fun i hi => by
    rw [cell_block h, cells8_get (by omega)]
    simp [List.getD, List.getElem?_drop])
  rwa [e] at this
theorem SlB.pre {w : World} {b k : Nat} {T : TypeId} {l : List UInt8} (h : w.heap[b]? = some (.cells (cells8 l) T (0, 0))) (hk : k ≤ l.length) (hl : l.length ≤ maxLen) : SlB w (.slice (some ⟨b, 0, none⟩) k l.length) (l.take k) := by
  have e : (l.take k).length = k := by rw [List.length_take]; omega
  have := SlB.of (w := w) (b := b) (o := 0) (c := l.length) (l := l.take k) (by omega) hl (fun i hi => by
    rw [Nat.zero_add, cell_block h, cells8_get (by omega)]
    simp [List.getD, show i < k by omega])
  rwa [e] at this
end Go.Proofs.Ytlafnkcmdnfcpaa
