/-
  The bulk of what came in.
-/
import Derived.Test.YtaapglpnofmmlaaArgs
import Derived.Test.YtaapglpnofmmlaaLie
import Derived.Deep.SlicePairs
namespace Go.Proofs.Ytaapglpnofmmlaa
open Go Go.RowKit Go.ChangeShapes Go.WideShapes Go.ChangeAt
theorem bulk_one {H : Type} (d : DataW H) : 1 ≤ Rows.uptoBulk d := by
  cases d with
  | lit l => cases l <;> simp [Rows.uptoBulk]
  | nil => simp [Rows.uptoBulk]
  | ptr d => simp [Rows.uptoBulk]
  | slice elems spare => simp [Rows.uptoBulk]
  | agg parts => simp [Rows.uptoBulk]
  | iface t d => simp [Rows.uptoBulk]
  | map entries => simp [Rows.uptoBulk]
  | held h => simp [Rows.uptoBulk]
theorem bulk_len {H : Type} (l : List (DataW H)) : l.length ≤ Rows.uptoBulkAll l := by
  induction l with
  | nil => simp [Rows.uptoBulkAll]
  | cons x r ih => have := bulk_one x; simp only [Rows.uptoBulkAll, List.length_cons]; omega
/-- bytes that came in: their bulk -/
theorem open_bytes_bulk {H : Type} {enc : TypeId × Value → H} {W : World} {base : Nat} {held : Bool} {v : Value} {d : DataW H} {p : List MemPlace} {fuel : Nat}
    (h : DataW.trod enc Try.prog W base (fun _ => true) held fuel 22 [v] = some (d, p)) : ∃ l : List UInt8, SlB W v l ∧ l.length + 1 ≤ Rows.uptoBulk d := by
  have hv : ∃ a n c, v = .slice a n c := by
    rcases DataW.trod_slice Try.underlying22 h with ⟨e, -⟩ | ⟨a, len, cap, _, _, _, _, e, _⟩
    · simp at e; exact ⟨_, _, _, e⟩
    · simp at e; exact ⟨_, _, _, e⟩
  obtain ⟨a, n, c, rfl⟩ := hv
  obtain ⟨l, hs, hl, hb⟩ := open_bytes (W := W) (base := base) (held := held) (a := a) (n := n) (c := c) (d := d) (p := p) (enc := enc) ⟨fuel, h⟩
  refine ⟨l, hs, ?_⟩
  rcases hb with ⟨h0, -⟩ | ⟨elems, spare, rfl, hc, hn⟩
  · have := bulk_one d; omega
  · have h1 := bulk_len elems
    have h2 := bulk_len spare
    simp only [Rows.uptoBulk]
    omega
end Go.Proofs.Ytaapglpnofmmlaa
