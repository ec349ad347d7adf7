/-
  Arguments that came in: slices of calls, slices of slices of bytes; their bulk.
-/
import Derived.Test.YtdkhpehniciijaaSessP
import Derived.Test.YtdkhpehniciijaaArgs
import Derived.Deep.SlicePairs
namespace Go.Proofs.Ytdkhpehniciijaa
open Go Go.RowKit Go.ChangeShapes Go.WideShapes Go.ChangeAt
theorem bulk_one {H : Type} (d : DataW H) : 1 ≤ Rows.uptoBulk d := by
  cases d with
  | lit l => cases l <;> simp [Rows.uptoBulk]
  | nil => simp [Rows.uptoBulk]
  | ptr d => simp [Rows.uptoBulk]
  | slice elems spare => simp [Rows.uptoBulk]
  | agg parts => simp [Rows.uptoBulk]
  | iface t d => simp [Rows.uptoBulk]
  | map entries => simp [Rows.uptoBulk]
  | held h => simp [Rows.uptoBulk]
theorem bulk_len {H : Type} (l : List (DataW H)) : l.length ≤ Rows.uptoBulkAll l := by
  induction l with
  | nil => simp [Rows.uptoBulkAll]
  | cons x r ih => have := bulk_one x; simp only [Rows.uptoBulkAll, List.length_cons]; omega
/-- bytes that came in: their bulk -/
theorem open_bytes_bulk {H : Type} {enc : TypeId × Value → H} {W : World} {base : Nat} {held : Bool} {v : Value} {d : DataW H} {p : List MemPlace} {fuel : Nat}
    (h : DataW.trod enc Try.prog W base (fun _ => true) held fuel 23 [v] = some (d, p)) : ∃ l : List UInt8, SlB W v l ∧ l.length + 1 ≤ Rows.uptoBulk d := by
  have hv : ∃ a n c, v = .slice a n c := by
    rcases DataW.trod_slice Try.underlying23 h with ⟨e, -⟩ | ⟨a, len, cap, _, _, _, _, e, _⟩
    · simp at e; exact ⟨_, _, _, e⟩
    · simp at e; exact ⟨_, _, _, e⟩
  obtain ⟨a, n, c, rfl⟩ := hv
  obtain ⟨l, hs, hl, hb⟩ := open_bytes (W := W) (base := base) (held := held) (a := a) (n := n) (c := c) (d := d) (p := p) (enc := enc) ⟨fuel, h⟩
  refine ⟨l, hs, ?_⟩
  rcases hb with ⟨h0, -⟩ | ⟨elems, spare, rfl, hc, hn⟩
  · have := bulk_one d; omega
  · have h1 := bulk_len elems
    have h2 := bulk_len spare
    simp only [Rows.uptoBulk]
    omega
def totalL : List Cl → Nat
  | [] => 0
  | c :: cs => c.bytes.length + totalL cs
theorem totalL_range {H : Type} (g : Nat → Cl) (D : Nat → DataW H) : ∀ (n k : Nat), (∀ i, i < k + n → (g i).bytes.length + 1 ≤ Rows.uptoBulk (D i)) →
    totalL (((List.range' k n).map g)) + n ≤ Rows.uptoBulkAll ((List.range' k n).map D) := by
  intro n
  induction n with
  | zero => intro k _; simp [totalL, Rows.uptoBulkAll]
  | succ n ih =>
    intro k h
    rw [List.range'_succ, List.map_cons, List.map_cons]
    simp only [totalL, Rows.uptoBulkAll]
    have h1 := h k (by omega)
    have h2 := ih (k + 1) (fun i hi => h i (by omega))
    omega
theorem callCells_at {qs : List (Value × Cl)} {w : World} {ad : Addr} (h : ∀ i (q : Value × Cl), qs[i]? = some q → w.cell? (ad.add (i * 2)) = some (.int .i64 q.2.kind) ∧ w.cell? (ad.add (i * 2 + 1)) = some q.1) : Lie w ad (callCells qs) := by
  intro j u hu
  have hj : j < qs.length * 2 := by rw [← callCells_len]; exact (List.getElem?_eq_some_iff.1 hu).1
  have hi : j / 2 < qs.length := by omega
  obtain ⟨h1, h2⟩ := h (j / 2) _ (List.getElem?_eq_getElem hi)
  obtain ⟨g1, g2⟩ := callCells_get qs (j / 2) _ (List.getElem?_eq_getElem hi)
  rcases Nat.mod_two_eq_zero_or_one j with hm | hm
  · have e : 2 * (j / 2) = j := by omega
    rw [e] at g1
    rw [g1] at hu
    rw [← hu, ← h1]
    congr 2
    omega
  · have e : 2 * (j / 2) + 1 = j := by omega
    rw [e] at g2
    rw [g2] at hu
    rw [← hu, ← h2]
    congr 2
    omega
/-- a slice of calls that came in -/
theorem open_calls {H : Type} {enc : TypeId × Value → H} {W : World} {base : Nat} {held : Bool} {a : Option Addr} {n c : Nat} {d : DataW H} {p : List MemPlace}
    (h : DataW.Trod enc Try.prog W base (fun _ => true) held 42 (.slice a n c) d p) :
    ∃ qs : List (Value × Cl), CallsL W (.slice a n c) qs ∧ totalL (qs.map (·.2)) + qs.length ≤ Rows.uptoBulk d := by
  obtain ⟨fuel, hf⟩ := h
  rcases Deep.open_slice_pairs Try.underlying42 Try.underlying38 (by kernel_rfl) rfl rfl (by kernel_rfl) (by kernel_rfl) hf with ⟨hcs, hx⟩ | ⟨ad, len, cap, m, k, V0, V1, D0, D1, P0, P1, hcs, hb, hl, hm, hmm, hx, hc⟩
  · simp [Value.cells] at hcs
    obtain ⟨rfl, rfl, rfl⟩ := hcs
    exact ⟨[], ⟨Or.inl ⟨rfl, rfl⟩, fun _ h => by cases h⟩, by simp [totalL]⟩
  · simp [Value.cells] at hcs
    obtain ⟨rfl, rfl, rfl⟩ := hcs
    simp only [if_true] at hmm
    subst hmm
    have each : ∀ i, i < m → ∃ q : Value × Cl, V1 i = q.1 ∧ V0 i = .int .i64 q.2.kind ∧ SlB W q.1 q.2.bytes ∧ q.2.bytes.length + 1 ≤ Rows.uptoBulk (D1 i) := by
      intro i hi
      obtain ⟨-, -, t0, t1⟩ := hc i hi
      obtain ⟨z, e0, -, -⟩ := DataW.trod_int (Try.underlying3) t0
      simp only [List.cons.injEq, and_true] at e0
      obtain ⟨l, hs, hbk⟩ := open_bytes_bulk t1
      exact ⟨⟨V1 i, ⟨z, l⟩⟩, rfl, e0, hs, hbk⟩
    haveI : Inhabited (Value × Cl) := ⟨(.slice none 0 0, ⟨0, []⟩)⟩
    obtain ⟨g, hg⟩ := Deep.choose_lt each
    have hq : ∀ i, i < n → ((List.range n).map g)[i]? = some (g i) := fun i hi => by simp [hi]
    refine ⟨(List.range n).map g, ⟨Or.inr ⟨ad, m, by simp, by simpa using hl, hm, ?_⟩, ?_⟩, ?_⟩
    · refine callCells_at (fun i q hiq => ?_)
      have hi : i < n := by have := (List.getElem?_eq_some_iff.1 hiq).1; simpa using this
      rw [hq i hi] at hiq
      cases hiq
      obtain ⟨c0, c1, -, -⟩ := hc i (by omega)
      obtain ⟨e1, e0, -, -⟩ := hg i (by omega)
      rw [c0, c1, e0, e1]
      exact ⟨rfl, rfl⟩
    · intro q hqm
      obtain ⟨i, hi, rfl⟩ := List.mem_map.1 hqm
      have hi := List.mem_range.1 hi
      exact (hg i (by omega)).2.2.1
    · simp only [Prod.mk.injEq] at hx
      rw [hx.1]
      have h1 := totalL_range (fun i => (g i).2) (fun i => DataW.agg [D0 i, D1 i]) n 0 (fun i hi => by
        have := (hg i (by omega)).2.2.2
        simp only [Rows.uptoBulk, Rows.uptoBulkAll]
        omega)
      rw [← List.range_eq_range'] at h1
      simp only [Rows.uptoBulk]
      rw [List.map_map, List.length_map, List.length_range]
      have e : ((fun x : Value × Cl => x.2) ∘ g) = fun i => (g i).2 := rfl
      rw [e]
      omega
end Go.Proofs.Ytdkhpehniciijaa
