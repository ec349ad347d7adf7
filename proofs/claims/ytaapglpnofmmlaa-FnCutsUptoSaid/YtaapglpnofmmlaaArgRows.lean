/-
  Arguments that came in: slices of slices of bytes.
-/
import Derived.Test.YtaapglpnofmmlaaBulk
import Derived.Deep.Slices
namespace Go.Proofs.Ytaapglpnofmmlaa
open Go Go.RowKit Go.ChangeShapes Go.WideShapes Go.ChangeAt
/-- the slice v holds these slices of bytes -/
def RowsL (w : World) (v : Value) (qs : List (Value × List UInt8)) : Prop :=
  ((v = .slice none 0 0 ∧ qs = []) ∨ ∃ ad c, v = .slice (some ad) qs.length c ∧ qs.length ≤ c ∧ c ≤ maxLen ∧ Lie w ad (qs.map (·.1))) ∧ ∀ q ∈ qs, SlB w q.1 q.2
theorem RowsL.fresh {w w' : World} {v : Value} {qs : List (Value × List UInt8)} (h : RowsL w v qs) (hk : Fresh w w') : RowsL w' v qs := by
  refine ⟨?_, fun q hq => (h.2 q hq).fresh hk⟩
  rcases h.1 with h | ⟨ad, c, hv, h1, h2, h3⟩
  · exact Or.inl h
  · exact Or.inr ⟨ad, c, hv, h1, h2, h3.fresh hk⟩
theorem RowsL.shape {w : World} {v : Value} {qs : List (Value × List UInt8)} (h : RowsL w v qs) : ∃ a c, v = .slice a qs.length c := by
  rcases h.1 with ⟨rfl, rfl⟩ | ⟨ad, c, hv, -⟩
  · exact ⟨_, _, rfl⟩
  · exact ⟨_, _, hv⟩
theorem RowsL.form {w : World} {v : Value} {qs : List (Value × List UInt8)} (h : RowsL w v qs) (h0 : 0 < qs.length) :
    ∃ b o c, v = .slice (some ⟨b, o, none⟩) qs.length c ∧ qs.length ≤ c ∧ c ≤ maxLen ∧ b < w.heap.size ∧ Lie w ⟨b, o, none⟩ (qs.map (·.1)) := by
  rcases h.1 with ⟨rfl, rfl⟩ | ⟨ad, c, hv, h1, h2, h3⟩
  · simp at h0
  · have h4 : ∃ u, (qs.map (·.1))[0]? = some u := by
      cases qs with
      | nil => simp at h0
      | cons q qs => exact ⟨_, rfl⟩
    obtain ⟨u, hu⟩ := h4
    have hc := h3 0 u hu
    rw [Addr.add_zero'] at hc
    have hp := plain_of_cell hc
    have hb := World.block_lt_of_cell? w _ hc
    obtain ⟨b, o, sp⟩ := ad
    simp only at hp hb
    subst hp
    exact ⟨b, o, c, hv, h1, h2, hb, h3⟩
theorem RowsL.at {w : World} {b o : Nat} {qs : List (Value × List UInt8)} (h : Lie w ⟨b, o, none⟩ (qs.map (·.1))) {i : Nat} {q : Value × List UInt8} (hq : qs[i]? = some q) : w.cell? ⟨b, o + i, none⟩ = some q.1 := by
  have := h i q.1 (by rw [List.getElem?_map, hq]; rfl)
  rwa [Addr.add_lit] at this
def totalR : List (List UInt8) → Nat
  | [] => 0
  | x :: r => x.length + totalR r
theorem totalR_range {H : Type} (g : Nat → List UInt8) (D : Nat → DataW H) : ∀ (n k : Nat), (∀ i, i < k + n → (g i).length + 1 ≤ Rows.uptoBulk (D i)) →
    totalR (((List.range' k n).map g)) + n ≤ Rows.uptoBulkAll ((List.range' k n).map D) := by
  intro n
  induction n with
  | zero => intro k _; simp [totalR, Rows.uptoBulkAll]
  | succ n ih =>
    intro k h
    rw [List.range'_succ, List.map_cons, List.map_cons]
    simp only [totalR, Rows.uptoBulkAll]
    have h1 := h k (by omega)
    have h2 := ih (k + 1) (fun i hi => h i (by omega))
    omega
/-- a slice of slices of bytes that came in -/
theorem open_rows {H : Type} {enc : TypeId × Value → H} {W : World} {base : Nat} {held : Bool} {a : Option Addr} {n c : Nat} {d : DataW H} {p : List MemPlace}
    (h : DataW.Trod enc Try.prog W base (fun _ => true) held 50 (.slice a n c) d p) :
    ∃ qs : List (Value × List UInt8), RowsL W (.slice a n c) qs ∧ totalR (qs.map (·.2)) + qs.length ≤ Rows.uptoBulk d := by
  obtain ⟨fuel, hf⟩ := h
  rcases Deep.open_slice1 Try.underlying50 (by kernel_rfl) hf with ⟨hcs, hx⟩ | ⟨ad, len, cap, m, k, V, D, P0, hcs, hb, hl, hm, hmm, hx, hc⟩
  · simp [Value.cells] at hcs
    obtain ⟨rfl, rfl, rfl⟩ := hcs
    exact ⟨[], ⟨Or.inl ⟨rfl, rfl⟩, fun _ h => by cases h⟩, by simp [totalR]⟩
  · simp [Value.cells] at hcs
    obtain ⟨rfl, rfl, rfl⟩ := hcs
    simp only [if_true] at hmm
    subst hmm
    have each : ∀ i, i < m → ∃ q : Value × List UInt8, V i = q.1 ∧ SlB W q.1 q.2 ∧ q.2.length + 1 ≤ Rows.uptoBulk (D i) := by
      intro i hi
      obtain ⟨-, t1⟩ := hc i hi
      obtain ⟨l, hs, hbk⟩ := open_bytes_bulk t1
      exact ⟨⟨V i, l⟩, rfl, hs, hbk⟩
    haveI : Inhabited (Value × List UInt8) := ⟨(.slice none 0 0, [])⟩
    obtain ⟨g, hg⟩ := Deep.choose_lt each
    refine ⟨(List.range n).map g, ⟨Or.inr ⟨ad, m, by simp, by simpa using hl, hm, ?_⟩, ?_⟩, ?_⟩
    · intro i u hu
      have hi : i < n := by have := (List.getElem?_eq_some_iff.1 hu).1; simpa using this
      have hu' : (g i).1 = u := by simpa [hi] using hu
      rw [← hu', ← (hg i (by omega)).1]
      exact (hc i (by omega)).1
    · intro q hqm
      obtain ⟨i, hi, rfl⟩ := List.mem_map.1 hqm
      have hi := List.mem_range.1 hi
      exact (hg i (by omega)).2.1
    · simp only [Prod.mk.injEq] at hx
      rw [hx.1]
      have h1 := totalR_range (fun i => (g i).2) D n 0 (fun i hi => (hg i (by omega)).2.2)
      rw [← List.range_eq_range'] at h1
      simp only [Rows.uptoBulk]
      rw [List.map_map, List.length_map, List.length_range]
      have e : ((fun x : Value × List UInt8 => x.2) ∘ g) = fun i => (g i).2 := rfl
      rw [e]
      omega
end Go.Proofs.Ytaapglpnofmmlaa
