/-
  make of n bytes; noughts that are put through the key stream; what a short script leaves, cell by cell.
-/
import Derived.Test.YtaapglpnofmmlaaLawR
import Derived.Test.YtaapglpnofmmlaaStream
import Derived.Laws.MakeOwn
namespace Go.Proofs.Ytaapglpnofmmlaa
open Go Go.RowKit
attribute [local irreducible] Cha.iter Cha.rounds Cha.dbl Cha.qr ckOf run doA doN CK.ks blkB
/-- n noughts -/
def zerosN (n : Nat) : List UInt8 := List.replicate n 0
theorem zerosN_len (n : Nat) : (zerosN n).length = n := by unfold zerosN; simp
theorem made8 (n : Nat) : madeCells (Value.int .u8 0).cells n = cells8 (zerosN n) := by
  apply Array.ext
  · rw [size_madeCells, cells8_size, zerosN_len]
  · intro i h1 h2
    rw [cells8_size, zerosN_len] at h2
    have e := cells8_get (l := zerosN n) (i := i) (by rw [zerosN_len]; exact h2)
    rw [Array.getElem?_eq_getElem (by rw [cells8_size, zerosN_len]; exact h2)] at e
    rw [Option.some.inj e]
    have e2 : (zerosN n).getD i 0 = 0 := by
      unfold zerosN
      simp only [List.getD, List.getElem?_replicate]
      split <;> rfl
    rw [e2]
    simp [madeCells, Value.cells, Nat.mod_one, u8]
theorem makeN (n : Nat) (w : World) (hn : n ≤ 281474976710656) : (Instr.makeSlice 22 (.int .i64 (n : Int)) (.int .i64 (n : Int))).run Try.prog w = .ok (.slice (some ⟨w.heap.size, 0, none⟩) n n) (w.alloc (.cells (cells8 (zerosN n)) 5)) := by
  obtain ⟨i0, hi, hz0, hz1, hz2⟩ := info_parts infoByte
  have := run_make (P := Try.prog) w 22 5 i0 (.int .u8 0) Try.underlying22 hi hz0 .i64 .i64 (n : Int) (n : Int) (by omega) (Int.le_refl _) (by rw [hz2]; omega) (by omega)
  rw [hz1, Nat.mul_one, Int.toNat_natCast, made8] at this
  exact this
theorem make64 (w : World) : (Instr.makeSlice 22 (.int .i64 64) (.int .i64 64)).run Try.prog w = .ok (.slice (some ⟨w.heap.size, 0, none⟩) 64 64) (w.alloc (.cells (cells8 (zerosN 64)) 5)) := makeN 64 w (by decide)
theorem makeN_sl (n : Nat) (w : World) (hn : n ≤ 281474976710656) : SlB (w.alloc (.cells (cells8 (zerosN n)) 5)) (.slice (some ⟨w.heap.size, 0, none⟩) n n) (zerosN n) :=
  SlB.all32 (heap_alloc_new w _) (zerosN_len n) (by unfold maxLen; omega)
theorem makeN_own (n : Nat) (w : World) (base : Nat) (hn : n ≤ 281474976710656) (hb : base ≤ w.heap.size) : OwnB 5 (w.alloc (.cells (cells8 (zerosN n)) 5)) base (.slice (some ⟨w.heap.size, 0, none⟩) n n) (zerosN n) := by
  refine ⟨by simp [vals8_len], Or.inr ⟨w.heap.size, n, _, by rw [zerosN_len], hb, heap_alloc_new w _, by rw [zerosN_len]; exact Nat.le_refl _, by unfold maxLen; omega, by rw [cells8_size, zerosN_len, Nat.mul_one], ?_⟩⟩
  rw [zerosN_len, Nat.mul_one]
  have e : (cells8 (zerosN n)).toList = vals8 (zerosN n) := by simp [cells8, vals8]
  rw [e, List.take_of_length_le (by rw [vals8_len, zerosN_len]; exact Nat.le_refl _)]
theorem xs_zeros (K : CK) (p n : Nat) : xs (fun i => K.ks (p + i)) (zerosN n) = ksL K p n := by
  unfold xs ksL
  rw [zerosN_len]
  apply List.map_congr_left
  intro i hi
  rw [List.mem_range] at hi
  have e2 : (zerosN n).getD i 0 = 0 := by
    unfold zerosN
    simp only [List.getD, List.getElem?_replicate]
    split <;> rfl
  rw [e2, UInt8.zero_xor]
theorem blk_xs (key nonce : List UInt8) (c : UInt32) (hn : nonce.length = 12) : xs (fun i => (ckOf key nonce).ks (64 * c.toNat + i)) (zerosN 64) = blkB ((ck12 key nonce).st c) := by
  rw [xs_zeros, ckOf_12 hn]
  have h := blk_part key nonce (64 * c.toNat) 64 (by omega)
  rw [Nat.mul_mod_right, List.drop_zero, List.take_of_length_le (by rw [blkB_len]; exact Nat.le_refl _), Nat.mul_div_cancel_left _ (by decide : 0 < 64), UInt32.ofNat_toNat] at h
  exact h.symm
/-- one answer of a script -/
theorem OutsOwn.cells {w : World} {base : Nat} {v : Value} {ps : List (Value × Ou)} (h : OutsOwn w base v ps) (hn : 0 < ps.length) :
    ∃ g cap, v = .slice (some ⟨g, 0, none⟩) ps.length cap ∧ ps.length ≤ cap ∧ ∀ i p, ps[i]? = some p → w.cell? ⟨g, i * 2, none⟩ = some p.1 ∧ w.cell? ⟨g, i * 2 + 1, none⟩ = some (.bool p.2.failed) ∧ SlB w p.1 p.2.bytes := by
  rcases h.1.2 with ⟨_, h0⟩ | ⟨g, cap, cur, hv, hb, hg, h1, h2, h3, h4⟩
  · omega
  · refine ⟨g, cap, hv, h1, fun i p hp => ?_⟩
    have hl : Lie w ⟨g, 0, none⟩ (outCells ps) := World.ownsRow.cells h.1 (g := g) (by rw [hv]; rfl)
    obtain ⟨d0, d1⟩ := OutsL.at hl hp
    rw [Nat.zero_add] at d0 d1
    exact ⟨d0, d1, (h.2 p (List.mem_of_getElem? hp)).sl⟩
theorem map_get {ps : List (Value × Ou)} {os : List Ou} (h : ps.map (·.2) = os) {i : Nat} {o : Ou} (ho : os[i]? = some o) : ∃ v, ps[i]? = some (v, o) := by
  rw [← h, List.getElem?_map] at ho
  obtain ⟨⟨v, o'⟩, hp, rfl⟩ := Option.map_eq_some_iff.1 ho
  exact ⟨v, hp⟩
theorem OutsOwn.one {w : World} {base : Nat} {v : Value} {ps : List (Value × Ou)} {a : Ou} (h : OutsOwn w base v ps) (hp : ps.map (·.2) = [a]) :
    ∃ g cap, v = .slice (some ⟨g, 0, none⟩) 1 cap ∧ 1 ≤ cap ∧ w.cell? ⟨g, 1, none⟩ = some (.bool a.failed) := by
  have hl : ps.length = 1 := by have := congrArg List.length hp; simpa using this
  obtain ⟨g, cap, hv, hc, hx⟩ := h.cells (by omega)
  obtain ⟨v0, h0⟩ := map_get hp (i := 0) rfl
  rw [hl] at hv hc
  exact ⟨g, cap, hv, hc, by simpa using (hx 0 _ h0).2.1⟩
theorem OutsOwn.two {w : World} {base : Nat} {v : Value} {ps : List (Value × Ou)} {a b : Ou} (h : OutsOwn w base v ps) (hp : ps.map (·.2) = [a, b]) :
    ∃ g cap vb, v = .slice (some ⟨g, 0, none⟩) 2 cap ∧ 2 ≤ cap ∧ w.cell? ⟨g, 2, none⟩ = some vb ∧ SlB w vb b.bytes := by
  have hl : ps.length = 2 := by have := congrArg List.length hp; simpa using this
  obtain ⟨g, cap, hv, hc, hx⟩ := h.cells (by omega)
  obtain ⟨v1, h1⟩ := map_get hp (i := 1) rfl
  rw [hl] at hv hc
  exact ⟨g, cap, v1, hv, hc, by simpa using (hx 1 _ h1).1, (hx 1 _ h1).2.2⟩
theorem OutsOwn.four {w : World} {base : Nat} {v : Value} {ps : List (Value × Ou)} {a b c d : Ou} (h : OutsOwn w base v ps) (hp : ps.map (·.2) = [a, b, c, d]) :
    ∃ g cap, v = .slice (some ⟨g, 0, none⟩) 4 cap ∧ 4 ≤ cap ∧ w.cell? ⟨g, 1, none⟩ = some (.bool a.failed) ∧ w.cell? ⟨g, 3, none⟩ = some (.bool b.failed) ∧ w.cell? ⟨g, 5, none⟩ = some (.bool c.failed) ∧ w.cell? ⟨g, 7, none⟩ = some (.bool d.failed) := by
  have hl : ps.length = 4 := by have := congrArg List.length hp; simpa using this
  obtain ⟨g, cap, hv, hc, hx⟩ := h.cells (by omega)
  obtain ⟨v0, h0⟩ := map_get hp (i := 0) rfl
  obtain ⟨v1, h1⟩ := map_get hp (i := 1) rfl
  obtain ⟨v2, h2⟩ := map_get hp (i := 2) rfl
  obtain ⟨v3, h3⟩ := map_get hp (i := 3) rfl
  rw [hl] at hv hc
  exact ⟨g, cap, hv, hc, by simpa using (hx 0 _ h0).2.1, by simpa using (hx 1 _ h1).2.1, by simpa using (hx 2 _ h2).2.1, by simpa using (hx 3 _ h3).2.1⟩
end Go.Proofs.Ytaapglpnofmmlaa
