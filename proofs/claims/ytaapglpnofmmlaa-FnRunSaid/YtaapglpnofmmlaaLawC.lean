/-
  Contracts: laws.nonceOf, laws.at, laws.into, laws.within.
-/
import Derived.Test.YtaapglpnofmmlaaRan
import Derived.Test.YtaapglpnofmmlaaStr
namespace Go.Proofs.Ytaapglpnofmmlaa
open Go Go.RowKit
attribute [local irreducible] Cha.iter Cha.rounds Cha.dbl Cha.qr ckOf run doA doN
/-- a nonce of 24 bytes, or its first 12 -/
def nonL (n : List UInt8) (long : Bool) : List UInt8 := if long then n else n.take 12
theorem nonL_len {n : List UInt8} (h : n.length = 24) (long : Bool) : (nonL n long).length = 12 ∨ (nonL n long).length = 24 := by
  unfold nonL
  cases long
  · left; simp [h]
  · right; simpa using h
/-- a slice that reads as these bytes; nothing old is written -/
def RetS (w : World) (l : List UInt8) (e : Ending) (w' : World) : Prop := ∃ v, e = .returned v ∧ SlB w' v l ∧ Fresh w w'
theorem nonceOf_c (nonce : List UInt8) (long : Bool) (w : World) (hn : nonce.length = 24) :
    Calls Try.prog 19 #[.agg (cells8 nonce), .bool long] w (RetS w (nonL nonce long)) := by
  have h1 := cells8_one nonce
  have HN := Lib.hid hn
  clear hn
  cases long with
  | true =>
    go_enter Try.func19, Try.ntmps19
    go_wp2_with fail
    go_ret
    exact ⟨_, rfl, SlB.all32 (heap_alloc_new w _) HN.out (by decide), (Keeps.refl _ w).alloc _⟩
  | false =>
    go_enter Try.func19, Try.ntmps19
    go_wp2_with fail
    go_ret
    refine ⟨_, rfl, ?_, (Keeps.refl _ w).alloc _⟩
    have hb := heap_alloc_new w (.cells (cells8 nonce) 28)
    have h12 : (nonL nonce false).length = 12 := by unfold nonL; simp [HN.out]
    have := SlB.of (w := w.alloc (.cells (cells8 nonce) 28)) (b := w.heap.size) (o := 0) (c := 24) (l := nonL nonce false) (by rw [h12]; decide) (by decide) (fun i hi => by
      rw [h12] at hi
      rw [cell_block hb, Nat.zero_add, cells8_get (by rw [HN.out]; omega)]
      unfold nonL
      simp [List.getD, hi])
    rwa [h12] at this
/-- a step as a value -/
def stV (v : Value) (s : St) : Value := .agg #[.int .i64 s.kind, .int .u32 (u32 s.counter), v, .int .i8 s.room]
theorem st_cells {w : World} {p : Nat} {a0 a1 a2 a3 : Value} {T : TypeId} (hb : w.heap[p]? = some (.cells #[a0, a1, a2, a3] T (0, 0))) :
    w.cell? ⟨p, 0, none⟩ = some a0 ∧ w.cell? ⟨p, 1, none⟩ = some a1 ∧ w.cell? ⟨p, 2, none⟩ = some a2 ∧ w.cell? ⟨p, 3, none⟩ = some a3 := by
  refine ⟨?_, ?_, ?_, ?_⟩ <;> (rw [cell_block hb]; rfl)
theorem at_results {w : World} {p : Nat} {a0 a1 a2 a3 : Value} {tmps : Array Value} (ht : tmps[2]? = some (.pointer (some ⟨p, 0, none⟩))) (hb : w.heap[p]? = some (.cells #[a0, a1, a2, a3] TSt (0, 0))) :
    (results Try.f20 tmps).run Try.prog w = .ok (.agg #[a0, a1, a2, a3]) w := by
  obtain ⟨c0, c1, c2, c3⟩ := st_cells hb
  simp [results, Try.results20, go_sem, ht, c0, c1, c2, c3]
theorem into_results {w : World} {p : Nat} {a0 a1 a2 a3 : Value} {tmps : Array Value} (ht : tmps[2]? = some (.pointer (some ⟨p, 0, none⟩))) (hb : w.heap[p]? = some (.cells #[a0, a1, a2, a3] TSt (0, 0))) :
    (results Try.f21 tmps).run Try.prog w = .ok (.agg #[a0, a1, a2, a3]) w := by
  obtain ⟨c0, c1, c2, c3⟩ := st_cells hb
  simp [results, Try.results21, go_sem, ht, c0, c1, c2, c3]
theorem at_c (c : UInt32) (w : World) : Calls Try.prog 20 #[.int .u32 (u32 c)] w fun e w' => e = .returned (stV (.slice none 0 0) (atS c)) ∧ Fresh w w' := by
  go_enter Try.func20, Try.ntmps20
  go_wp2_with fail
  exact ⟨rfl, _, at_results rfl (heap_alloc_new w _), rfl, (Keeps.refl _ w).alloc _⟩
theorem into_c (v : Value) (s : List UInt8) (w : World) (hs : SlB w v s) : Calls Try.prog 21 #[v] w fun e w' => e = .returned (stV v (intoS s)) ∧ Fresh w w' := by
  obtain ⟨p, c, rfl⟩ := hs.slice
  go_enter Try.func21, Try.ntmps21
  go_wp2_with fail
  exact ⟨rfl, _, into_results rfl (heap_alloc_new w _), rfl, (Keeps.refl _ w).alloc _⟩
/-- within -/
def withinB (c : UInt32) (n : Nat) : Bool := decide (n ≤ 1048576 ∧ 64 * c.toNat + n ≤ endK)
theorem within_c (c : UInt32) (n : Nat) (w : World) (hn : n ≤ 140737488355328) : Calls Try.prog 17 #[.int .u32 (u32 c), .int .i64 (n : Int)] w fun e w' => e = .returned (.bool (withinB c n)) ∧ w' = w := by
  have hc := c.toNat_lt
  have e0 : (u32 c) = (c.toNat : Int) := rfl
  have w1 : IntKind.i64.wrap (u32 c) = u32 c := by rw [IntKind.wrap_i64, e0]; omega
  have w2 : IntKind.i64.wrap (64 * u32 c) = 64 * u32 c := by rw [IntKind.wrap_i64, e0]; omega
  have w3 : IntKind.i64.wrap (274877906944 - 64 * u32 c) = 274877906944 - 64 * u32 c := by rw [IntKind.wrap_i64, e0]; omega
  by_cases h1 : n ≤ 1048576
  · have i1 : (n : Int) ≤ 1048576 := by omega
    by_cases h2 : 64 * c.toNat + n ≤ endK
    · have i2 : (n : Int) ≤ 274877906944 - 64 * u32 c := by rw [e0]; unfold endK at h2; omega
      have hw : withinB c n = true := decide_eq_true ⟨h1, h2⟩
      rw [hw]
      clear hc e0 h1 h2
      go_enter Try.func17, Try.ntmps17
      go_wp2_with fail
      go_ret
      exact ⟨rfl, rfl⟩
    · have i2 : ¬ (n : Int) ≤ 274877906944 - 64 * u32 c := by rw [e0]; unfold endK at h2; omega
      have hw : withinB c n = false := decide_eq_false (fun h => h2 h.2)
      rw [hw]
      clear hc e0 h1 h2
      go_enter Try.func17, Try.ntmps17
      go_wp2_with fail
      go_ret
      exact ⟨rfl, rfl⟩
  · have i1 : ¬ (n : Int) ≤ 1048576 := by omega
    have hw : withinB c n = false := decide_eq_false (fun h => h1 h.1)
    rw [hw]
    clear hc e0 h1
    go_enter Try.func17, Try.ntmps17
    go_wp2_with fail
    go_ret
    exact ⟨rfl, rfl⟩
/-- steps that are written out -/
theorem StepsL.lit {w : World} {b : Nat} (qs : List (Value × St)) {cs : Array Value} (h : w.heap[b]? = some (.cells cs TSt (0, 0))) (hcs : cs = (stepCells qs).toArray) (hn : qs.length ≤ maxLen) (hq : ∀ q ∈ qs, SlB w q.1 q.2.src) : StepsL w (.slice (some ⟨b, 0, none⟩) qs.length qs.length) qs := by
  subst hcs
  refine ⟨Or.inr ⟨⟨b, 0, none⟩, qs.length, rfl, Nat.le_refl _, hn, ?_⟩, hq⟩
  intro j u hu
  rw [Addr.add_lit, Nat.zero_add, cell_block h]
  simpa using hu
end Go.Proofs.Ytaapglpnofmmlaa
