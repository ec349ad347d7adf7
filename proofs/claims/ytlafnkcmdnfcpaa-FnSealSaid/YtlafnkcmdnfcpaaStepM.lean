/-
  The memory of steps and of what they leave.
-/
import Derived.Test.YtlafnkcmdnfcpaaRunP
import Derived.Test.YtlafnkcmdnfcpaaLie
import Derived.Test.YtlafnkcmdnfcpaaApp
import Derived.Deep.DeepAppendWide
namespace Go.Proofs.Ytlafnkcmdnfcpaa
open Go Go.RowKit
attribute [local irreducible] Cha.iter Cha.rounds Cha.dbl Cha.qr
/-- the cells of steps: each with the slice of its bytes -/
def stepCells (qs : List (Value × St)) : List Value := qs.flatMap fun q => [.int .i64 q.2.kind, .int .u32 (u32 q.2.counter), q.1, .int .i8 q.2.room]
/-- the cells of what steps leave -/
def outCells (ps : List (Value × Ou)) : List Value := ps.flatMap fun p => [p.1, .bool p.2.failed]
theorem stepCells_len (qs : List (Value × St)) : (stepCells qs).length = qs.length * 4 := by
  induction qs with
  | nil => rfl
  | cons q qs ih => simp only [stepCells, List.flatMap_cons, List.length_append, List.length_cons, List.length_nil] at ih ⊢; omega
theorem outCells_len (ps : List (Value × Ou)) : (outCells ps).length = ps.length * 2 := by
  induction ps with
  | nil => rfl
  | cons q qs ih => simp only [outCells, List.flatMap_cons, List.length_append, List.length_cons, List.length_nil] at ih ⊢; omega
theorem stepCells_append (a b : List (Value × St)) : stepCells (a ++ b) = stepCells a ++ stepCells b := by simp [stepCells]
theorem outCells_append (a b : List (Value × Ou)) : outCells (a ++ b) = outCells a ++ outCells b := by simp [outCells]
theorem stepCells_get : ∀ (qs : List (Value × St)) (i : Nat) (q : Value × St), qs[i]? = some q → (stepCells qs)[4 * i]? = some (.int .i64 q.2.kind) ∧ (stepCells qs)[4 * i + 1]? = some (.int .u32 (u32 q.2.counter)) ∧ (stepCells qs)[4 * i + 2]? = some q.1 ∧ (stepCells qs)[4 * i + 3]? = some (.int .i8 q.2.room) := by
  intro qs
  induction qs with
  | nil => intro i q h; simp at h
  | cons p qs ih =>
    intro i q h
    cases i with
    | zero => simp at h; subst h; exact ⟨rfl, rfl, rfl, rfl⟩
    | succ i =>
      have := ih i q (by simpa using h)
      exact this
theorem outCells_get : ∀ (ps : List (Value × Ou)) (i : Nat) (p : Value × Ou), ps[i]? = some p → (outCells ps)[2 * i]? = some p.1 ∧ (outCells ps)[2 * i + 1]? = some (.bool p.2.failed) := by
  intro qs
  induction qs with
  | nil => intro i q h; simp at h
  | cons p qs ih =>
    intro i q h
    cases i with
    | zero => simp at h; subst h; exact ⟨rfl, rfl⟩
    | succ i =>
      have := ih i q (by simpa using h)
      exact this
/-- the slice v holds these steps; each with a slice that reads as its bytes -/
def StepsL (w : World) (v : Value) (qs : List (Value × St)) : Prop :=
  ((v = .slice none 0 0 ∧ qs = []) ∨ ∃ ad c, v = .slice (some ad) qs.length c ∧ qs.length ≤ c ∧ c ≤ maxLen ∧ Lie w ad (stepCells qs)) ∧ ∀ q ∈ qs, SlB w q.1 q.2.src
theorem StepsL.fresh {w w' : World} {v : Value} {qs : List (Value × St)} (h : StepsL w v qs) (hk : Fresh w w') : StepsL w' v qs := by
  refine ⟨?_, fun q hq => (h.2 q hq).fresh hk⟩
  rcases h.1 with h | ⟨ad, c, hv, h1, h2, h3⟩
  · exact Or.inl h
  · exact Or.inr ⟨ad, c, hv, h1, h2, h3.fresh hk⟩
theorem StepsL.shape {w : World} {v : Value} {qs : List (Value × St)} (h : StepsL w v qs) : ∃ a c, v = .slice a qs.length c := by
  rcases h.1 with ⟨rfl, rfl⟩ | ⟨ad, c, hv, -⟩
  · exact ⟨_, _, rfl⟩
  · exact ⟨_, _, hv⟩
theorem StepsL.form {w : World} {v : Value} {qs : List (Value × St)} (h : StepsL w v qs) (h0 : 0 < qs.length) :
    ∃ b o c, v = .slice (some ⟨b, o, none⟩) qs.length c ∧ qs.length ≤ c ∧ c ≤ maxLen ∧ b < w.heap.size ∧ Lie w ⟨b, o, none⟩ (stepCells qs) := by
  rcases h.1 with ⟨rfl, rfl⟩ | ⟨ad, c, hv, h1, h2, h3⟩
  · simp at h0
  · have h4 : ∃ u, (stepCells qs)[0]? = some u := by
      cases qs with
      | nil => simp at h0
      | cons q qs => exact ⟨_, rfl⟩
    obtain ⟨u, hu⟩ := h4
    have hc := h3 0 u hu
    rw [Addr.add_zero'] at hc
    have hp := plain_of_cell hc
    have hb := World.block_lt_of_cell? w _ hc
    obtain ⟨b, o, sp⟩ := ad
    simp only at hp hb
    subst hp
    exact ⟨b, o, c, hv, h1, h2, hb, h3⟩
theorem StepsL.at {w : World} {b o : Nat} {qs : List (Value × St)} (h : Lie w ⟨b, o, none⟩ (stepCells qs)) {i : Nat} {q : Value × St} (hq : qs[i]? = some q) :
    w.cell? ⟨b, o + i * 4, none⟩ = some (.int .i64 q.2.kind) ∧ w.cell? ⟨b, o + i * 4 + 1, none⟩ = some (.int .u32 (u32 q.2.counter)) ∧ w.cell? ⟨b, o + i * 4 + 2, none⟩ = some q.1 ∧ w.cell? ⟨b, o + i * 4 + 3, none⟩ = some (.int .i8 q.2.room) := by
  obtain ⟨h1, h2, h3, h4⟩ := stepCells_get qs i q hq
  have a1 := h _ _ h1
  have a2 := h _ _ h2
  have a3 := h _ _ h3
  have a4 := h _ _ h4
  rw [Addr.add_lit] at a1 a2 a3 a4
  rw [Nat.mul_comm i 4, Nat.add_assoc, Nat.add_assoc, Nat.add_assoc]
  exact ⟨a1, a2, a3, a4⟩
/-- the slice v holds what steps leave -/
def OutsL (w : World) (v : Value) (ps : List (Value × Ou)) : Prop :=
  ((v = .slice none 0 0 ∧ ps = []) ∨ ∃ g o c, v = .slice (some ⟨g, o, none⟩) ps.length c ∧ ps.length ≤ c ∧ c ≤ maxLen ∧ Lie w ⟨g, o, none⟩ (outCells ps)) ∧ ∀ p ∈ ps, SlB w p.1 p.2.bytes
theorem OutsL.fresh {w w' : World} {v : Value} {ps : List (Value × Ou)} (h : OutsL w v ps) (hk : Fresh w w') : OutsL w' v ps := by
  refine ⟨?_, fun q hq => (h.2 q hq).fresh hk⟩
  rcases h.1 with h | ⟨g, o, c, hv, h1, h2, h3⟩
  · exact Or.inl h
  · exact Or.inr ⟨g, o, c, hv, h1, h2, h3.fresh hk⟩
theorem OutsL.shape {w : World} {v : Value} {ps : List (Value × Ou)} (h : OutsL w v ps) : ∃ a c, v = .slice a ps.length c := by
  rcases h.1 with ⟨rfl, rfl⟩ | ⟨g, o, c, hv, -⟩
  · exact ⟨_, _, rfl⟩
  · exact ⟨_, _, hv⟩
theorem OutsL.len_le {w : World} {v : Value} {ps : List (Value × Ou)} (h : OutsL w v ps) : ps.length ≤ maxLen := by
  rcases h.1 with ⟨rfl, rfl⟩ | ⟨g, o, c, hv, h1, h2, -⟩
  · exact Nat.zero_le _
  · omega
theorem OutsL.form {w : World} {v : Value} {ps : List (Value × Ou)} (h : OutsL w v ps) (h0 : 0 < ps.length) :
    ∃ g o c, v = .slice (some ⟨g, o, none⟩) ps.length c ∧ ps.length ≤ c ∧ c ≤ maxLen ∧ Lie w ⟨g, o, none⟩ (outCells ps) := by
  rcases h.1 with ⟨rfl, rfl⟩ | h
  · simp at h0
  · exact h
theorem OutsL.at {w : World} {b o : Nat} {ps : List (Value × Ou)} (h : Lie w ⟨b, o, none⟩ (outCells ps)) {i : Nat} {p : Value × Ou} (hp : ps[i]? = some p) :
    w.cell? ⟨b, o + i * 2, none⟩ = some p.1 ∧ w.cell? ⟨b, o + i * 2 + 1, none⟩ = some (.bool p.2.failed) := by
  obtain ⟨h1, h2⟩ := outCells_get ps i p hp
  have a1 := h _ _ h1
  have a2 := h _ _ h2
  rw [Addr.add_lit] at a1 a2
  rw [Nat.mul_comm i 2, Nat.add_assoc]
  exact ⟨a1, a2⟩
/-- the types -/
abbrev TOu : TypeId := 60
abbrev TSt : TypeId := 57
/-- the slice v owns these -/
def OutsOwn (w : World) (base : Nat) (v : Value) (ps : List (Value × Ou)) : Prop :=
  w.ownsRow base TOu 2 v ps.length (outCells ps) ∧ ∀ p ∈ ps, OwnB 5 w base p.1 p.2.bytes
theorem OutsOwn.nil (w : World) (base : Nat) : OutsOwn w base (.slice none 0 0) [] := ⟨World.ownsRow_nil _ _ _ _, fun _ h => by cases h⟩
theorem OutsOwn.sl {w : World} {base : Nat} {v : Value} {ps : List (Value × Ou)} (h : OutsOwn w base v ps) : OutsL w v ps := by
  refine ⟨?_, fun p hp => (h.2 p hp).sl⟩
  rcases h.1.2 with ⟨hv, h0⟩ | ⟨g, cap, cur, hv, hb, hg, h1, h2, h3, h4⟩
  · exact Or.inl ⟨hv, List.eq_nil_of_length_eq_zero h0⟩
  · exact Or.inr ⟨g, 0, cap, hv, h1, h2, World.ownsRow.cells h.1 (g := g) (by rw [hv]; rfl)⟩
theorem OutsOwn.kept {S : Nat → Prop} {w w' : World} {base : Nat} {v : Value} {ps : List (Value × Ou)} (h : OutsOwn w base v ps) (hk : Keeps S w w') (hs : ∀ k, base ≤ k → ¬ S k) : OutsOwn w' base v ps :=
  ⟨ownsRow_keeps h.1 hk (fun k e => hs k (World.ownsRow.lt h.1 k e).1), fun p hp => (h.2 p hp).kept hk hs⟩
theorem OutsOwn.mono {w : World} {base base' : Nat} {v : Value} {ps : List (Value × Ou)} (h : OutsOwn w base v ps) (hb : base' ≤ base) : OutsOwn w base' v ps := by
  refine ⟨⟨h.1.1, ?_⟩, fun p hp => (h.2 p hp).mono hb⟩
  rcases h.1.2 with h2 | ⟨g, cap, cur, hv, hbg, r⟩
  · exact Or.inl h2
  · exact Or.inr ⟨g, cap, cur, hv, Nat.le_trans hb hbg, r⟩
theorem outCells_one {ps : List (Value × Ou)} (h : ∀ p ∈ ps, p.1.oneCell' = true) : ∀ u ∈ outCells ps, u.oneCell' = true := by
  intro u hu
  obtain ⟨p, hp, hq⟩ := List.mem_flatMap.1 hu
  simp only [List.mem_cons, List.not_mem_nil, or_false] at hq
  rcases hq with rfl | rfl
  · exact h p hp
  · rfl
theorem stepCells_one {qs : List (Value × St)} (h : ∀ q ∈ qs, q.1.oneCell' = true) : ∀ u ∈ stepCells qs, u.oneCell' = true := by
  intro u hu
  obtain ⟨p, hp, hq⟩ := List.mem_flatMap.1 hu
  simp only [List.mem_cons, List.not_mem_nil, or_false] at hq
  rcases hq with rfl | rfl | rfl | rfl
  · rfl
  · rfl
  · exact h p hp
  · rfl
theorem infoOu : (Try.prog.info? 60).map (fun i => (i.zero, i.size, i.bytes)) = some (some (.agg #[.slice none 0 0, .bool false]), 2, 32) := by kernel_rfl
theorem infoSt : (Try.prog.info? 57).map (fun i => (i.zero, i.size, i.bytes)) = some (some (.agg #[.int .i64 0, .int .u32 0, .slice none 0 0, .int .i8 0]), 4, 48) := by kernel_rfl
/-- append of one -/
theorem wpList_appO {ops : Array Oper} {rest : List Oper} {o : Oper} {a : Act} {w : World} {Q : Exit → Act → World → Prop} (hgd : o.guard = none) (s x : Operand)
    (ho : o.op = .call { callee := .builtin .append, args := #[s, x], argTypes := #[34, 34] }) (base : Nat) (v : Value) (ps : List (Value × Ou)) (p : Value × Ou) (g : Nat)
    (hs : a.eval s = v) (hx : a.eval x = .slice (some ⟨g, 0, none⟩) 1 1) (hown : OutsOwn w base v ps) (hg : w.heap[g]? = some (.cells #[p.1, .bool p.2.failed] TOu (0, 0)))
    (hp : OwnB 5 w base p.1 p.2.bytes) (hlen : ps.length < 4398046511104) (hbase : base ≤ w.heap.size)
    (h : ∀ v' w', Hid (OutsOwn w' base v' (ps ++ [p])) → Hid (Keeps (fun q => v.ownBlock = some q) w w') → wpList Try.prog ops Q rest (a.put o.dst v') w') : wpList Try.prog ops Q (o :: rest) a w := by
  obtain ⟨i0, hi, hz0, hz1, hz2⟩ := info_parts infoOu
  refine wpList_append_own_wide _ hgd s x 34 ho base TOu i0 _ 2 32 Try.underlying34 hi hz0 hz1 hz2 rfl (by decide) v ps.length (outCells ps) hs hown.1 ⟨g, 0, none⟩ 1 1 (outCells [p]) hx rfl ?_ (outCells_one ?_) (by unfold maxLen; omega) (by omega) hbase ?_
  · intro j u hu
    rw [Addr.add_lit, Nat.zero_add, cell_block hg]
    simpa [outCells] using hu
  · intro q hq
    rw [List.mem_singleton] at hq
    subst hq
    exact hp.sl.oneC
  · intro v' w' h1 h2 _
    have hk : Keeps (fun q => v.ownBlock = some q) w w' := (Keeps.refl _ w).grown h2 (fun k hk => Or.inl hk)
    refine h v' w' (Lib.hid ⟨?_, ?_⟩) (Lib.hid hk)
    · rw [List.length_append, outCells_append]
      exact h1
    · intro q hq
      rcases List.mem_append.1 hq with hq | hq
      · exact (hown.2 q hq).kept' hk (fun k e => (hown.2 q hq).apart hown.1 (by decide) k e)
      · rw [List.mem_singleton] at hq
        subst hq
        exact hp.kept' hk (fun k e => hp.apart hown.1 (by decide) k e)
end Go.Proofs.Ytlafnkcmdnfcpaa
