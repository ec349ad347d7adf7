/-
  Plain: what a session answers; the memory of calls and of answers.
-/
import Derived.Test.YtdkhpehniciijaaMacM3
import Derived.Test.YtdkhpehniciijaaLie
import Derived.Deep.DeepAppendWide
namespace Go.Proofs.Ytdkhpehniciijaa
open Go Go.RowKit
attribute [local irreducible] tagK
/-- a call -/
structure Cl where
  kind : Int
  bytes : List UInt8
/-- an answer -/
structure An where
  bytes : List UInt8
  n : Int
  is : Bool
  failed : Bool
/-- what a call answers of an authenticator that was told m -/
def askA (key m : List UInt8) (fin : Bool) (c : Cl) : An :=
  if c.kind = 0 then (if fin then ⟨[], 0, false, true⟩ else ⟨[], (c.bytes.length : Int), false, false⟩)
  else if c.kind = 1 then ⟨c.bytes ++ tagK key m, 0, false, false⟩
  else if c.kind = 2 then ⟨[], 0, decide (c.bytes = tagK key m), false⟩
  else if c.kind = 3 then ⟨[], 16, false, false⟩
  else ⟨[], 0, false, false⟩
/-- what was told behind a call -/
def askM (m : List UInt8) (fin : Bool) (c : Cl) : List UInt8 := if c.kind = 0 then (if fin then m else m ++ c.bytes) else m
/-- whether it is closed behind a call -/
def askF (fin : Bool) (c : Cl) : Bool := if c.kind = 1 then true else if c.kind = 2 then true else fin
/-- the answers of a session -/
def sess (key : List UInt8) : List UInt8 → Bool → List Cl → List An
  | _, _, [] => []
  | m, fin, c :: cs => askA key m fin c :: (if (askA key m fin c).failed then [] else sess key (askM m fin c) (askF fin c) cs)
theorem sess_nil (key m : List UInt8) (fin : Bool) : sess key m fin [] = [] := rfl
theorem sess_cons (key m : List UInt8) (fin : Bool) (c : Cl) (cs : List Cl) : sess key m fin (c :: cs) = askA key m fin c :: (if (askA key m fin c).failed then [] else sess key (askM m fin c) (askF fin c) cs) := rfl
section
variable (key m x : List UInt8) (fin : Bool) (k : Int)
theorem askA_write : askA key m false ⟨0, x⟩ = ⟨[], (x.length : Int), false, false⟩ := rfl
theorem askA_refused : askA key m true ⟨0, x⟩ = ⟨[], 0, false, true⟩ := rfl
theorem askA_sum : askA key m fin ⟨1, x⟩ = ⟨x ++ tagK key m, 0, false, false⟩ := rfl
theorem askA_verify : askA key m fin ⟨2, x⟩ = ⟨[], 0, decide (x = tagK key m), false⟩ := rfl
theorem askA_size : askA key m fin ⟨3, x⟩ = ⟨[], 16, false, false⟩ := rfl
theorem askA_other (h0 : k ≠ 0) (h1 : k ≠ 1) (h2 : k ≠ 2) (h3 : k ≠ 3) : askA key m fin ⟨k, x⟩ = ⟨[], 0, false, false⟩ := by
  unfold askA; rw [if_neg h0, if_neg h1, if_neg h2, if_neg h3]
theorem askM_write : askM m false ⟨0, x⟩ = m ++ x := rfl
theorem askM_refused : askM m true ⟨0, x⟩ = m := rfl
theorem askM_other (h0 : k ≠ 0) : askM m fin ⟨k, x⟩ = m := by unfold askM; rw [if_neg h0]
theorem askF_sum : askF fin ⟨1, x⟩ = true := rfl
theorem askF_verify : askF fin ⟨2, x⟩ = true := rfl
theorem askF_other (h1 : k ≠ 1) (h2 : k ≠ 2) : askF fin ⟨k, x⟩ = fin := by unfold askF; rw [if_neg h1, if_neg h2]
end
/-- the cells of calls: each with the slice of its bytes -/
def callCells (qs : List (Value × Cl)) : List Value := qs.flatMap fun q => [.int .i64 q.2.kind, q.1]
/-- the cells of answers -/
def ansCells (ps : List (Value × An)) : List Value := ps.flatMap fun p => [p.1, .int .i64 p.2.n, .bool p.2.is, .bool p.2.failed]
theorem callCells_len (qs : List (Value × Cl)) : (callCells qs).length = qs.length * 2 := by
  induction qs with
  | nil => rfl
  | cons q qs ih => simp only [callCells, List.flatMap_cons, List.length_append, List.length_cons, List.length_nil] at ih ⊢; omega
theorem ansCells_len (ps : List (Value × An)) : (ansCells ps).length = ps.length * 4 := by
  induction ps with
  | nil => rfl
  | cons q qs ih => simp only [ansCells, List.flatMap_cons, List.length_append, List.length_cons, List.length_nil] at ih ⊢; omega
theorem callCells_append (a b : List (Value × Cl)) : callCells (a ++ b) = callCells a ++ callCells b := by simp [callCells]
theorem ansCells_append (a b : List (Value × An)) : ansCells (a ++ b) = ansCells a ++ ansCells b := by simp [ansCells]
theorem callCells_get : ∀ (qs : List (Value × Cl)) (i : Nat) (q : Value × Cl), qs[i]? = some q → (callCells qs)[2 * i]? = some (.int .i64 q.2.kind) ∧ (callCells qs)[2 * i + 1]? = some q.1 := by
  intro qs
  induction qs with
  | nil => intro i q h; simp at h
  | cons p qs ih =>
    intro i q h
    cases i with
    | zero => simp at h; subst h; exact ⟨rfl, rfl⟩
    | succ i =>
      have := ih i q (by simpa using h)
      exact this
theorem ansCells_get : ∀ (ps : List (Value × An)) (i : Nat) (p : Value × An), ps[i]? = some p → (ansCells ps)[4 * i]? = some p.1 ∧ (ansCells ps)[4 * i + 1]? = some (.int .i64 p.2.n) ∧ (ansCells ps)[4 * i + 2]? = some (.bool p.2.is) ∧ (ansCells ps)[4 * i + 3]? = some (.bool p.2.failed) := by
  intro qs
  induction qs with
  | nil => intro i q h; simp at h
  | cons p qs ih =>
    intro i q h
    cases i with
    | zero => simp at h; subst h; exact ⟨rfl, rfl, rfl, rfl⟩
    | succ i =>
      have := ih i q (by simpa using h)
      exact this
/-- the slice v holds these calls; each with a slice that reads as its bytes -/
def CallsL (w : World) (v : Value) (qs : List (Value × Cl)) : Prop :=
  ((v = .slice none 0 0 ∧ qs = []) ∨ ∃ ad c, v = .slice (some ad) qs.length c ∧ qs.length ≤ c ∧ c ≤ maxLen ∧ Lie w ad (callCells qs)) ∧ ∀ q ∈ qs, SlB w q.1 q.2.bytes
theorem CallsL.fresh {w w' : World} {v : Value} {qs : List (Value × Cl)} (h : CallsL w v qs) (hk : Fresh w w') : CallsL w' v qs := by
  refine ⟨?_, fun q hq => (h.2 q hq).fresh hk⟩
  rcases h.1 with h | ⟨ad, c, hv, h1, h2, h3⟩
  · exact Or.inl h
  · exact Or.inr ⟨ad, c, hv, h1, h2, h3.fresh hk⟩
theorem CallsL.shape {w : World} {v : Value} {qs : List (Value × Cl)} (h : CallsL w v qs) : ∃ a c, v = .slice a qs.length c := by
  rcases h.1 with ⟨rfl, rfl⟩ | ⟨ad, c, hv, -⟩
  · exact ⟨_, _, rfl⟩
  · exact ⟨_, _, hv⟩
theorem CallsL.len_le {w : World} {v : Value} {qs : List (Value × Cl)} (h : CallsL w v qs) : qs.length ≤ maxLen := by
  rcases h.1 with ⟨rfl, rfl⟩ | ⟨ad, c, hv, h1, h2, -⟩
  · exact Nat.zero_le _
  · omega
theorem CallsL.form {w : World} {v : Value} {qs : List (Value × Cl)} (h : CallsL w v qs) (h0 : 0 < qs.length) :
    ∃ b o c, v = .slice (some ⟨b, o, none⟩) qs.length c ∧ qs.length ≤ c ∧ c ≤ maxLen ∧ b < w.heap.size ∧ Lie w ⟨b, o, none⟩ (callCells qs) := by
  rcases h.1 with ⟨rfl, rfl⟩ | ⟨ad, c, hv, h1, h2, h3⟩
  · simp at h0
  · have h4 : ∃ u, (callCells qs)[0]? = some u := by
      cases qs with
      | nil => simp at h0
      | cons q qs => exact ⟨_, rfl⟩
    obtain ⟨u, hu⟩ := h4
    have hc := h3 0 u hu
    rw [Addr.add_zero'] at hc
    have hp := plain_of_cell hc
    have hb := World.block_lt_of_cell? w _ hc
    obtain ⟨b, o, sp⟩ := ad
    simp only at hp hb
    subst hp
    exact ⟨b, o, c, hv, h1, h2, hb, h3⟩
theorem CallsL.at {w : World} {b o : Nat} {qs : List (Value × Cl)} (h : Lie w ⟨b, o, none⟩ (callCells qs)) {i : Nat} {q : Value × Cl} (hq : qs[i]? = some q) :
    w.cell? ⟨b, o + i * 2, none⟩ = some (.int .i64 q.2.kind) ∧ w.cell? ⟨b, o + i * 2 + 1, none⟩ = some q.1 := by
  obtain ⟨h1, h2⟩ := callCells_get qs i q hq
  have a1 := h _ _ h1
  have a2 := h _ _ h2
  rw [Addr.add_lit] at a1 a2
  rw [Nat.mul_comm i 2, Nat.add_assoc]
  exact ⟨a1, a2⟩
/-- the slice v holds these answers -/
def AnsL (w : World) (v : Value) (ps : List (Value × An)) : Prop :=
  ((v = .slice none 0 0 ∧ ps = []) ∨ ∃ g o c, v = .slice (some ⟨g, o, none⟩) ps.length c ∧ ps.length ≤ c ∧ c ≤ maxLen ∧ Lie w ⟨g, o, none⟩ (ansCells ps)) ∧ ∀ p ∈ ps, SlB w p.1 p.2.bytes
theorem AnsL.fresh {w w' : World} {v : Value} {ps : List (Value × An)} (h : AnsL w v ps) (hk : Fresh w w') : AnsL w' v ps := by
  refine ⟨?_, fun q hq => (h.2 q hq).fresh hk⟩
  rcases h.1 with h | ⟨g, o, c, hv, h1, h2, h3⟩
  · exact Or.inl h
  · exact Or.inr ⟨g, o, c, hv, h1, h2, h3.fresh hk⟩
theorem AnsL.shape {w : World} {v : Value} {ps : List (Value × An)} (h : AnsL w v ps) : ∃ a c, v = .slice a ps.length c := by
  rcases h.1 with ⟨rfl, rfl⟩ | ⟨g, o, c, hv, -⟩
  · exact ⟨_, _, rfl⟩
  · exact ⟨_, _, hv⟩
theorem AnsL.form {w : World} {v : Value} {ps : List (Value × An)} (h : AnsL w v ps) (h0 : 0 < ps.length) :
    ∃ g o c, v = .slice (some ⟨g, o, none⟩) ps.length c ∧ ps.length ≤ c ∧ c ≤ maxLen ∧ Lie w ⟨g, o, none⟩ (ansCells ps) := by
  rcases h.1 with ⟨rfl, rfl⟩ | h
  · simp at h0
  · exact h
theorem AnsL.at {w : World} {b o : Nat} {ps : List (Value × An)} (h : Lie w ⟨b, o, none⟩ (ansCells ps)) {i : Nat} {p : Value × An} (hp : ps[i]? = some p) :
    w.cell? ⟨b, o + i * 4, none⟩ = some p.1 ∧ w.cell? ⟨b, o + i * 4 + 1, none⟩ = some (.int .i64 p.2.n) ∧ w.cell? ⟨b, o + i * 4 + 2, none⟩ = some (.bool p.2.is) ∧ w.cell? ⟨b, o + i * 4 + 3, none⟩ = some (.bool p.2.failed) := by
  obtain ⟨h1, h2, h3, h4⟩ := ansCells_get ps i p hp
  have a1 := h _ _ h1
  have a2 := h _ _ h2
  have a3 := h _ _ h3
  have a4 := h _ _ h4
  rw [Addr.add_lit] at a1 a2 a3 a4
  rw [Nat.mul_comm i 4, Nat.add_assoc, Nat.add_assoc, Nat.add_assoc]
  exact ⟨a1, a2, a3, a4⟩
/-- the types of answers and calls -/
abbrev TAn : TypeId := 40
abbrev TCl : TypeId := 38
/-- the slice v owns these answers -/
def AnsOwn (w : World) (base : Nat) (v : Value) (ps : List (Value × An)) : Prop :=
  w.ownsRow base TAn 4 v ps.length (ansCells ps) ∧ ∀ p ∈ ps, OwnB 5 w base p.1 p.2.bytes
theorem AnsOwn.nil (w : World) (base : Nat) : AnsOwn w base (.slice none 0 0) [] := ⟨World.ownsRow_nil _ _ _ _, fun _ h => by cases h⟩
theorem AnsOwn.sl {w : World} {base : Nat} {v : Value} {ps : List (Value × An)} (h : AnsOwn w base v ps) : AnsL w v ps := by
  refine ⟨?_, fun p hp => (h.2 p hp).sl⟩
  rcases h.1.2 with ⟨hv, h0⟩ | ⟨g, cap, cur, hv, hb, hg, h1, h2, h3, h4⟩
  · exact Or.inl ⟨hv, List.eq_nil_of_length_eq_zero h0⟩
  · exact Or.inr ⟨g, 0, cap, hv, h1, h2, World.ownsRow.cells h.1 (g := g) (by rw [hv]; rfl)⟩
theorem AnsOwn.kept {S : Nat → Prop} {w w' : World} {base : Nat} {v : Value} {ps : List (Value × An)} (h : AnsOwn w base v ps) (hk : Keeps S w w') (hs : ∀ k, base ≤ k → ¬ S k) : AnsOwn w' base v ps :=
  ⟨ownsRow_keeps h.1 hk (fun k e => hs k (World.ownsRow.lt h.1 k e).1), fun p hp => (h.2 p hp).kept hk hs⟩
theorem ansCells_one {ps : List (Value × An)} (h : ∀ p ∈ ps, p.1.oneCell' = true) : ∀ u ∈ ansCells ps, u.oneCell' = true := by
  intro u hu
  obtain ⟨p, hp, hq⟩ := List.mem_flatMap.1 hu
  simp only [List.mem_cons, List.not_mem_nil, or_false] at hq
  rcases hq with rfl | rfl | rfl | rfl
  · exact h p hp
  · rfl
  · rfl
  · rfl
theorem callCells_one {qs : List (Value × Cl)} (h : ∀ q ∈ qs, q.1.oneCell' = true) : ∀ u ∈ callCells qs, u.oneCell' = true := by
  intro u hu
  obtain ⟨p, hp, hq⟩ := List.mem_flatMap.1 hu
  simp only [List.mem_cons, List.not_mem_nil, or_false] at hq
  rcases hq with rfl | rfl
  · rfl
  · exact h p hp
theorem infoAn : (Try.prog.info? 40).map (fun i => (i.zero, i.size, i.bytes)) = some (some (.agg #[.slice none 0 0, .int .i64 0, .bool false, .bool false]), 4, 40) := by kernel_rfl
theorem infoCl : (Try.prog.info? 38).map (fun i => (i.zero, i.size, i.bytes)) = some (some (.agg #[.int .i64 0, .slice none 0 0]), 2, 32) := by kernel_rfl
/-- append of one answer -/
theorem wpList_appA {ops : Array Oper} {rest : List Oper} {o : Oper} {a : Act} {w : World} {Q : Exit → Act → World → Prop} (hgd : o.guard = none) (s x : Operand)
    (ho : o.op = .call { callee := .builtin .append, args := #[s, x], argTypes := #[34, 34] }) (base : Nat) (v : Value) (ps : List (Value × An)) (p : Value × An) (g : Nat)
    (hs : a.eval s = v) (hx : a.eval x = .slice (some ⟨g, 0, none⟩) 1 1) (hown : AnsOwn w base v ps) (hg : w.heap[g]? = some (.cells #[p.1, .int .i64 p.2.n, .bool p.2.is, .bool p.2.failed] TAn (0, 0)))
    (hp : OwnB 5 w base p.1 p.2.bytes) (hlen : ps.length < 4398046511104) (hbase : base ≤ w.heap.size)
    (h : ∀ v' w', Hid (AnsOwn w' base v' (ps ++ [p])) → Hid (Keeps (fun q => v.ownBlock = some q) w w') → wpList Try.prog ops Q rest (a.put o.dst v') w') : wpList Try.prog ops Q (o :: rest) a w := by
  obtain ⟨i0, hi, hz0, hz1, hz2⟩ := info_parts infoAn
  refine wpList_append_own_wide _ hgd s x 34 ho base TAn i0 _ 4 40 Try.underlying34 hi hz0 hz1 hz2 rfl (by decide) v ps.length (ansCells ps) hs hown.1 ⟨g, 0, none⟩ 1 1 (ansCells [p]) hx rfl ?_ (ansCells_one ?_) (by unfold maxLen; omega) (by omega) hbase ?_
  · intro j u hu
    rw [Addr.add_lit, Nat.zero_add, cell_block hg]
    simpa [ansCells] using hu
  · intro q hq
    rw [List.mem_singleton] at hq
    subst hq
    exact hp.sl.oneC
  · intro v' w' h1 h2 _
    have hk : Keeps (fun q => v.ownBlock = some q) w w' := (Keeps.refl _ w).grown h2 (fun k hk => Or.inl hk)
    refine h v' w' (Lib.hid ⟨?_, ?_⟩) (Lib.hid hk)
    · rw [List.length_append, ansCells_append]
      exact h1
    · intro q hq
      rcases List.mem_append.1 hq with hq | hq
      · exact (hown.2 q hq).kept' hk (fun k e => (hown.2 q hq).apart hown.1 (by decide) k e)
      · rw [List.mem_singleton] at hq
        subst hq
        exact hp.kept' hk (fun k e => hp.apart hown.1 (by decide) k e)
/-- append of calls -/
theorem run_appC (w : World) (ty : TypeId) (base : Nat) (v y : Value) (qs rs : List (Value × Cl)) (hown : w.ownsRow base TCl 2 v qs.length (callCells qs)) (hy : CallsL w y rs) (hlen : qs.length + rs.length ≤ 4398046511104) (hbase : base ≤ w.heap.size) :
    ∃ v' w', (Builtin.append_ #[42, 42] ty #[v, y]).run Try.prog w = .ok v' w' ∧ w'.ownsRow base TCl 2 v' (qs ++ rs).length (callCells (qs ++ rs)) ∧ Keeps (fun q => v.ownBlock = some q) w w' := by
  obtain ⟨i0, hi, hz0, hz1, hz2⟩ := info_parts infoCl
  rcases hy.1 with ⟨rfl, rfl⟩ | ⟨ad, c, rfl, h1, h2, hc⟩
  · refine ⟨v, w, run_append_owned_none w base _ ty _ i0 2 Try.underlying42 hi v _ _ hown, ?_, Keeps.refl _ _⟩
    rw [List.append_nil]; exact hown
  · obtain ⟨v', w', hr, h3, h4, h5⟩ := run_append_own_wide (P := Try.prog) w base 42 ty TCl i0 _ 2 32 Try.underlying42 hi hz0 hz1 hz2 rfl (by decide) v qs.length (callCells qs) hown ad rs.length c (callCells rs)
      (callCells_len rs) hc (callCells_one (fun q hq => (hy.2 q hq).oneC)) (by unfold maxLen; omega) (by omega) hbase
    refine ⟨v', w', hr, ?_, (Keeps.refl _ w).grown h4 (fun k hk => Or.inl hk)⟩
    rw [List.length_append, callCells_append]; exact h3
theorem wp_appC {o : Oper} {a : Act} {w : World} {K : Act → World → Prop} {Q : Exit → Act → World → Prop} (s x : Operand)
    (ho : o.op = .call { callee := .builtin .append, args := #[s, x], argTypes := #[42, 42] }) (base : Nat) (v y : Value) (qs rs : List (Value × Cl))
    (hs : a.eval s = v) (hx : a.eval x = y) (hown : w.ownsRow base TCl 2 v qs.length (callCells qs)) (hy : CallsL w y rs) (hlen : qs.length + rs.length ≤ 4398046511104) (hbase : base ≤ w.heap.size)
    (h : ∀ v' w', Hid (w'.ownsRow base TCl 2 v' (qs ++ rs).length (callCells (qs ++ rs))) → Hid (Keeps (fun q => v.ownBlock = some q) w w') → K (a.put o.dst v') w') : o.wp Try.prog a w K Q := by
  obtain ⟨v', w', hr, h1, h2⟩ := run_appC w o.type base v y qs rs hown hy hlen hbase
  unfold Oper.wp execOp
  simp only [ho, resolve, invoke, builtin, Sem.run_bind, Sem.run_pure, Result.andThen_ok, List.map_toArray, List.map_cons, List.map_nil, hs, hx, hr]
  exact h v' w' (Lib.hid h1) (Lib.hid h2)
theorem wpList_appC {ops : Array Oper} {rest : List Oper} {o : Oper} {a : Act} {w : World} {Q : Exit → Act → World → Prop} (hgd : o.guard = none) (s x : Operand)
    (ho : o.op = .call { callee := .builtin .append, args := #[s, x], argTypes := #[42, 42] }) (base : Nat) (v y : Value) (qs rs : List (Value × Cl))
    (hs : a.eval s = v) (hx : a.eval x = y) (hown : w.ownsRow base TCl 2 v qs.length (callCells qs)) (hy : CallsL w y rs) (hlen : qs.length + rs.length ≤ 4398046511104) (hbase : base ≤ w.heap.size)
    (h : ∀ v' w', Hid (w'.ownsRow base TCl 2 v' (qs ++ rs).length (callCells (qs ++ rs))) → Hid (Keeps (fun q => v.ownBlock = some q) w w') → wpList Try.prog ops Q rest (a.put o.dst v') w') : wpList Try.prog ops Q (o :: rest) a w :=
  wpList_plain hgd fun _ hK => wp_appC s x ho base v y qs rs hs hx hown hy hlen hbase (fun v' w' h1 h2 => hK _ _ (h v' w' h1 h2))
end Go.Proofs.Ytdkhpehniciijaa
