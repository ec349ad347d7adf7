/-
  append on bytes that the call owns: only their own row may be written.
-/
import Derived.Test.YtaapglpnofmmlaaApp
namespace Go.Proofs.Ytaapglpnofmmlaa
open Go Go.RowKit
theorem run_appS (w : World) (ty : TypeId) (base : Nat) (v x : Value) (l r : List UInt8) (hown : OwnB 5 w base v l) (hx : SlB w x r) (hlen : l.length + r.length ≤ 140737488355328) (hbase : base ≤ w.heap.size) :
    ∃ v' w', (Builtin.append_ #[22, 22] ty #[v, x]).run Try.prog w = .ok v' w' ∧ OwnB 5 w' base v' (l ++ r) ∧ Keeps (fun q => v.ownBlock = some q) w w' := by
  obtain ⟨i0, hi, hz0, hz1, hz2⟩ := info_parts infoByte
  rcases hx with ⟨rfl, rfl⟩ | ⟨ad, c, rfl, h1, h2, hc⟩
  · refine ⟨v, w, run_append_owned_none w base _ ty _ i0 1 Try.underlying22 hi v _ _ hown, ?_, Keeps.refl _ _⟩
    rw [List.append_nil]; exact hown
  · obtain ⟨v', w', hr, h3, h4, h5⟩ := run_append_own (P := Try.prog) w base 22 ty 5 i0 (.int .u8 0) 1 1 Try.underlying22 hi hz0 hz1 hz2 rfl (by decide) v l.length (vals8 l) hown ad r.length c (vals8 r)
      (by rw [vals8_len, Nat.mul_one]) hc (vals8_one r) (by unfold maxLen; omega) (by omega) hbase
    refine ⟨v', w', hr, ?_, (Keeps.refl _ w).grown h4 (fun k hk => Or.inl hk)⟩
    unfold OwnB; rw [List.length_append, vals8_append]; exact h3
theorem wp_appS {o : Oper} {a : Act} {w : World} {K : Act → World → Prop} {Q : Exit → Act → World → Prop} (s x : Operand)
    (ho : o.op = .call { callee := .builtin .append, args := #[s, x], argTypes := #[22, 22] }) (base : Nat) (v y : Value) (l r : List UInt8)
    (hs : a.eval s = v) (hx : a.eval x = y) (hown : OwnB 5 w base v l) (hy : SlB w y r) (hlen : l.length + r.length ≤ 140737488355328) (hbase : base ≤ w.heap.size)
    (h : ∀ v' w', Hid (OwnB 5 w' base v' (l ++ r)) → Hid (Keeps (fun q => v.ownBlock = some q) w w') → K (a.put o.dst v') w') : o.wp Try.prog a w K Q := by
  obtain ⟨v', w', hr, h1, h2⟩ := run_appS w o.type base v y l r hown hy hlen hbase
  unfold Oper.wp execOp
  simp only [ho, resolve, invoke, builtin, Sem.run_bind, Sem.run_pure, Result.andThen_ok, List.map_toArray, List.map_cons, List.map_nil, hs, hx, hr]
  exact h v' w' (Lib.hid h1) (Lib.hid h2)
theorem wpList_appS {ops : Array Oper} {rest : List Oper} {o : Oper} {a : Act} {w : World} {Q : Exit → Act → World → Prop} (hgd : o.guard = none) (s x : Operand)
    (ho : o.op = .call { callee := .builtin .append, args := #[s, x], argTypes := #[22, 22] }) (base : Nat) (v y : Value) (l r : List UInt8)
    (hs : a.eval s = v) (hx : a.eval x = y) (hown : OwnB 5 w base v l) (hy : SlB w y r) (hlen : l.length + r.length ≤ 140737488355328) (hbase : base ≤ w.heap.size)
    (h : ∀ v' w', Hid (OwnB 5 w' base v' (l ++ r)) → Hid (Keeps (fun q => v.ownBlock = some q) w w') → wpList Try.prog ops Q rest (a.put o.dst v') w') : wpList Try.prog ops Q (o :: rest) a w :=
  wpList_plain hgd fun _ hK => wp_appS s x ho base v y l r hs hx hown hy hlen hbase (fun v' w' h1 h2 => hK _ _ (h v' w' h1 h2))
end Go.Proofs.Ytaapglpnofmmlaa
