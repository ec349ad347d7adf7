/-
  append on bytes that the call owns, whatever is appended.
-/
import Derived.Test.YtlafnkcmdnfcpaaRows
import Derived.Test.YtlafnkcmdnfcpaaMem
import Derived.Laws.AppendOwnNone
namespace Go.Proofs.Ytlafnkcmdnfcpaa
open Go Go.RowKit
theorem infoByte : (Try.prog.info? 5).map (fun i => (i.zero, i.size, i.bytes)) = some (some (.int .u8 0), 1, 1) := by kernel_rfl

/-- what append gives: v' owns the bytes, one row from 'base' on may have been written -/
def AppB (w : World) (base : Nat) (v : Value) (l r : List UInt8) (v' : Value) (w' : World) : Prop :=
  OwnB 5 w' base v' (l ++ r) ∧ Keeps (fun q => base ≤ q) w w' ∧ (v' = .slice none 0 0 ↔ v = .slice none 0 0 ∧ r = [])

theorem run_appB (w : World) (ty : TypeId) (base : Nat) (v x : Value) (l r : List UInt8) (hown : OwnB 5 w base v l) (hx : SlB w x r) (hlen : l.length + r.length ≤ 140737488355328) (hbase : base ≤ w.heap.size) :
    ∃ v' w', (Builtin.append_ #[24, 24] ty #[v, x]).run Try.prog w = .ok v' w' ∧ AppB w base v l r v' w' := by
  obtain ⟨i0, hi, hz0, hz1, hz2⟩ := info_parts infoByte
  rcases hx with ⟨rfl, rfl⟩ | ⟨ad, c, rfl, h1, h2, hc⟩
  · refine ⟨v, w, run_append_owned_none w base _ ty _ i0 1 Try.underlying24 hi v _ _ hown, ?_, Keeps.refl _ _, by simp⟩
    rw [List.append_nil]; exact hown
  · obtain ⟨v', w', hr, h3, h4, h5⟩ := run_append_own (P := Try.prog) w base 24 ty 5 i0 (.int .u8 0) 1 1 Try.underlying24 hi hz0 hz1 hz2 rfl (by decide) v l.length (vals8 l) hown ad r.length c (vals8 r)
      (by rw [vals8_len, Nat.mul_one]) hc (vals8_one r) (by unfold maxLen; omega) (by omega) hbase
    refine ⟨v', w', hr, ?_, (Keeps.refl _ w).grown h4 (fun k hk => Or.inl (hown.lt k hk).1), ?_⟩
    · unfold OwnB; rw [List.length_append, vals8_append]; exact h3
    · rw [h5]; simp

theorem wp_appB {o : Oper} {a : Act} {w : World} {K : Act → World → Prop} {Q : Exit → Act → World → Prop} (s x : Operand)
    (ho : o.op = .call { callee := .builtin .append, args := #[s, x], argTypes := #[24, 24] }) (base : Nat) (v y : Value) (l r : List UInt8)
    (hs : a.eval s = v) (hx : a.eval x = y) (hown : OwnB 5 w base v l) (hy : SlB w y r) (hlen : l.length + r.length ≤ 140737488355328) (hbase : base ≤ w.heap.size)
    (h : ∀ v' w', AppB w base v l r v' w' → K (a.put o.dst v') w') : o.wp Try.prog a w K Q := by
  obtain ⟨v', w', hr, hA⟩ := run_appB w o.type base v y l r hown hy hlen hbase
  unfold Oper.wp execOp
  simp only [ho, resolve, invoke, builtin, Sem.run_bind, Sem.run_pure, Result.andThen_ok, List.map_toArray, List.map_cons, List.map_nil, hs, hx, hr]
  exact h v' w' hA

theorem wpList_appB {ops : Array Oper} {rest : List Oper} {o : Oper} {a : Act} {w : World} {Q : Exit → Act → World → Prop} (hgd : o.guard = none) (s x : Operand)
    (ho : o.op = .call { callee := .builtin .append, args := #[s, x], argTypes := #[24, 24] }) (base : Nat) (v y : Value) (l r : List UInt8)
    (hs : a.eval s = v) (hx : a.eval x = y) (hown : OwnB 5 w base v l) (hy : SlB w y r) (hlen : l.length + r.length ≤ 140737488355328) (hbase : base ≤ w.heap.size)
    (h : ∀ v' w', AppB w base v l r v' w' → wpList Try.prog ops Q rest (a.put o.dst v') w') : wpList Try.prog ops Q (o :: rest) a w :=
  wpList_plain hgd fun _ hK => wp_appB s x ho base v y l r hs hx hown hy hlen hbase (fun v' w' hA => hK _ _ (h v' w' hA))
end Go.Proofs.Ytlafnkcmdnfcpaa
