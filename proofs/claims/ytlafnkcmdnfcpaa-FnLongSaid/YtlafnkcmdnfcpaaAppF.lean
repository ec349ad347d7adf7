/-
  append on owned bytes that have no room: nothing old is written.
-/
import Derived.Test.YtlafnkcmdnfcpaaAppW
namespace Go.Proofs.Ytlafnkcmdnfcpaa
open Go Go.RowKit
theorem setRow_same {w : World} {g : Nat} {cs : Array Value} {T : TypeId} (h : w.heap[g]? = some (.cells cs T (0, 0))) : Fresh w (w.setRow g cs) := by
  refine ⟨rfl, rfl, rfl, by simp, fun k hk _ => ?_⟩
  by_cases e : k = g
  · subst e; rw [row_heap h, h]
  · rw [setRow_other _ _ _ _ e]
theorem run_appF (w : World) (ty : TypeId) (base g : Nat) (x : Value) (n : Nat) (l r : List UInt8) (hown : OwnB 5 w base (.slice (some ⟨g, 0, none⟩) n n) l) (hx : SlB w x r) (hlen : l.length + r.length ≤ 211106232532992) (hbase : base ≤ w.heap.size) :
    ∃ v' w', (Builtin.append_ #[24, 24] ty #[.slice (some ⟨g, 0, none⟩) n n, x]).run Try.prog w = .ok v' w' ∧ OwnB 5 w' base v' (l ++ r) ∧ Fresh w w' := by
  obtain ⟨i0, hi, hz0, hz1, hz2⟩ := info_parts infoByte
  rcases hx with ⟨rfl, rfl⟩ | ⟨ad, c, rfl, h1, h2, hc⟩
  · refine ⟨_, w, run_append_owned_none w base _ ty _ i0 1 Try.underlying24 hi _ _ _ hown, ?_, Keeps.refl _ _⟩
    rw [List.append_nil]; exact hown
  · have holds := World.ownsRow.cells hown (g := g) rfl
    obtain ⟨g', cap, cur, hv, hb, hg, k1, k2, k3, k4⟩ : ∃ g' cap cur, (Value.slice (some ⟨g, 0, none⟩) n n) = .slice (some ⟨g', 0, none⟩) l.length cap ∧ base ≤ g' ∧ w.heap[g']? = some (.cells cur 5 (0, 0)) ∧ l.length ≤ cap ∧ cap ≤ maxLen ∧ cur.size = cap * 1 ∧ cur.toList.take (l.length * 1) = vals8 l := by
      rcases hown.2 with ⟨he, -⟩ | h
      · cases he
      · exact h
    injection hv with e1 e2 e3
    injection e1 with e1
    injection e1 with e1 e4 e5
    subst e1 e3
    subst e2
    rcases Nat.eq_zero_or_pos r.length with h0 | h0
    · obtain rfl : r = [] := List.eq_nil_of_length_eq_zero h0
      have hr := run_append_room (P := Try.prog) w 24 ty 5 i0 Try.underlying24 hi g l.length l.length cur hg ad 0 c [] (by simp) (fun j u hj => by simp at hj) (fun u hu => by cases hu) (Nat.le_refl _) (by rw [hz1]; simp; omega)
      rw [hz1] at hr
      have e : (cur.toList.take (l.length * 1) ++ [] ++ cur.toList.drop (l.length * 1 + ([] : List Value).length)).toArray = cur := by
        simp
      rw [e] at hr
      refine ⟨_, _, hr, ?_, setRow_same hg⟩
      rw [List.append_nil]
      have ho : OwnB 5 w base (.slice (some ⟨g, 0, none⟩) l.length l.length) l := hown
      exact ho.kept (setRow_same hg) (fun _ _ x => x)
    · have hr := run_append_grow (P := Try.prog) w 24 ty 5 i0 (.int .u8 0) Try.underlying24 hi hz0 ⟨g, 0, none⟩ l.length l.length (vals8 l) (by rw [vals8_len, hz1, Nat.mul_one]) holds ad r.length c (vals8 r) (by rw [vals8_len, hz1, Nat.mul_one]) hc (by omega) (by omega)
        (by rw [hz2]; exact slicecap_fits (by omega) hlen)
      exact ⟨_, _, hr, grown_owns w base l r l.length hbase hlen, grown_keeps _ w _⟩
theorem wp_appF {o : Oper} {a : Act} {w : World} {K : Act → World → Prop} {Q : Exit → Act → World → Prop} (s x : Operand)
    (ho : o.op = .call { callee := .builtin .append, args := #[s, x], argTypes := #[24, 24] }) (base g n : Nat) (y : Value) (l r : List UInt8)
    (hs : a.eval s = .slice (some ⟨g, 0, none⟩) n n) (hx : a.eval x = y) (hown : OwnB 5 w base (.slice (some ⟨g, 0, none⟩) n n) l) (hy : SlB w y r) (hlen : l.length + r.length ≤ 211106232532992) (hbase : base ≤ w.heap.size)
    (h : ∀ v' w', Hid (OwnB 5 w' base v' (l ++ r)) → Fresh w w' → K (a.put o.dst v') w') : o.wp Try.prog a w K Q := by
  obtain ⟨v', w', hr, h1, h2⟩ := run_appF w o.type base g y n l r hown hy hlen hbase
  unfold Oper.wp execOp
  simp only [ho, resolve, invoke, builtin, Sem.run_bind, Sem.run_pure, Result.andThen_ok, List.map_toArray, List.map_cons, List.map_nil, hs, hx, hr]
  exact h v' w' (Lib.hid h1) h2
theorem wpList_appF {ops : Array Oper} {rest : List Oper} {o : Oper} {a : Act} {w : World} {Q : Exit → Act → World → Prop} (hgd : o.guard = none) (s x : Operand)
    (ho : o.op = .call { callee := .builtin .append, args := #[s, x], argTypes := #[24, 24] }) (base g n : Nat) (y : Value) (l r : List UInt8)
    (hs : a.eval s = .slice (some ⟨g, 0, none⟩) n n) (hx : a.eval x = y) (hown : OwnB 5 w base (.slice (some ⟨g, 0, none⟩) n n) l) (hy : SlB w y r) (hlen : l.length + r.length ≤ 211106232532992) (hbase : base ≤ w.heap.size)
    (h : ∀ v' w', Hid (OwnB 5 w' base v' (l ++ r)) → Fresh w w' → wpList Try.prog ops Q rest (a.put o.dst v') w') : wpList Try.prog ops Q (o :: rest) a w :=
  wpList_plain hgd fun _ hK => wp_appF s x ho base g n y l r hs hx hown hy hlen hbase (fun v' w' h1 h2 => hK _ _ (h v' w' h1 h2))
end Go.Proofs.Ytlafnkcmdnfcpaa
