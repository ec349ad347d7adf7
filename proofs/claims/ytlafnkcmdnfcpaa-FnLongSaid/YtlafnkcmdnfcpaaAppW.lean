/-
  append on owned bytes, up to three quarters of 2^48 bytes.
-/
import Derived.Test.YtlafnkcmdnfcpaaAppS
namespace Go.Proofs.Ytlafnkcmdnfcpaa
open Go Go.RowKit
theorem growBy_fits (N : Nat) : ∀ (rounds c : Nat), c ≤ N + (N + 768) / 4 → Builtin.growBy N rounds c ≤ N + (N + 768) / 4 := by
  intro rounds
  induction rounds with
  | zero => intro c h; exact h
  | succ k ih =>
    intro c h
    unfold Builtin.growBy
    split
    · exact h
    · exact ih _ (by omega)
theorem slicecap_fits {need old : Nat} (h : old < need) (hb : need ≤ 211106232532992) : Builtin.nextslicecap need old * 1 ≤ 281474976710656 := by
  rw [Nat.mul_one]
  unfold Builtin.nextslicecap
  split
  · omega
  · split
    · omega
    · have := growBy_fits need 4 old (by omega)
      omega
theorem grown_owns (w : World) (base : Nat) (l r : List UInt8) (k : Nat) (hbase : base ≤ w.heap.size) (h63 : l.length + r.length ≤ 211106232532992) :
    OwnB 5 (w.drew.alloc (.cells ((vals8 l).toArray ++ (vals8 r).toArray ++ Builtin.zeroCells (Value.int .u8 0).cells (grownCap w (l.length + r.length) k 5 - (l.length + r.length))) 5)) base
      (.slice (some ⟨w.heap.size, 0, none⟩) (l.length + r.length) (grownCap w (l.length + r.length) k 5)) (l ++ r) := by
  unfold OwnB
  have hge := grownCap_ge w (l.length + r.length) k 5
  have hle := grownCap_le_maxLen w (l.length + r.length) k 5 (by unfold maxLen; omega)
  rw [List.length_append, vals8_append]
  refine ⟨by simp [vals8_len], Or.inr ⟨w.heap.size, _, _, rfl, hbase, heap_alloc_new w.drew _, hge, hle, ?_, ?_⟩⟩
  · simp only [Array.size_append, List.size_toArray, vals8_len, size_zeroCells]
    simp only [Value.cells, List.size_toArray, List.length_cons, List.length_nil]
    omega
  · simp only [Array.toList_append]
    rw [List.take_left']
    simp [vals8_len]
theorem grown_keeps (S : Nat → Prop) (w : World) (o : Obj) : Keeps S w (w.drew.alloc o) := ((Keeps.refl S w).drew).alloc o
theorem run_appW (w : World) (ty : TypeId) (base : Nat) (v x : Value) (l r : List UInt8) (hown : OwnB 5 w base v l) (hx : SlB w x r) (hlen : l.length + r.length ≤ 211106232532992) (hbase : base ≤ w.heap.size) :
    ∃ v' w', (Builtin.append_ #[24, 24] ty #[v, x]).run Try.prog w = .ok v' w' ∧ OwnB 5 w' base v' (l ++ r) ∧ Keeps (fun q => v.ownBlock = some q) w w' := by
  by_cases hsm : l.length + r.length ≤ 140737488355328
  · exact run_appS w ty base v x l r hown hx hsm hbase
  obtain ⟨i0, hi, hz0, hz1, hz2⟩ := info_parts infoByte
  rcases hx with ⟨rfl, rfl⟩ | ⟨ad, c, rfl, h1, h2, hc⟩
  · refine ⟨v, w, run_append_owned_none w base _ ty _ i0 1 Try.underlying24 hi v _ _ hown, ?_, Keeps.refl _ _⟩
    rw [List.append_nil]; exact hown
  · rcases hown.2 with ⟨rfl, h0⟩ | ⟨g, cap, cur, rfl, hb, hg, k1, k2, k3, k4⟩
    · obtain rfl : l = [] := List.eq_nil_of_length_eq_zero h0
      simp only [List.length_nil, Nat.zero_add] at hlen hsm
      have hr := run_append_nil (P := Try.prog) w 24 ty 5 i0 (.int .u8 0) Try.underlying24 hi hz0 ad r.length c (vals8 r) (by rw [vals8_len, hz1, Nat.mul_one]) hc (by omega) (by omega) (by rw [hz2]; omega)
      have ho := grown_owns w base [] r 0 hbase (by simp only [List.length_nil, Nat.zero_add]; omega)
      simp only [List.length_nil, Nat.zero_add, List.nil_append] at ho
      refine ⟨_, _, hr, ?_, grown_keeps _ w _⟩
      have e : (vals8 []).toArray ++ (vals8 r).toArray = (vals8 r).toArray := by simp [vals8]
      rw [e] at ho
      exact ho
    · by_cases hroom : l.length + r.length ≤ cap
      · have hr := run_append_room (P := Try.prog) w 24 ty 5 i0 Try.underlying24 hi g l.length cap cur hg ad r.length c (vals8 r) (by rw [vals8_len, hz1, Nat.mul_one]) hc (vals8_one r) hroom (by rw [vals8_len, hz1]; omega)
        refine ⟨_, _, hr, ?_, (Keeps.refl (fun q => (Value.slice (some (⟨g, 0, none⟩ : Addr)) l.length cap).ownBlock = some q) w).setRow (Or.inl rfl) _⟩
        unfold OwnB
        rw [List.length_append, vals8_append]
        refine ⟨by simp [vals8_len], Or.inr ⟨g, cap, _, rfl, hb, row_heap hg, hroom, k2, ?_, ?_⟩⟩
        · simp only [hz1, Nat.mul_one, List.size_toArray, List.length_append, List.length_take, List.length_drop, Array.length_toList, vals8_len]
          omega
        · rw [Nat.mul_one] at k4
          simp only [hz1, Nat.mul_one]
          rw [k4]
          exact List.take_left' (by simp [vals8_len])
      · have holds := World.ownsRow.cells hown (g := g) rfl
        have hr := run_append_grow (P := Try.prog) w 24 ty 5 i0 (.int .u8 0) Try.underlying24 hi hz0 ⟨g, 0, none⟩ l.length cap (vals8 l) (by rw [vals8_len, hz1, Nat.mul_one]) holds ad r.length c (vals8 r) (by rw [vals8_len, hz1, Nat.mul_one]) hc (by omega) (by omega)
          (by rw [hz2]; exact slicecap_fits (by omega) hlen)
        exact ⟨_, _, hr, grown_owns w base l r cap hbase hlen, grown_keeps _ w _⟩
theorem wp_appW {o : Oper} {a : Act} {w : World} {K : Act → World → Prop} {Q : Exit → Act → World → Prop} (s x : Operand)
    (ho : o.op = .call { callee := .builtin .append, args := #[s, x], argTypes := #[24, 24] }) (base : Nat) (v y : Value) (l r : List UInt8)
    (hs : a.eval s = v) (hx : a.eval x = y) (hown : OwnB 5 w base v l) (hy : SlB w y r) (hlen : l.length + r.length ≤ 211106232532992) (hbase : base ≤ w.heap.size)
    (h : ∀ v' w', Hid (OwnB 5 w' base v' (l ++ r)) → Hid (Keeps (fun q => v.ownBlock = some q) w w') → K (a.put o.dst v') w') : o.wp Try.prog a w K Q := by
  obtain ⟨v', w', hr, h1, h2⟩ := run_appW w o.type base v y l r hown hy hlen hbase
  unfold Oper.wp execOp
  simp only [ho, resolve, invoke, builtin, Sem.run_bind, Sem.run_pure, Result.andThen_ok, List.map_toArray, List.map_cons, List.map_nil, hs, hx, hr]
  exact h v' w' (Lib.hid h1) (Lib.hid h2)
theorem wpList_appW {ops : Array Oper} {rest : List Oper} {o : Oper} {a : Act} {w : World} {Q : Exit → Act → World → Prop} (hgd : o.guard = none) (s x : Operand)
    (ho : o.op = .call { callee := .builtin .append, args := #[s, x], argTypes := #[24, 24] }) (base : Nat) (v y : Value) (l r : List UInt8)
    (hs : a.eval s = v) (hx : a.eval x = y) (hown : OwnB 5 w base v l) (hy : SlB w y r) (hlen : l.length + r.length ≤ 211106232532992) (hbase : base ≤ w.heap.size)
    (h : ∀ v' w', Hid (OwnB 5 w' base v' (l ++ r)) → Hid (Keeps (fun q => v.ownBlock = some q) w w') → wpList Try.prog ops Q rest (a.put o.dst v') w') : wpList Try.prog ops Q (o :: rest) a w :=
  wpList_plain hgd fun _ hK => wp_appW s x ho base v y l r hs hx hown hy hlen hbase (fun v' w' h1 h2 => hK _ _ (h v' w' h1 h2))
end Go.Proofs.Ytlafnkcmdnfcpaa
