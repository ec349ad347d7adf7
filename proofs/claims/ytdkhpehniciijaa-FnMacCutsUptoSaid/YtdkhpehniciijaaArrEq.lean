/-
  '==' on arrays of bytes; loads of whole arrays in regions that draw.
-/
import Derived.Test.YtdkhpehniciijaaTag
import Derived.ChangeKeysEq
import Derived.Laws.StructEq
namespace Go.Proofs.Ytdkhpehniciijaa
open Go Go.RowKit
theorem und8 : Try.prog.underlying 5 = some (.int .u8) := by kernel_rfl
theorem u8_beq (x y : UInt8) : (u8 x == u8 y) = (x == y) := by
  by_cases h : x = y
  · subst h; rw [beq_self_eq_true, beq_self_eq_true]
  · have : ¬ u8 x = u8 y := fun e => h (by
      unfold u8 at e
      exact UInt8.toNat_inj.1 (by omega))
    rw [beq_eq_false_iff_ne.2 h, beq_eq_false_iff_ne.2 this]
theorem run_part8 (l : List UInt8) (i : Nat) (h : i < l.length) (w : World) : (part 5 (cells8 l) i).run Try.prog w = .ok (.int .u8 (u8 (l.getD i 0))) w := by
  have := cells8_get h
  simp [part, isAgg, run_underlying und8, this]
theorem run_eqItems8 (a b : List UInt8) (w : World) (d : Nat) : ∀ (n k : Nat), k + n ≤ a.length → k + n ≤ b.length →
    (Op.eqItems (d + 1) 5 1 (cells8 a) (cells8 b) (List.range' k n)).run Try.prog w = .ok (decide ((a.drop k).take n = (b.drop k).take n)) w := by
  intro n
  induction n with
  | zero => intro k _ _; simp [Op.eqItems]
  | succ n ih =>
    intro k ha hb
    have ea : (a.drop k).take (n + 1) = a.getD k 0 :: (a.drop (k + 1)).take n := by
      have hk : k < a.length := by omega
      rw [List.drop_eq_getElem_cons hk, List.take_succ_cons]
      congr 1
      simp [List.getD, hk]
    have eb : (b.drop k).take (n + 1) = b.getD k 0 :: (b.drop (k + 1)).take n := by
      have hk : k < b.length := by omega
      rw [List.drop_eq_getElem_cons hk, List.take_succ_cons]
      congr 1
      simp [List.getD, hk]
    rw [ea, eb, List.range'_succ]
    simp only [Op.eqItems, Nat.mul_one, Sem.run_bind, run_part8 a k (by omega), run_part8 b k (by omega), Result.andThen_ok, run_equalIn_int _ _ _ _ _ _ _ und8, u8_beq]
    by_cases h : a.getD k 0 = b.getD k 0
    · rw [h]
      simp [ih (k + 1) (by omega) (by omega)]
    · have h' : (a.getD k 0 == b.getD k 0) = false := beq_eq_false_iff_ne.2 h
      rw [h', if_pos (show (!false) = true from rfl), Sem.run_pure, decide_eq_false (fun e => h (List.cons.inj e).1)]
theorem run_eql16 (a b : List UInt8) (ha : a.length = 16) (hb : b.length = 16) (w : World) :
    (binOp .eql 25 (.agg (cells8 a)) (.agg (cells8 b))).run Try.prog w = .ok (.bool (decide (a = b))) w := by
  obtain ⟨i0, hi, -, hz1, -⟩ := info_parts infoByte
  rw [run_eql_struct, run_equalIn_array w 9999 _ _ Try.underlying25 hi, show Try.prog.cellsOf 5 = 1 from by kernel_rfl, List.range_eq_range', run_eqItems8 a b w 9998 16 0 (by omega) (by omega)]
  simp [List.take_of_length_le, ha, hb]
theorem exec_load_row {P : Program} {o : Oper} {a : Act} {w : World} (ty : TypeId) (x : Operand) (ho : o.op = .load ty x) (g : Nat) (hx : a.eval x = .pointer (some ⟨g, 0, none⟩)) (t : TypeId) (cs : Array Value) (d : TypeDesc) (hg : w.heap[g]? = some (.cells cs t (0, 0)))
    (hu : P.underlying ty = some d) (hd : (match d with | .struct _ | .array _ _ => true | _ => false) = true) (hi : (P.info? ty).map (·.size) = some cs.size) : (execOp a.eval o).run P w = .ok (.value (.agg cs)) w := by
  unfold execOp
  simp only [ho, hx, Instr.loadAt, Instr.sureAddr, Sem.run_bind, Sem.run_pure, Result.andThen_ok, run_loadVar_row w g t ty cs (0, 0) d hg hu hd hi]
end Go.Proofs.Ytdkhpehniciijaa
