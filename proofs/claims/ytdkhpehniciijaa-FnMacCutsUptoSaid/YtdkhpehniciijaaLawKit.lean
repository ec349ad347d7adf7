/-
  Small laws for the walks of the authenticator's laws.
-/
import Derived.Test.YtdkhpehniciijaaTold
import Derived.Test.YtdkhpehniciijaaStr
import Derived.Test.YtdkhpehniciijaaArrEq
import Derived.Test.YtdkhpehniciijaaSlPart
import Derived.BigQuiet
namespace Go.Proofs.Ytdkhpehniciijaa
open Go Go.RowKit
attribute [local irreducible] tagK
theorem strB_append (a b : List UInt8) : strB a ++ strB b = strB (a ++ b) := by
  unfold strB
  apply ByteArray.ext
  simp [ByteArray.data_append]
theorem CallsL.lit {w : World} {g : Nat} {cs : Array Value} (qs : List (Value × Cl)) (hb : w.heap[g]? = some (.cells cs TCl (0, 0))) (hc : cs = (callCells qs).toArray) (hl : qs.length ≤ maxLen) (hs : ∀ q ∈ qs, SlB w q.1 q.2.bytes) :
    CallsL w (.slice (some ⟨g, 0, none⟩) qs.length qs.length) qs := by
  refine ⟨Or.inr ⟨_, _, rfl, Nat.le_refl _, hl, ?_⟩, hs⟩
  intro j u hu
  rw [Addr.add_lit, Nat.zero_add, cell_block hb, hc]
  simpa using hu
theorem ans_cons {ps : List (Value × An)} {a : An} {r : List An} (h : ps.map (·.2) = a :: r) : ∃ v ps', ps = (v, a) :: ps' ∧ ps'.map (·.2) = r := by
  cases ps with
  | nil => simp at h
  | cons p ps' =>
    rw [List.map_cons] at h
    obtain ⟨h1, h2⟩ := List.cons.inj h
    exact ⟨p.1, ps', by rw [← h1], h2⟩
theorem strB_size (a : List UInt8) : (strB a).size = a.length := by simp [strB, ByteArray.size]
theorem one_le : 1 ≤ maxLen := by decide
theorem ans_nil {ps : List (Value × An)} (h : ps.map (·.2) = []) : ps = [] := List.map_eq_nil_iff.1 h
theorem wpList_load_rowW {P : Program} {ops : Array Oper} {rest : List Oper} {o : Oper} {a : Act} {w : World} {Q : Exit → Act → World → Prop} (hw : Region.wanted o (yielded ops a.tmps) = true) (ty : TypeId) (x : Operand) (ho : o.op = .load ty x)
    (g : Nat) (hx : a.eval x = .pointer (some ⟨g, 0, none⟩)) (t : TypeId) (cs : Array Value) (fr : Nat × Nat) (d : TypeDesc) (hg : w.heap[g]? = some (.cells cs t fr))
    (hu : P.underlying ty = some d) (hd : (match d with | .struct _ | .array _ _ => true | _ => false) = true) (hi : (P.info? ty).map (·.size) = some cs.size)
    (h : wpList P ops Q rest (a.put o.dst (.agg cs)) w) : wpList P ops Q (o :: rest) a w := by
  unfold wpList
  rw [if_pos hw]
  exact Or.inl (wp_load_row ty x ho g hx t cs fr d hg hu hd hi h)
theorem exec_eql16 {o : Oper} {a : Act} {w : World} (x y : Operand) (ho : o.op = .binOp .eql 25 x y 25) (l1 l2 : List UInt8) (hx : a.eval x = .agg (cells8 l1)) (hy : a.eval y = .agg (cells8 l2)) (h1 : l1.length = 16) (h2 : l2.length = 16) :
    (execOp a.eval o).run Try.prog w = .ok (.value (.bool (decide (l1 = l2)))) w := by
  unfold execOp
  have hg : (eqGuard .eql 25 x y (.agg (cells8 l1)) (.agg (cells8 l2))).run Try.prog w = .ok () w := by
    simp [eqGuard]
  simp only [ho, hx, hy, Sem.run_bind, hg, run_eql16 l1 l2 h1 h2, Result.andThen_ok, Sem.run_pure]
theorem two_le2 : 2 ≤ maxLen := by decide
end Go.Proofs.Ytdkhpehniciijaa
