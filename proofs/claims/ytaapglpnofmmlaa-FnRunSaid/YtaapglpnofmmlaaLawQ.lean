/-
  The laws' scripts: what ran leaves where it is known; loads of whole arrays.
-/
import Derived.Test.YtaapglpnofmmlaaLawC
import Derived.Test.YtaapglpnofmmlaaOrd
import Derived.ChangeKeysEq
import Derived.Laws.StructEq
namespace Go.Proofs.Ytaapglpnofmmlaa
open Go Go.RowKit
attribute [local irreducible] Cha.iter Cha.rounds Cha.dbl Cha.qr ckOf run doA doN
theorem info32C : (Try.prog.info? 27).map (·.size) = some 32 := by kernel_rfl
theorem info24C : (Try.prog.info? 28).map (·.size) = some 24 := by kernel_rfl
theorem load32 {o : Oper} {a : Act} {w w0 : World} {g : Nat} {l : List UInt8} (x : Operand) (ho : o.op = .load 27 x) (hx : a.eval x = .pointer (some ⟨g, 0, none⟩)) (hl : l.length = 32)
    (hg : w0.heap[g]? = some (.cells (cells8 l) 27 (0, 0))) (hf : Fresh w0 w) : (execOp a.eval o).run Try.prog w = .ok (.value (.agg (cells8 l))) w := by
  unfold execOp
  simp only [ho, hx, Instr.loadAt, Instr.sureAddr, Sem.run_bind, Sem.run_pure, Result.andThen_ok, run_loadVar_row w g _ _ (cells8 l) (0, 0) _ (hf.at hg) Try.underlying27 rfl (by rw [cells8_size, hl]; exact info32C)]
theorem load24 {o : Oper} {a : Act} {w w0 : World} {g : Nat} {l : List UInt8} (x : Operand) (ho : o.op = .load 28 x) (hx : a.eval x = .pointer (some ⟨g, 0, none⟩)) (hl : l.length = 24)
    (hg : w0.heap[g]? = some (.cells (cells8 l) 28 (0, 0))) (hf : Fresh w0 w) : (execOp a.eval o).run Try.prog w = .ok (.value (.agg (cells8 l))) w := by
  unfold execOp
  simp only [ho, hx, Instr.loadAt, Instr.sureAddr, Sem.run_bind, Sem.run_pure, Result.andThen_ok, run_loadVar_row w g _ _ (cells8 l) (0, 0) _ (hf.at hg) Try.underlying28 rfl (by rw [cells8_size, hl]; exact info24C)]
/-- what a script leaves, where no step fails -/
def Ran (K : CK) (ss : List St) (B : List UInt8) : Prop := outsOk (run K 0 ss) = true ∧ (run K 0 ss).length = ss.length ∧ outsB (run K 0 ss) = B
theorem ran_lit (vn vc : Value) (key nonce B : List UInt8) (qs : List (Value × St)) (w : World) (hk : key.length = 32) (h2 : SlB w vn nonce) (hn : nonce.length = 12 ∨ nonce.length = 24)
    (hc : StepsL w vc qs) (hq : qs.length ≤ 4398046511104) (hb : ∀ q ∈ qs, q.2.src.length ≤ 140737488353280 ∧ -128 ≤ q.2.room ∧ q.2.room ≤ 127)
    (hR : Ran (ckOf key nonce) (qs.map (·.2)) B) (hB : B.length ≤ 140737488355328) :
    Calls Try.prog 18 #[.agg (cells8 key), vn, vc] w fun e w' => ∃ v, e = .returned (.tuple #[v, .bool true]) ∧ OwnB 5 w' w.heap.size v B ∧ Fresh w w' := by
  obtain ⟨r1, r2, r3⟩ := hR
  refine (ran_c vn vc key nonce qs w hk h2 hn hc hq hb (by rw [r3]; exact hB)).mono ?_
  rintro e w' ⟨v, rfl, ho, hf⟩
  rw [r3] at ho
  exact ⟨v, by rw [r1, r2, decide_eq_true rfl]; rfl, ho, hf⟩
theorem within_true {c : UInt32} {n : Nat} (h : withinB c n = true) : n ≤ 1048576 ∧ 64 * c.toNat + n ≤ endK := of_decide_eq_true h
/-- set the counter, take bytes -/
theorem Ran.one (K : CK) (c : UInt32) (s : List UInt8) (h : 64 * c.toNat + s.length ≤ endK) : Ran K [atS c, intoS s] (xs (fun i => K.ks (64 * c.toNat + i)) s) := by
  unfold Ran
  rw [ran_one K c s h]
  exact ⟨rfl, rfl, by simp [outsB]⟩
theorem okSt {k : Int} {c : UInt32} {s : List UInt8} {r : Int} (h : s.length ≤ 140737488353280) (h1 : -128 ≤ r) (h2 : r ≤ 127) : (⟨k, c, s, r⟩ : St).src.length ≤ 140737488353280 ∧ -128 ≤ (⟨k, c, s, r⟩ : St).room ∧ (⟨k, c, s, r⟩ : St).room ≤ 127 := ⟨h, h1, h2⟩
theorem okAt (c : UInt32) : (atS c).src.length ≤ 140737488353280 ∧ -128 ≤ (atS c).room ∧ (atS c).room ≤ 127 := okSt (Nat.zero_le _) (by decide) (by decide)
theorem okInto {s : List UInt8} (h : s.length ≤ 140737488353280) : (intoS s).src.length ≤ 140737488353280 ∧ -128 ≤ (intoS s).room ∧ (intoS s).room ≤ 127 := okSt h (by decide) (by decide)
theorem okPlace {s : List UInt8} (h : s.length ≤ 140737488353280) : (placeS s).src.length ≤ 140737488353280 ∧ -128 ≤ (placeS s).room ∧ (placeS s).room ≤ 127 := okSt h (by decide) (by decide)
end Go.Proofs.Ytaapglpnofmmlaa
