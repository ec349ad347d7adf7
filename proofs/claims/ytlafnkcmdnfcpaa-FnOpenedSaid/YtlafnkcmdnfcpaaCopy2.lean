/-
  copy(dst, src) of bytes: the run equation, and one step of a region that draws its order.
-/
import Derived.Test.YtlafnkcmdnfcpaaCopy
import Derived.Deep.RegionLaw
namespace Go.Proofs.Ytlafnkcmdnfcpaa
open Go Go.RowKit
theorem run_copyB {P : Program} (w : World) (dT sT ty elem : TypeId) (hu : P.underlying dT = some (.slice elem)) (hsz : (P.info? elem).map (·.size) = some 1)
    (g off dLen dCap : Nat) (v : Value) (l : List UInt8) (hsl : SlB w v l) (cur : List Value) (t : TypeId) (hg : w.heap[g]? = some (.cells cur.toArray t (0, 0))) (hfit : off + min l.length dLen ≤ cur.length) :
    ∃ w', (Builtin.copy_ #[dT, sT] ty #[.slice (some ⟨g, off, none⟩) dLen dCap, v]).run P w = .ok (goInt ((min l.length dLen : Nat) : Int)) w' ∧
      w'.heap[g]? = some (.cells (splice cur off (vals8 (l.take dLen))).toArray t (0, 0)) ∧ Keeps (fun q => q = g) w w' := by
  by_cases h0 : min l.length dLen = 0
  · have e0 : l.take dLen = [] := List.eq_nil_of_length_eq_zero (by rw [List.length_take]; omega)
    obtain ⟨sp, sc, hv⟩ : ∃ sp sc, v = .slice sp l.length sc := by
      rcases hsl with ⟨rfl, rfl⟩ | ⟨ad, c, rfl, -⟩
      · exact ⟨_, _, rfl⟩
      · exact ⟨_, _, rfl⟩
    refine ⟨w, ?_, by rw [e0]; show _ = some (Obj.cells (splice cur off []).toArray t (0, 0)); rw [splice_nil]; exact hg, Keeps.refl _ w⟩
    rw [hv, h0]
    exact run_copy_none (P := P) w dT sT ty elem _ sp dLen dCap l.length sc hu hsz h0
  · rcases hsl with ⟨rfl, rfl⟩ | ⟨ad, c, rfl, h1, h2, hc⟩
    · exact absurd (Nat.zero_min _) h0
    · have hl : (vals8 (l.take dLen)).length = min l.length dLen := by rw [vals8_len, List.length_take, Nat.min_comm]
      have hrun := run_copy_row (P := P) w dT sT ty elem g off dLen dCap ad l.length c cur.toArray t (vals8 (l.take dLen)) hu hsz hg hl (fun j u hu => hc j u (by
        unfold vals8 at hu ⊢
        rw [List.map_take, List.getElem?_take] at hu
        split at hu
        · exact hu
        · cases hu)) (by rw [hl]; simpa using hfit) (vals8_one _)
      rw [hl] at hrun
      refine ⟨_, hrun, ?_, (Keeps.refl (fun q => q = g) w).setRow (p := g) (Or.inl rfl) _⟩
      have := row_heap (cs := (splice cur off (vals8 (l.take dLen))).toArray) hg
      unfold splice at this ⊢
      rw [hl] at this ⊢
      rw [List.append_assoc]
      exact this
/-- The same as one step of a region that draws its order. -/
theorem step_copyB {P : Program} {ops : Array Oper} {o : Oper} {a : Act} {w : World} {K : Act → World → Prop} {Q : Exit → Act → World → Prop} {E : Prop} (hgd : o.guard = none) (d s : Operand) (dT sT : TypeId)
    (ho : o.op = .call { callee := .builtin .copy, args := #[d, s], argTypes := #[dT, sT] }) (elem : TypeId) (hu : P.underlying dT = some (.slice elem)) (hsz : (P.info? elem).map (·.size) = some 1)
    (g off dLen dCap : Nat) (v : Value) (l : List UInt8) (hd : a.eval d = .slice (some ⟨g, off, none⟩) dLen dCap) (hs : a.eval s = v) (hsl : SlB w v l)
    (cur : List Value) (t : TypeId) (hg : w.heap[g]? = some (.cells cur.toArray t (0, 0))) (hfit : off + min l.length dLen ≤ cur.length)
    (h : ∀ w', Hid (w'.heap[g]? = some (.cells (splice cur off (vals8 (l.take dLen))).toArray t (0, 0))) → Hid (Keeps (fun q => q = g) w w') → K (a.put o.dst (goInt ((min l.length dLen : Nat) : Int))) w') :
    if Region.wanted o (yielded ops a.tmps) = true then Oper.wp P o a w K Q else E := by
  have hw : Region.wanted o (yielded ops a.tmps) = true := by simp [Region.wanted, hgd]
  rw [if_pos hw]
  obtain ⟨w', hrun, h1, h2⟩ := run_copyB (P := P) w dT sT o.type elem hu hsz g off dLen dCap v l hsl cur t hg hfit
  unfold Oper.wp
  simp [execOp, ho, resolve, invoke, builtin, hd, hs, hrun, Result.andThen]
  exact h w' (Lib.hid h1) (Lib.hid h2)
end Go.Proofs.Ytlafnkcmdnfcpaa
