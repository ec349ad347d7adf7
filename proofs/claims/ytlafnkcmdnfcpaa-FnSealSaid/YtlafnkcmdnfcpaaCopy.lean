/-
  copy(dst, src) of bytes: dst in a block that is known whole, src any slice that reads as bytes.
-/
import Derived.Test.YtlafnkcmdnfcpaaMem
import Derived.Laws.CopyOwn
namespace Go.Proofs.Ytlafnkcmdnfcpaa
open Go Go.RowKit
theorem splice_nil {α : Type} (L : List α) (off : Nat) : splice L off [] = L := by simp [splice]
theorem wpList_copyB {P : Program} {w : World} {ops : Array Oper} {rest : List Oper} {o : Oper} {a : Act} {Q : Exit → Act → World → Prop} (hgd : o.guard = none) (d s : Operand) (dT sT : TypeId)
    (ho : o.op = .call { callee := .builtin .copy, args := #[d, s], argTypes := #[dT, sT] }) (elem : TypeId) (hu : P.underlying dT = some (.slice elem)) (hsz : (P.info? elem).map (·.size) = some 1)
    (g off dLen dCap : Nat) (v : Value) (l : List UInt8) (hd : a.eval d = .slice (some ⟨g, off, none⟩) dLen dCap) (hs : a.eval s = v) (hsl : SlB w v l)
    (cur : List Value) (t : TypeId) (hg : w.heap[g]? = some (.cells cur.toArray t (0, 0))) (hfit : off + min l.length dLen ≤ cur.length)
    (h : ∀ w', Hid (w'.heap[g]? = some (.cells (splice cur off (vals8 (l.take dLen))).toArray t (0, 0))) → Hid (Keeps (fun q => q = g) w w') → wpList P ops Q rest (a.put o.dst (goInt ((min l.length dLen : Nat) : Int))) w') :
    wpList P ops Q (o :: rest) a w := by
  by_cases h0 : min l.length dLen = 0
  · have e0 : l.take dLen = [] := List.eq_nil_of_length_eq_zero (by rw [List.length_take]; omega)
    obtain ⟨sp, sc, hv⟩ : ∃ sp sc, v = .slice sp l.length sc := by
      rcases hsl with ⟨rfl, rfl⟩ | ⟨ad, c, rfl, -⟩
      · exact ⟨_, _, rfl⟩
      · exact ⟨_, _, rfl⟩
    refine wpList_copy_nothing hgd d s dT sT ho elem hu hsz _ sp dLen dCap l.length sc hd (hs.trans hv) h0 ?_
    have := h w (Lib.hid (by rw [e0]; show _ = some (Obj.cells (splice cur off []).toArray t (0, 0)); rw [splice_nil]; exact hg)) (Lib.hid (Keeps.refl _ w))
    rw [h0] at this
    exact this
  · rcases hsl with ⟨rfl, rfl⟩ | ⟨ad, c, rfl, h1, h2, hc⟩
    · exact absurd (Nat.zero_min _) h0
    · have hl : (vals8 (l.take dLen)).length = min l.length dLen := by rw [vals8_len, List.length_take, Nat.min_comm]
      refine wpList_copy_own hgd d s dT sT ho elem hu hsz g off dLen dCap ad l.length c hd hs cur.toArray t hg (vals8 (l.take dLen)) hl (fun j u hu => hc j u ?_) (by rw [hl]; simpa using hfit) (vals8_one _) ?_
      · unfold vals8 at hu ⊢
        rw [List.map_take, List.getElem?_take] at hu
        split at hu
        · exact hu
        · cases hu
      · have := h _ (Lib.hid (row_heap (cs := (splice cur off (vals8 (l.take dLen))).toArray) hg)) (Lib.hid ((Keeps.refl (fun q => q = g) w).setRow (p := g) (Or.inl rfl) _))
        unfold splice at this
        rw [hl] at this ⊢
        exact this
end Go.Proofs.Ytlafnkcmdnfcpaa
