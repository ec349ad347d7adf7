/-
  A slice of bytes from a place on, as a value.
-/
import Derived.Test.YtaapglpnofmmlaaLawR
import Derived.Test.YtaapglpnofmmlaaHeld
namespace Go.Proofs.Ytaapglpnofmmlaa
open Go Go.RowKit
/-- v[k:] -/
def cutV (p : Option Addr) (n c k : Nat) : Value := .slice (if c = k then p else p.map (·.add (k * 1))) (n - k) (c - k)
theorem infoByteSize : (Try.prog.info? 5).map (·.size) = some 1 := by kernel_rfl
theorem exec_cutV {o : Oper} {a : Act} {p : Option Addr} {n c k : Nat} (x lo : Operand) (ho : o.op = .slice 22 x (some lo) none none) (hx : a.eval x = .slice p n c) (hlo : a.eval lo = .int .i64 (k : Int)) (hk : k ≤ n) (w : World) :
    (execOp a.eval o).run Try.prog w = .ok (.value (cutV p n c k)) w := by
  obtain ⟨i0, hi, hz⟩ := Option.map_eq_some_iff.1 infoByteSize
  have h0 : (0 : Int) ≤ (k : Int) := by omega
  unfold execOp
  simp [ho, hx, hlo, Instr.sliceAt, Instr.slice, run_underlying Try.underlying22, Instr.sliceBounds, Instr.sliceBound, asIntOf, sizeOf, typeInfo, hi, hz, h0, cutV]
  intro h; omega
theorem SlB.cutV {w : World} {p : Option Addr} {n c k : Nat} {l : List UInt8} (h : SlB w (.slice p n c) l) (hn : n = l.length) (hk : k ≤ n) : SlB w (cutV p n c k) (l.drop k) := by
  unfold Go.Proofs.Ytaapglpnofmmlaa.cutV
  rcases Nat.eq_zero_or_pos n with h0 | h0
  · have hl : l = [] := List.eq_nil_of_length_eq_zero (by omega)
    have hk0 : k = 0 := by omega
    subst hl hk0 h0
    rcases h with ⟨he, -⟩ | ⟨ad, c', he, h1, h2, hc⟩
    · injection he with e1 e2 e3
      subst e1 e3
      exact Or.inl ⟨rfl, rfl⟩
    · injection he with e1 e2 e3
      subst e1 e3
      refine Or.inr ⟨ad, c, ?_, Nat.zero_le _, h2, fun j u hu => by simp [vals8] at hu⟩
      simp [Addr.add_zero']
  · obtain ⟨b', o', c', he, h1, h2, h4, h3⟩ := h.form (by omega)
    injection he with e1 e2 e3
    subst e1 e3
    have hl : (l.drop k).length = n - k := by rw [List.length_drop]; omega
    by_cases hck : c = k
    · rw [if_pos hck]
      have hnk : n - k = 0 := by omega
      have hd : l.drop k = [] := List.eq_nil_of_length_eq_zero (by omega)
      rw [hnk, hd]
      exact Or.inr ⟨_, _, rfl, Nat.zero_le _, by omega, fun j u hu => by simp [vals8] at hu⟩
    · rw [if_neg hck, Nat.mul_one, Option.map_some, Addr.add_lit]
      have := SlB.of (w := w) (b := b') (o := o' + k) (c := c - k) (l := l.drop k) (by omega) (by omega) (fun i hi => by
        rw [Nat.add_assoc, h3 (k + i) (by omega)]
        simp [List.getD, List.getElem?_drop])
      rwa [hl] at this
end Go.Proofs.Ytaapglpnofmmlaa
