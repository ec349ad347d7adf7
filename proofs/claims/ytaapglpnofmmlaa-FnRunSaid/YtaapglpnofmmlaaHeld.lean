/-
  A region that draws its order, walked step by step: where more than one operation may come next, on every way.
-/
import Derived.Test.YtaapglpnofmmlaaOrd
namespace Go.Proofs.Ytaapglpnofmmlaa
open Go
section
variable {P : Program} {ops : Array Oper} {C : World → Prop} {Q : Exit → Act → World → Prop}
/-- n operations are left -/
def WA (P : Program) (ops : Array Oper) (C : World → Prop) (Q : Exit → Act → World → Prop) (n : Nat) (listed : Array Bool) (a : Act) (w : World) : Prop := wpAnyH P .any ops (NoPanic Q) C n listed a w
/-- THE LAW. -/
theorem wp_region_wa (C : World → Prop) {id : Nat} {a : Act} {w : World} (n : Nat) (hn : ops.size = n) (hm : P.follows .mixedOrders = true) (h : WA P ops C Q n (Array.replicate n false) a w.drew) : (Code.region id ops true).wp P Q a w := by
  subst hn
  exact wp_region_noPanic (wp_region_held (S := C) hm h)
variable {n : Nat} {listed : Array Bool} {a : Act} {w : World} {o : Oper}
theorem wa_done (hr : (Region.ready .any ops listed).isEmpty = true) (h : Q .normal a w) : WA P ops C Q n listed a w :=
  wpAnyH_done (by simpa using hr) (NoPanic.normal h) _
theorem wa_quiet (i : Nat) (hc : (Region.noSelect ops && Region.free .any ops listed i && (Region.ready .any ops listed).contains i) = true) (ho : ops[i]? = some o) (hC : C w)
    (h : ∀ K : Act → Prop, (∀ a', WA P ops C Q n (listed.setIfInBounds i true) a' w → K a') →
      if Region.wanted o (yielded ops a.tmps) then (∃ v, (∀ w', (execOp a.eval o).run P w' = .ok (.value v) w') ∧ K (a.put o.dst v)) else K (a.put o.dst undef)) : WA P ops C Q (n + 1) listed a w := by
  simp only [Bool.and_eq_true] at hc
  have := h _ (fun _ h => h)
  by_cases hw : Region.wanted o (yielded ops a.tmps) = true
  · rw [if_pos hw] at this
    obtain ⟨v, hv, hk⟩ := this
    exact wpAnyH_take ho hc.1.1 hc.1.2 hc.2 (fun _ _ _ h => (h : False).elim) (.inl ⟨hw, fun w' _ => hv w'⟩) hC hk
  · rw [if_neg hw] at this
    exact wpAnyH_take ho hc.1.1 hc.1.2 hc.2 (fun _ _ _ h => (h : False).elim) (.inr ⟨by simpa using hw, rfl⟩) hC this
theorem wa_load (i : Nat) (v : Value) (hc : (Region.noSelect ops && Region.free .any ops listed i && (Region.ready .any ops listed).contains i) = true) (ho : ops[i]? = some o) (hC : C w)
    (hg : Region.wanted o (yielded ops a.tmps) = true) (hv : ∀ w', C w' → (execOp a.eval o).run P w' = .ok (.value v) w') (h : WA P ops C Q n (listed.setIfInBounds i true) (a.put o.dst v) w) : WA P ops C Q (n + 1) listed a w := by
  simp only [Bool.and_eq_true] at hc
  exact wpAnyH_take ho hc.1.1 hc.1.2 hc.2 (fun _ _ _ h => (h : False).elim) (.inl ⟨hg, hv⟩) hC h
/-- one of these comes next -/
theorem wa_all (L : List Nat) (hr : Region.ready .any ops listed = L) (hne : L ≠ []) (h : ∀ i, i ∈ L → wpOp P ops (NoPanic Q) i (fun a' w' => C w' ∧ WA P ops C Q n (listed.setIfInBounds i true) a' w') a w) : WA P ops C Q (n + 1) listed a w :=
  wpAnyH_all hr hne h
theorem wa_loud {i : Nat} {l : Array Bool} (ho : ops[i]? = some o) (h : ∀ K : Act → World → Prop, (∀ a' w', C w' → WA P ops C Q n l a' w' → K a' w') → wpList P ops (Exit.then K (NoPanic Q)) [o] a w) :
    wpOp P ops (NoPanic Q) i (fun a' w' => C w' ∧ WA P ops C Q n l a' w') a w := by
  have := h _ (fun a' w' hc hn => (⟨hc, hn⟩ : C w' ∧ WA P ops C Q n l a' w'))
  unfold wpOp
  simp only [ho]
  unfold wpList at this
  split
  · rename_i hw
    rw [if_pos hw] at this
    rcases this with h1 | ⟨h1, a₀, w₀, h2⟩
    · refine .inl ?_
      unfold Oper.wp at h1 ⊢
      generalize (execOp a.eval o).run P w = res at h1 ⊢
      cases res with
      | ok n w' =>
        cases n <;> simp only [Oper.upon] at h1 ⊢ <;> exact h1
      | halt x w' => cases x <;> simp only [Oper.upon] at h1 ⊢ <;> exact h1
    · exact .inr ⟨h1, a₀, w₀, h2⟩
  · rename_i hw
    rw [if_neg hw] at this
    exact this
end
end Go.Proofs.Ytaapglpnofmmlaa
