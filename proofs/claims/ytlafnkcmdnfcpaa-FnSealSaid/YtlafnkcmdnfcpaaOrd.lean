/-
  A region that draws its order, walked in one order that is written out: each operation that yields the same in every world of a class may be taken as soon as it is ready; each other one must be the only one that is ready.
-/
import Derived.Test.YtlafnkcmdnfcpaaTail
import Derived.Deep.RegionHeld3
namespace Go.Proofs.Ytlafnkcmdnfcpaa
open Go
section
variable {P : Program} {ops : Array Oper} {C : World → Prop} {Q : Exit → Act → World → Prop}

/-- may the region be walked in this order? -/
def ordB (ops : Array Oper) : List (Nat × Bool) → Array Bool → Bool
  | [], listed => (Region.ready .any ops listed).isEmpty
  | (i, true) :: r, listed => (Region.ready .any ops listed).contains i && Region.free .any ops listed i && ordB ops r (listed.setIfInBounds i true)
  | (i, false) :: r, listed => decide (Region.ready .any ops listed = [i]) && ordB ops r (listed.setIfInBounds i true)
/-- the walk in this order -/
def wpOrd (P : Program) (ops : Array Oper) (C : World → Prop) (Q : Exit → Act → World → Prop) : List (Nat × Bool) → Act → World → Prop
  | [], a, w => Q .normal a w
  | (i, true) :: r, a, w => ∃ o v, ops[i]? = some o ∧ YieldsIf P ops C o v a ∧ wpOrd P ops C Q r (a.put o.dst v) w
  | (i, false) :: r, a, w => wpOp P ops Q i (fun a' w' => C w' ∧ wpOrd P ops C Q r a' w') a w

theorem held_of_ord (hs : Region.noSelect ops = true) (hQ : ∀ c a a' w, Q (.panic c) a w → Q (.panic c) a' w) :
    ∀ (ord : List (Nat × Bool)) (listed : Array Bool) (a : Act) (w : World), ordB ops ord listed = true → C w → wpOrd P ops C Q ord a w →
      wpAnyH P .any ops Q C ord.length listed a w := by
  intro ord
  induction ord with
  | nil =>
    intro listed a w hB _ h
    exact wpAnyH_done (by simpa [ordB] using hB) h _
  | cons x r ih =>
    intro listed a w hB hC h
    obtain ⟨i, q⟩ := x
    cases q with
    | true =>
      simp only [ordB, Bool.and_eq_true] at hB
      obtain ⟨o, v, ho, hy, hr⟩ := h
      exact wpAnyH_take ho hs hB.1.2 hB.1.1 (fun c a w h => hQ c _ _ w h) hy hC (ih _ _ _ hB.2 hC hr)
    | false =>
      simp only [ordB, Bool.and_eq_true, decide_eq_true_eq] at hB
      refine wpAnyH_all hB.1 (by simp) (fun j hj => ?_)
      have : j = i := by simpa using hj
      subst this
      exact wpOp_mono (fun a' w' hx => ⟨hx.1, ih _ _ _ hB.2 hx.1 hx.2⟩) h

/-- THE LAW. -/
theorem wp_region_ord (C : World → Prop) (ord : List (Nat × Bool)) {id : Nat} {a : Act} {w : World} (hm : P.follows .mixedOrders = true)
    (hB : (Region.noSelect ops && ordB ops ord (Array.replicate ops.size false) && (ord.length == ops.size)) = true) (hC : C w.drew)
    (h : wpOrd P ops C (NoPanic Q) ord a w.drew) : (Code.region id ops true).wp P Q a w := by
  simp only [Bool.and_eq_true, beq_iff_eq] at hB
  refine wp_region_noPanic (wp_region_held (S := C) hm ?_)
  have := held_of_ord (P := P) (C := C) (Q := NoPanic Q) hB.1.1 (fun _ _ _ _ h => (h : False).elim) ord (Array.replicate ops.size false) a w.drew hB.1.2 hC h
  rw [hB.2] at this
  exact this

section steps
variable {i : Nat} {r : List (Nat × Bool)} {a : Act} {w : World} {o : Oper}
theorem ord_done (h : Q .normal a w) : wpOrd P ops C Q [] a w := h
theorem ord_last (h : Q .normal a w) : wpOrd P ops C (NoPanic Q) [] a w := NoPanic.normal h
/-- what yields the same in whatever world -/
theorem ord_quiet (ho : ops[i]? = some o)
    (h : ∀ K : Act → Prop, (∀ a', wpOrd P ops C Q r a' w → K a') →
      if Region.wanted o (yielded ops a.tmps) then (∃ v, (∀ w', (execOp a.eval o).run P w' = .ok (.value v) w') ∧ K (a.put o.dst v)) else K (a.put o.dst undef)) :
    wpOrd P ops C Q ((i, true) :: r) a w := by
  have := h _ (fun _ h => h)
  by_cases hw : Region.wanted o (yielded ops a.tmps) = true
  · rw [if_pos hw] at this
    obtain ⟨v, hv, hk⟩ := this
    exact ⟨o, v, ho, .inl ⟨hw, fun w' _ => hv w'⟩, hk⟩
  · rw [if_neg hw] at this
    exact ⟨o, undef, ho, .inr ⟨by simpa using hw, rfl⟩, this⟩
/-- what yields the same in every world of the class: a load -/
theorem ord_load (v : Value) (ho : ops[i]? = some o) (hg : Region.wanted o (yielded ops a.tmps) = true) (hv : ∀ w', C w' → (execOp a.eval o).run P w' = .ok (.value v) w')
    (h : wpOrd P ops C Q r (a.put o.dst v) w) : wpOrd P ops C Q ((i, true) :: r) a w :=
  ⟨o, v, ho, .inl ⟨hg, hv⟩, h⟩
/-- what is the only one that is ready -/
theorem ord_loud (ho : ops[i]? = some o)
    (h : ∀ K : Act → World → Prop, (∀ a' w', C w' → wpOrd P ops C Q r a' w' → K a' w') → wpList P ops (Exit.then K Q) [o] a w) :
    wpOrd P ops C Q ((i, false) :: r) a w := by
  have := h _ (fun a' w' hc hn => (⟨hc, hn⟩ : C w' ∧ wpOrd P ops C Q r a' w'))
  unfold wpOrd wpOp
  simp only [ho]
  unfold wpList at this
  split
  · rename_i hw
    rw [if_pos hw] at this
    rcases this with h1 | ⟨h1, a₀, w₀, h2⟩
    · refine .inl ?_
      unfold Oper.wp at h1 ⊢
      generalize (execOp a.eval o).run P w = res at h1 ⊢
      cases res with
      | ok n w' =>
        cases n <;> simp only [Oper.upon] at h1 ⊢ <;> exact h1
      | halt x w' => cases x <;> simp only [Oper.upon] at h1 ⊢ <;> exact h1
    · exact .inr ⟨h1, a₀, w₀, h2⟩
  · rename_i hw
    rw [if_neg hw] at this
    exact this
end steps
end
end Go.Proofs.Ytlafnkcmdnfcpaa
