/-
  A region that draws its order: first operations that are quiet in a class of worlds, in whatever order; behind them a tail whose order is forced (a store, an append, a writing call). One walk of the order of the text serves every order.
-/
import Derived.Deep.Quiet
import Derived.StillTail
namespace Go.Proofs.Ytlafnkcmdnfcpaa
open Go
theorem cell_setCell_map (w : World) (p : Addr) (v : Value) : (w.setCell p v).cell? p = (w.cell? p).map fun _ => v := by
  cases h : w.cell? p with
  | some u => simpa using World.cell?_setCell_same w p v h
  | none =>
    have key : ∀ o : Option Obj, o = w.heap[p.block]? → (w.setCell p v).cell? p = none := by
      intro o ho
      simp only [World.setCell, World.cell?, Array.getElem?_modify, if_true] at h ⊢
      rw [← ho] at h ⊢
      cases o with
      | none => rfl
      | some ob =>
        cases ob with
        | cells c e f =>
          simp only [Option.map_some] at h ⊢
          by_cases hs : p.spot.isSome = true
          · simp [hs]
          · simp only [hs, if_false, Bool.false_eq_true] at h ⊢
            simpa using h
        | _ => rfl
    simpa using key _ rfl
attribute [go_sem] cell_setCell_map
section
variable {P : Program} {ops : Array Oper} {md : Region.Mode} {C : World → Prop}

/-- From here on whatever comes up among the first n is quiet; when f of them have come up, L holds. -/
def headQ (P : Program) (md : Region.Mode) (ops : Array Oper) (C : World → Prop) (n : Nat) (L : Array Bool → Act → Prop) : Nat → Array Bool → Act → Prop
  | 0, listed, a => L listed a
  | f + 1, listed, a => Region.ready md ops listed ≠ [] ∧
      ∀ i, i ∈ Region.ready md ops listed → i < n ∧ qOp P ops C i (fun a' => headQ P md ops C n L f (listed.setIfInBounds i true) a') a

theorem any_of_headQ {n g : Nat} {L : Array Bool → Act → Prop} {Q : Exit → Act → World → Prop}
    (hL : ∀ listed a w, C w → L listed a → wpAny P md ops Q g listed a w) :
    ∀ (f : Nat) (listed : Array Bool) (a : Act) (w : World), C w → headQ P md ops C n L f listed a → wpAny P md ops Q (f + g) listed a w := by
  intro f
  induction f with
  | zero => intro listed a w hw h; rw [Nat.zero_add]; exact hL listed a w hw h
  | succ f ih =>
    intro listed a w hw h
    have e : f + 1 + g = (f + g) + 1 := by omega
    rw [e]
    exact ⟨fun h0 => (h.1 h0).elim, fun i hi => wpOp_of_qOp hw (fun a' w' hw' hq => ih _ a' w' hw' hq) (h.2 i hi).2⟩

/-- What is ready now and yields its value in every world of the class may be taken first. -/
theorem headQ_take {n i : Nat} {oi : Oper} {v : Value} {L : Array Bool → Act → Prop} (hi : ops[i]? = some oi)
    (hsel : ∀ (j : Nat) (o : Oper) cs b, ops[j]? = some o → o.op ≠ .select cs b)
    (hs : Region.sinkB md ops n = true) (hc : Region.chainB md ops n = true) (hn : n < ops.size) (hin : i < n)
    (hL : ∀ listed a, L listed a → ∀ j, j ∈ Region.ready md ops listed → n ≤ j) :
    ∀ (f : Nat) (listed : Array Bool) (a : Act), HeadInv md ops n listed →
      (∀ j oj, ops[j]? = some oj → j ≠ i → listed.getD j true = false → (∀ e ∈ oj.after, Region.binds md e = true → e.on ≠ i) → oi.apart ops oj = true) →
      i ∈ Region.ready md ops listed → YieldsIn P ops C oi v a →
      headQ P md ops C n L f (listed.setIfInBounds i true) (a.put oi.dst v) → headQ P md ops C n L (f + 1) listed a := by
  intro f
  induction f with
  | zero =>
    intro listed a inv _ hr hy H
    have hun := (mem_ready.1 hr).1
    refine ⟨fun h => (by rw [h] at hr; cases hr), fun j hj => ?_⟩
    have hjn : j < n := by
      by_cases h : j < n
      · exact h
      · exact (tail_waits hs hc hn inv _ i rfl hin hun j (by omega) hj).elim
    refine ⟨hjn, ?_⟩
    by_cases hji : j = i
    · subst hji; exact hy.qOp hi H
    · have := hL _ _ H j (ready_mono hj hji)
      omega
  | succ f ih =>
    intro listed a inv hfree hr hy H
    have hun := (mem_ready.1 hr).1
    refine ⟨fun h => (by rw [h] at hr; cases hr), fun j hj => ?_⟩
    have hjn : j < n := by
      by_cases h : j < n
      · exact h
      · exact (tail_waits hs hc hn inv _ i rfl hin hun j (by omega) hj).elim
    refine ⟨hjn, ?_⟩
    by_cases hji : j = i
    · subst hji; exact hy.qOp hi H
    · obtain ⟨hjun, oj, hoj, hall⟩ := mem_ready.1 hj
      have hnot : ∀ e ∈ oj.after, Region.binds md e = true → e.on ≠ i := by
        intro e he hb heq
        have h1 := hall e he hb
        rw [heq, getD_both hun] at h1
        cases h1
      have h2 := qOp_put hoj (hfree j oj hoj hji hjun hnot) (fun cs b => hsel i oi cs b hi) (fun cs b => hsel j oj cs b hoj) hy (H.2 j (ready_mono hj hji)).2
      refine qOp_mono (fun a' h3 => ih (listed.setIfInBounds j true) a' (inv.set hj hjn) ?_ (ready_mono hr (Ne.symm hji)) h3.1 ?_) h2
      · intro k ok hk hki hkun hno
        refine hfree k ok hk hki ?_ hno
        by_cases hjk : j = k
        · subst hjk; exact hjun
        · rw [getD_set_ne true hjk] at hkun; exact hkun
      · rw [Array.setIfInBounds_comm _ _ hji]
        exact h3.2

theorem headQ_lex {n g : Nat} {Lq : Act → Prop} (hsel : Region.noSelect ops = true) (hs : Region.sinkB md ops n = true) (hc : Region.chainB md ops n = true) (hn : n < ops.size)
    (l : List Oper) : ∀ (k : Nat) (listed : Array Bool) (a : Act), (∀ j, j < l.length → l[j]? = ops[k + j]?) → k + l.length = n → HeadInv md ops n listed →
    Region.lexHead md ops g l.length k listed = true → wpQuiet P ops C Lq l a →
    headQ P md ops C n (fun listed' a' => Region.seqB md ops g n listed' = true ∧ Lq a') l.length listed a := by
  induction l with
  | nil =>
    intro k listed a _ hk _ hB h
    obtain rfl : k = n := by simpa using hk
    exact ⟨by simpa [Region.lexHead] using hB, h⟩
  | cons o l ih =>
    intro k listed a hl hk inv hB h
    have h0 : ops[k]? = some o := by simpa using (hl 0 (by simp)).symm
    simp only [List.length_cons] at hk
    simp only [List.length_cons, Region.lexHead, Bool.and_eq_true] at hB
    obtain ⟨⟨hr, hf⟩, hB'⟩ := hB
    have hr' : k ∈ Region.ready md ops listed := by simpa using hr
    have hq : qOp P ops C k (fun a' => wpQuiet P ops C Lq l a') a := by unfold qOp; simp only [h0]; exact h
    obtain ⟨v, hy, hK⟩ := yieldsIn_of_qOp h0 hq
    refine headQ_take h0 (Region.noSelect_spec hsel) hs hc hn (by omega) (fun listed' a' hL => seqB_ready hL.1) l.length listed a inv (Region.free_spec h0 hf) hr' hy ?_
    refine ih (k + 1) _ _ (fun j hj => ?_) (by omega) (inv.set hr' (by omega)) hB' hK
    have := hl (j + 1) (by simp; omega)
    simpa [Nat.add_assoc, Nat.add_comm 1 j] using this

/-- THE LAW: n operations quiet in the class C, then the tail, in every world of the class. -/
theorem wp_region_tail (C : World → Prop) {id : Nat} {Q : Exit → Act → World → Prop} {a : Act} {w : World} {l : List Oper} (n : Nat)
    (hm : P.follows .mixedOrders = true) (hB : Region.lexTailB .any l.toArray n = true) (hC : C w.drew)
    (h : wpQuiet P l.toArray C (fun a' => ∀ w', C w' → wpList P l.toArray Q (l.drop n) a' w') (l.take n) a) : (Code.region id l.toArray true).wp P Q a w := by
  simp only [Region.lexTailB, Bool.and_eq_true, decide_eq_true_eq] at hB
  obtain ⟨⟨⟨⟨hsel, hn⟩, hs⟩, hc⟩, hlex⟩ := hB
  have hn' : n < l.length := by simpa using hn
  have htl : (l.take n).length = n := by simp; omega
  have hdl : (l.drop n).length = l.toArray.size - n := by simp
  have inv0 : HeadInv .any l.toArray n (Array.replicate l.toArray.size false) :=
    ⟨by simp, fun j oj _ hl => (by rw [getD_replicate_false] at hl; cases hl), fun t _ ht => getD_in (by simpa using ht) (getD_replicate_false _ _)⟩
  have H := headQ_lex (md := .any) (g := l.toArray.size - n) hsel hs hc hn (l.take n) 0 _ a
    (fun j hj => by
      have hj' : j < n := by rw [htl] at hj; exact hj
      simp [hj'])
    (by simpa using htl) inv0 (by rw [htl]; exact hlex) h
  refine wp_region_any hm ?_
  rw [htl] at H
  have hfin := any_of_headQ (Q := Q) (g := l.toArray.size - n) (fun listed a' w' hw' hLa => by
    rw [← hdl]
    exact wpAny_of_seq (l.drop n) n listed a' w' (fun j => by simp) (by rw [hdl]; exact hLa.1) (hLa.2 w' hw')) n _ a w.drew hC H
  have e : n + (l.toArray.size - n) = l.toArray.size := by omega
  rw [e] at hfin
  exact hfin
/-- The same, the class being 'after some draws'. -/
theorem wp_region_tailD {id : Nat} {Q : Exit → Act → World → Prop} {a : Act} {w : World} {l : List Oper} (n : Nat)
    (hm : P.follows .mixedOrders = true) (hB : Region.lexTailB .any l.toArray n = true)
    (h : wpQuiet P l.toArray (fun w' => ∃ m, w' = w.drewN m) (fun a' => ∀ w', (∃ m, w' = w.drewN m) → wpList P l.toArray Q (l.drop n) a' w') (l.take n) a) : (Code.region id l.toArray true).wp P Q a w :=
  wp_region_tail (fun w' => ∃ m, w' = w.drewN m) n hm hB ⟨1, rfl⟩ h
end
end Go.Proofs.Ytlafnkcmdnfcpaa
