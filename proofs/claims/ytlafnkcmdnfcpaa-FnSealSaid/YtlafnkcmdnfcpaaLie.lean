/-
  Cells that lie in memory; owned rows, kept.
-/
import Derived.Test.YtlafnkcmdnfcpaaMem
namespace Go.Proofs.Ytlafnkcmdnfcpaa
open Go Go.RowKit
/-- cells lie in memory from an address on -/
def Lie (w : World) (ad : Addr) (vs : List Value) : Prop := ∀ (j : Nat) (u : Value), vs[j]? = some u → w.cell? (ad.add j) = some u
theorem Lie.keeps {S : Nat → Prop} {w w' : World} {ad : Addr} {vs : List Value} (h : Lie w ad vs) (hk : Keeps S w w') (hs : ad.block < w.heap.size → ¬ S ad.block) : Lie w' ad vs := by
  intro j u hu
  have hb : (ad.add j).block = ad.block := by unfold Addr.add; split <;> rfl
  have hc := h j u hu
  have := World.block_lt_of_cell? w _ hc
  rw [hb] at this
  exact hk.cellAt hc (by rw [hb]; exact hs this)
theorem Lie.fresh {w w' : World} {ad : Addr} {vs : List Value} (h : Lie w ad vs) (hk : Fresh w w') : Lie w' ad vs := h.keeps hk (fun _ x => x)
theorem plain_of_cell {w : World} {ad : Addr} {u : Value} (h : w.cell? ad = some u) : ad.spot = none := by
  obtain ⟨b, o, sp⟩ := ad
  cases sp with
  | none => rfl
  | some x => unfold World.cell? at h; split at h <;> simp at h
theorem OwnB.kept' {T : TypeId} {S : Nat → Prop} {w w' : World} {base : Nat} {v : Value} {l : List UInt8} (h : OwnB T w base v l) (hk : Keeps S w w') (hs : ∀ k, v.ownBlock = some k → ¬ S k) : OwnB T w' base v l := by
  obtain ⟨h1, h2⟩ := h
  refine ⟨h1, ?_⟩
  rcases h2 with h2 | ⟨g, cap, cur, rfl, hb, hg, r⟩
  · exact Or.inl h2
  · exact Or.inr ⟨g, cap, cur, rfl, hb, hk.at hg (hs g rfl), r⟩
theorem OwnB.apart {T T' : TypeId} {w : World} {base base' s n : Nat} {v v' : Value} {l : List UInt8} {xs : List Value} (h : OwnB T w base v l) (h' : w.ownsRow base' T' s v' n xs) (hT : T ≠ T') (k : Nat) (hk : v.ownBlock = some k) : v'.ownBlock ≠ some k := by
  intro hk'
  rcases h.2 with ⟨rfl, _⟩ | ⟨g, cap, cur, rfl, hb, hg, r⟩
  · cases hk
  · rcases h'.2 with ⟨rfl, _⟩ | ⟨g', cap', cur', rfl, hb', hg', r'⟩
    · cases hk'
    · cases hk
      cases hk'
      rw [hg] at hg'
      injection hg' with e
      injection e with e1 e2 e3
      exact hT e2
theorem ownsRow_keeps {T : TypeId} {S : Nat → Prop} {w w' : World} {base s n : Nat} {v : Value} {xs : List Value} (h : w.ownsRow base T s v n xs) (hk : Keeps S w w') (hs : ∀ k, v.ownBlock = some k → ¬ S k) : w'.ownsRow base T s v n xs := by
  obtain ⟨h1, h2⟩ := h
  refine ⟨h1, ?_⟩
  rcases h2 with h2 | ⟨g, cap, cur, rfl, hb, hg, r⟩
  · exact Or.inl h2
  · exact Or.inr ⟨g, cap, cur, rfl, hb, hk.at hg (hs g rfl), r⟩
theorem SlB.oneC {w : World} {v : Value} {l : List UInt8} (h : SlB w v l) : v.oneCell' = true := by
  rcases h with ⟨rfl, -⟩ | ⟨ad, c, rfl, -⟩ <;> rfl
end Go.Proofs.Ytlafnkcmdnfcpaa
