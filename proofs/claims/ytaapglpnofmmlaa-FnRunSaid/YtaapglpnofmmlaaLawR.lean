/-
  More scripts: what they leave; slices cut from bytes.
-/
import Derived.Test.YtaapglpnofmmlaaLawQ
namespace Go.Proofs.Ytaapglpnofmmlaa
open Go Go.RowKit
attribute [local irreducible] Cha.iter Cha.rounds Cha.dbl Cha.qr ckOf doA doN
theorem Ran.into2 (K : CK) (c : UInt32) (x y : List UInt8) (h : 64 * c.toNat + (x.length + y.length) ≤ endK) : Ran K [atS c, intoS x, intoS y] (xs (fun i => K.ks (64 * c.toNat + i)) (x ++ y)) := by
  unfold Ran
  rw [run_at _ _ _ _ (Nat.zero_le _), run_into _ _ _ _ (by omega), run_into _ _ _ _ (by omega), run_nil, xs_append]
  refine ⟨rfl, rfl, ?_⟩
  simp [outsB, Nat.add_assoc]
theorem Ran.place2 (K : CK) (c : UInt32) (x y : List UInt8) (h : 64 * c.toNat + (x.length + y.length) ≤ endK) : Ran K [atS c, placeS x, placeS y] (xs (fun i => K.ks (64 * c.toNat + i)) (x ++ y)) := by
  unfold Ran
  rw [run_at _ _ _ _ (Nat.zero_le _), run_place _ _ _ _ (by omega), run_place _ _ _ _ (by omega), run_nil, xs_append]
  refine ⟨rfl, rfl, ?_⟩
  simp [outsB, Nat.add_assoc]
theorem Ran.at2 (K : CK) (c d : UInt32) (s : List UInt8) (hcd : c.toNat ≤ d.toNat) (h : 64 * d.toNat + s.length ≤ endK) : Ran K [atS c, atS d, intoS s] (xs (fun i => K.ks (64 * d.toNat + i)) s) := by
  unfold Ran
  rw [run_at _ _ _ _ (Nat.zero_le _), run_at _ _ _ _ (by omega), run_into _ _ _ _ h, run_nil]
  refine ⟨rfl, rfl, ?_⟩
  simp [outsB]
theorem Ran.two (K : CK) (x y : List UInt8) (h : x.length + y.length ≤ endK) : Ran K [intoS x, intoS y] (xs K.ks (x ++ y)) := by
  unfold Ran
  rw [run_into _ _ _ _ (by omega), run_into _ _ _ _ (by omega), run_nil, xs_append]
  refine ⟨rfl, rfl, ?_⟩
  simp [outsB]
theorem Ran.room (K : CK) (c : UInt32) (s : List UInt8) (r : Nat) (h : 64 * c.toNat + s.length ≤ endK) : Ran K [atS c, ⟨0, 0, s, (r : Int)⟩] (xs (fun i => K.ks (64 * c.toNat + i)) s ++ fillB r) := by
  unfold Ran
  rw [run_at _ _ _ _ (Nat.zero_le _), run_room _ _ _ _ _ (by omega) h, run_nil]
  refine ⟨rfl, rfl, ?_⟩
  simp [outsB]
/-- the first k bytes -/
theorem SlB.cut {w : World} {p : Option Addr} {n c : Nat} {l : List UInt8} (h : SlB w (.slice p n c) l) (hn : n = l.length) {k : Nat} (hk : k ≤ n) : SlB w (.slice p k c) (l.take k) := by
  have hl : (l.take k).length = k := by rw [List.length_take]; omega
  rcases h with ⟨he, rfl⟩ | ⟨ad, c', he, h1, h2, hc⟩
  · injection he with e1 e2 e3
    subst e1 e3
    have : k = 0 := by simp at hn; omega
    subst this
    exact Or.inl ⟨rfl, by simp⟩
  · injection he with e1 e2 e3
    subst e1 e3
    refine Or.inr ⟨ad, c, by rw [hl], by rw [hl]; omega, h2, fun j u hu => hc j u ?_⟩
    unfold vals8 at hu ⊢
    rw [List.map_take, List.getElem?_take] at hu
    split at hu
    · exact hu
    · cases hu
theorem SlB.cap {w : World} {p : Option Addr} {n c : Nat} {l : List UInt8} (h : SlB w (.slice p n c) l) : n ≤ c := by
  rcases h with ⟨he, rfl⟩ | ⟨ad, c', he, h1, h2, hc⟩
  · injection he with e1 e2 e3
    omega
  · injection he with e1 e2 e3
    omega
/-- behind the first k bytes -/
theorem SlB.behind {w : World} {g o n c : Nat} {l : List UInt8} (h : SlB w (.slice (some ⟨g, o, none⟩) n c) l) (hn : n = l.length) {k : Nat} (hk : k < n) : SlB w (.slice (some ⟨g, o + k, none⟩) (n - k) (c - k)) (l.drop k) := by
  obtain ⟨b', o', c', he, h1, h2, -, h3⟩ := h.form (by omega)
  injection he with e1 e2 e3
  injection e1 with e1
  injection e1 with e1 e4 e5
  subst e1 e3 e4
  have hl : (l.drop k).length = n - k := by rw [List.length_drop]; omega
  have := SlB.of (w := w) (b := g) (o := o + k) (c := c - k) (l := l.drop k) (by omega) (by omega) (fun i hi => by
    rw [Nat.add_assoc, h3 (k + i) (by omega)]
    simp [List.getD, List.getElem?_drop])
  rwa [hl] at this
/-- within, of whatever number -/
theorem within2_c (c : UInt32) (n : Nat) (w : World) (hn : n ≤ 281474976710656) : Calls Try.prog 17 #[.int .u32 (u32 c), .int .i64 (n : Int)] w fun e w' => e = .returned (.bool (withinB c n)) ∧ w' = w := by
  by_cases h : n ≤ 140737488355328
  · exact within_c c n w h
  · have i1 : ¬ (n : Int) ≤ 1048576 := by omega
    have hw : withinB c n = false := decide_eq_false (fun h => by have := h.1; omega)
    rw [hw]
    clear h
    go_enter Try.func17, Try.ntmps17
    go_wp2_with fail
    go_ret
    exact ⟨rfl, rfl⟩
end Go.Proofs.Ytaapglpnofmmlaa
