/-
  Contract: impl.Derive.
-/
import Derived.Test.YtlafnkcmdnfcpaaDerive
namespace Go.Proofs.Ytlafnkcmdnfcpaa
open Go Go.RowKit
attribute [local irreducible] Cha.iter Cha.rounds Cha.dbl Cha.qr
def RetNoB (w : World) (e : Ending) (w' : World) : Prop := e = .returned (.tuple #[.slice none 0 0, .bool false]) ∧ Fresh w w'
def RetYesB (w : World) (l : List UInt8) (e : Ending) (w' : World) : Prop := ∃ v, e = .returned (.tuple #[v, .bool true]) ∧ OwnB 5 w' w.heap.size v l ∧ Fresh w w'
theorem derive_bad (v1 v2 : Value) (l1 l2 : List UInt8) (w : World) (h1 : SlB w v1 l1) (h2 : SlB w v2 l2) (b1 : l1.length ≤ 140737488353280) (b2 : l2.length ≤ 140737488353280) (h : ¬ l1.length = 32 ∨ ¬ l2.length = 16) :
    Calls Try.prog 26 #[v1, v2] w (RetNoB w) := by
  have H1 := Lib.hid h1
  have H2 := Lib.hid h2
  have HH := Lib.hid h
  clear h1 h2 h
  go_enter Try.func26, Try.ntmps26
  go_wp2_with fail
  refine (copied_c v1 l1 _ H1.out b1).mono ?_
  rintro e w1 ⟨u1, rfl, ho1, hf1⟩
  have HF1 := Lib.hid hf1
  obtain ⟨a1, c1, rfl⟩ := ho1.slice
  clear hf1 ho1
  go_wp2_with fail
  refine (copied_c v2 l2 _ (H2.out.fresh HF1.out) b2).mono ?_
  rintro e w2 ⟨u2, rfl, ho2, hf2⟩
  have HF2 := Lib.hid hf2
  obtain ⟨a2, c2, rfl⟩ := ho2.slice
  clear hf2 ho2
  go_wp2_with fail
  refine (HCC_bad a1 a2 l1.length c1 l2.length c2 _ HH.out).mono ?_
  rintro e w3 ⟨x, rfl, hf3⟩
  have HF3 := Lib.hid hf3
  clear hf3
  go_wp2
  go_ret2
  exact ⟨rfl, (HF1.out.trans HF2.out).trans HF3.out⟩
theorem derive_good (v1 v2 : Value) (l1 l2 : List UInt8) (w : World) (h1 : SlB w v1 l1) (h2 : SlB w v2 l2) (b1 : l1.length = 32) (b2 : l2.length = 16) :
    Calls Try.prog 26 #[v1, v2] w (RetYesB w (hashL l1 l2)) := by
  have H1 := Lib.hid h1
  have H2 := Lib.hid h2
  have L1 := Lib.hid b1
  have L2 := Lib.hid b2
  clear h1 h2 b1 b2
  go_enter Try.func26, Try.ntmps26
  go_wp2_with fail
  refine (copied_c v1 l1 _ H1.out (by rw [L1.out]; decide)).mono ?_
  rintro e w1 ⟨u1, rfl, ho1, hf1⟩
  have HF1 := Lib.hid hf1
  have HO1 := Lib.hid ho1
  clear hf1 ho1
  go_wp2_with fail
  refine (copied_c v2 l2 _ (H2.out.fresh HF1.out) (by rw [L2.out]; decide)).mono ?_
  rintro e w2 ⟨u2, rfl, ho2, hf2⟩
  have HF2 := Lib.hid hf2
  obtain ⟨g1, o1, c1, e1, k1, _, _, q1⟩ := ((HO1.out.sl).fresh hf2).form (by rw [L1.out]; decide)
  obtain ⟨g2, o2, c2, e2, k2, _, _, q2⟩ := (ho2.sl).form (by rw [L2.out]; decide)
  rw [L1.out] at e1 k1
  rw [L2.out] at e2 k2
  subst e1 e2
  have Q1 := Lib.hid q1
  have Q2 := Lib.hid q2
  clear hf2 ho2 q1 q2
  go_wp2_with fail
  refine (HCC_good g1 o1 c1 g2 o2 c2 l1 l2 _ L1.out L2.out Q1.out Q2.out (by omega) (by omega)).mono ?_
  rintro e w3 ⟨v3, rfl, ho3, hf3⟩
  have HF3 := Lib.hid hf3
  have HO3 := Lib.hid ho3
  clear hf3 ho3
  go_wp2
  go_ret2
  exact ⟨v3, rfl, OwnB.mono HO3.out (Nat.le_trans HF1.out.size HF2.out.size), (HF1.out.trans HF2.out).trans HF3.out⟩
end Go.Proofs.Ytlafnkcmdnfcpaa
