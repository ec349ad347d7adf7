/-
  Contract: spec.SameAnswers.
-/
import Derived.Test.YtdkhpehniciijaaTold
import Derived.BigQuiet
namespace Go.Proofs.Ytdkhpehniciijaa
open Go Go.RowKit
attribute [local irreducible] tagK
def SameRel (w : World) (va vb : Value) (ps qs : List (Value × An)) (i : Value) (wr : World) : Prop :=
  ∃ k : Nat, k ≤ ps.length ∧ i = .int .i64 k ∧ AnsL wr va ps ∧ AnsL wr vb qs ∧ Fresh w wr
set_option maxRecDepth 100000 in
set_option maxHeartbeats 2000000 in
theorem SameAnswers_c (va vb : Value) (ps qs : List (Value × An)) (w : World) (ha : AnsL w va ps) (hb : AnsL w vb qs) (he : ps.map (·.2) = qs.map (·.2)) :
    Calls Try.prog 23 #[va, vb] w fun e w' => e = .returned (.bool true) ∧ Fresh w w' := by
  have hlen : ps.length = qs.length := by have := congrArg List.length he; simpa using this
  obtain ⟨pa, ca, rfl⟩ := ha.shape
  obtain ⟨pb, cb, rfl⟩ := hb.shape
  rw [← hlen] at hb ⊢
  have HA := Lib.hid ha
  have HB := Lib.hid hb
  have HE := Lib.hid he
  have HLE := Lib.hid hlen
  have hmx : ps.length ≤ 9223372036854775807 := by
    rcases ha.1 with ⟨-, rfl⟩ | ⟨g, o, c, -, h1, h2, -⟩
    · simp
    · simp only [maxLen] at h2; omega
  clear ha hb he hlen
  go_enter Try.func23, Try.ntmps23
  go_wp2_with fail
  go_loopw [13] (fun i wr => SameRel w (.slice pa ps.length ca) (.slice pb ps.length cb) ps qs i wr) (fun i _ => ps.length - (intOf i).toNat)
  case atStart => exact ⟨0, Nat.zero_le _, rfl, HA.out, HB.out, Keeps.refl _ _⟩
  case round =>
    clear HA HB
    obtain ⟨k, hk, rfl, ha, hb, hf⟩ := hrel
    have HF := Lib.hid hf
    clear hf
    by_cases hlt : k < ps.length
    · obtain ⟨⟨v1, a⟩, hp⟩ : ∃ p, ps[k]? = some p := ⟨_, List.getElem?_eq_getElem hlt⟩
      obtain ⟨⟨v2, a2⟩, hq⟩ : ∃ p, qs[k]? = some p := ⟨_, List.getElem?_eq_getElem (by rw [← HLE.out]; exact hlt)⟩
      have hae : a2 = a := by
        have := congrArg (fun l => l[k]?) HE.out
        simp only [List.getElem?_map, hp, hq, Option.map_some, Option.some.injEq] at this
        exact this.symm
      subst hae
      obtain ⟨g1, o1, c1, e1, -, -, l1⟩ := ha.form (by omega)
      have hb' := hb
      obtain ⟨g2, o2, c2, e2, -, -, l2⟩ := hb'.form (by rw [← HLE.out]; omega)
      injection e1 with e1 e1n e1'
      injection e2 with e2 e2n e2'
      clear e1n e2n
      subst e1 e1' e2 e2'
      obtain ⟨x0, x1, x2, x3⟩ := AnsL.at l1 hp
      obtain ⟨y0, y1, y2, y3⟩ := AnsL.at l2 hq
      have hs1 : SlB wr v1 a2.bytes := ha.2 _ (List.mem_of_getElem? hp)
      have hs2 : SlB wr v2 a2.bytes := hb.2 _ (List.mem_of_getElem? hq)
      have q1 := fun n => run_strB (wr.drewN n) _ _ (hs1.fresh ((Keeps.refl _ wr).drewN n))
      have q2 := fun n => run_strB (wr.drewN n) _ _ (hs2.fresh ((Keeps.refl _ wr).drewN n))
      have HAA := Lib.hid ha
      have HBB := Lib.hid hb
      obtain ⟨ab, an, ai, af⟩ := a2
      simp only at x0 x1 x2 x3 y0 y1 y2 y3 q1 q2
      clear ha hb hb' hs1 hs2 hp hq l1 l2
      go_wp2_with fail
      go_quiet (fail)
      go_wp2_with fail
      go_roundw
      case rel => exact ⟨k + 1, by omega, by go_num, HAA.out.fresh ((Keeps.refl _ wr).drewN _), HBB.out.fresh ((Keeps.refl _ wr).drewN _), HF.out.drewN _⟩
      case measure => simp [intOf]; omega
    · have hks : k = ps.length := by omega
      clear ha hb
      go_wp2_with fail
      go_ret
      exact ⟨rfl, HF.out⟩
end Go.Proofs.Ytdkhpehniciijaa
