/-
  Contract: spec.minus.
-/
import Derived.Test.YtdkhpehniciijaaPlus
namespace Go.Proofs.Ytdkhpehniciijaa
open Go Go.RowKit
/-- the loop of minus -/
def MinusRel (w : World) (la lb : List Nat) (v q i : Value) (wr : World) : Prop :=
  ∃ (k c : Nat) (r : List Nat), i = .int .i64 k ∧ q = .int .i64 c ∧ c ≤ 1 ∧ k ≤ la.length ∧ r.length = k ∧ Dig.Small r ∧
    Dig.val r + Dig.val (lb.take k) = Dig.val (la.take k) + 256 ^ k * c ∧ OwnI wr w.heap.size v r ∧ Fresh w wr
theorem minus_next {w w1 : World} {la lb r : List Nat} {k c x y d c' : Nat} {v' : Value} (hr : r.length = k) (hsm : Dig.Small r) (hv : Dig.val r + Dig.val (lb.take k) = Dig.val (la.take k) + 256 ^ k * c)
    (hx : Dig.val (la.take (k + 1)) = Dig.val (la.take k) + 256 ^ k * x) (hy : Dig.val (lb.take (k + 1)) = Dig.val (lb.take k) + 256 ^ k * y)
    (hd : d < 256) (hc' : c' ≤ 1) (he : d + c + y = x + 256 * c') (hk : k < la.length) (ho : OwnI w1 w.heap.size v' (r ++ [d])) (hf : Fresh w w1) :
    MinusRel w la lb v' (.int .i64 (c' : Int)) (.int .i64 ((k : Int) + 1)) w1 := by
  refine ⟨k + 1, c', r ++ [d], rfl, rfl, hc', hk, by rw [List.length_append, hr]; rfl, small_snoc hsm hd, ?_, ho, hf⟩
  rw [val_snoc, hr, hx, hy, Nat.pow_succ]
  generalize 256 ^ k = P at *
  have e1 : P * d + P * c + P * y = P * x + P * 256 * c' := by rw [Nat.mul_assoc, ← Nat.mul_add, ← Nat.mul_add, ← Nat.mul_add, he]
  omega
set_option maxRecDepth 100000 in
set_option maxHeartbeats 2000000 in
theorem minus_c (va vb : Value) (la lb : List Nat) (w : World) (ha : SlI w va la) (hb : SlI w vb lb) (hsa : Dig.Small la) (hsb : Dig.Small lb) (hla : la.length ≤ 100000) (hlb : lb.length ≤ la.length) (hle : Dig.val lb ≤ Dig.val la) :
    Calls Try.prog 38 #[va, vb] w (RetI w (Dig.dig (Dig.val la - Dig.val lb))) := by
  have HA := Lib.hid ha
  have HBB := Lib.hid hb
  have HSA := Lib.hid hsa
  have HSB := Lib.hid hsb
  have HLE := Lib.hid hle
  obtain ⟨pa, ca, rfl⟩ := ha.shape
  obtain ⟨pb, cb, rfl⟩ := hb.shape
  clear ha hb hsa hsb hle
  go_enter Try.func38, Try.ntmps38
  go_wp2_with fail
  go_loopw [5, 6, 12] (fun v q i wr => MinusRel w la lb v q i wr) (fun _ _ i _ => la.length - (intOf i).toNat)
  case atStart => exact ⟨0, 0, [], rfl, rfl, by omega, by omega, rfl, (fun d hd => by cases hd), rfl, World.ownsRow_lit w #[] 0 (Nat.le_refl _) (by decide) rfl, (Keeps.refl _ w).alloc _⟩
  case round =>
    obtain ⟨k, c, r, rfl, rfl, hc1, hkm, hr, hsm, hv, hown, hf⟩ := hrel
    have HRR := Lib.hid hr
    have HSM := Lib.hid hsm
    have HV := Lib.hid hv
    have HOWN := Lib.hid hown
    have HF := Lib.hid hf
    have HRL : Hid (r.length ≤ 1000000) := Lib.hid (by rw [hr]; omega)
    clear hr hsm hv hown hf
    by_cases hka : k < la.length
    · obtain ⟨ba, oa, xa, ea, -, -, hba, hca⟩ := HA.out.form (by omega)
      obtain ⟨rfl, rfl⟩ : pa = some ⟨ba, oa, none⟩ ∧ ca = xa := by injection ea with a1 a2 a3; exact ⟨a1, a3⟩
      obtain ⟨x, hxe⟩ : ∃ x, x = la.getD k 0 := ⟨_, rfl⟩
      have cx : wr.cell? ⟨ba, oa + k, none⟩ = some (.int .i64 (x : Int)) := by rw [hxe]; exact HF.out.cellAt (hca k hka) (fun x => x)
      have hx : Dig.val (la.take (k + 1)) = Dig.val (la.take k) + 256 ^ k * x := by rw [hxe]; exact val_take_succ la k hka
      have hxs : x < 256 := by rw [hxe]; exact small_getD HSA.out k
      have ia : (k : Int) < la.length := by omega
      have HX := Lib.hid hx
      clear ea hca hxe hx
      by_cases hkb : k < lb.length
      · skip
        obtain ⟨bb, ob, xb, eb, -, -, hbb, hcb⟩ := HBB.out.form (by omega)
        obtain ⟨rfl, rfl⟩ : pb = some ⟨bb, ob, none⟩ ∧ cb = xb := by injection eb with a1 a2 a3; exact ⟨a1, a3⟩
        obtain ⟨y, hye⟩ : ∃ y, y = lb.getD k 0 := ⟨_, rfl⟩
        have cy : wr.cell? ⟨bb, ob + k, none⟩ = some (.int .i64 (y : Int)) := by rw [hye]; exact HF.out.cellAt (hcb k hkb) (fun x => x)
        have hy : Dig.val (lb.take (k + 1)) = Dig.val (lb.take k) + 256 ^ k * y := by rw [hye]; exact val_take_succ lb k hkb
        have hys : y < 256 := by rw [hye]; exact small_getD HSB.out k
        have ib : (k : Int) < lb.length := by omega
        clear eb hcb hye
        have HY := Lib.hid hy
        clear hy
        by_cases hneg : x < c + y
        · have in1 : (x : Int) - c - y < 0 := by omega
          go_wp2_with (at_builtin; refine wpList_appI rfl (.tmp 35) (.tmp 37) rfl w.heap.size _ r (x + 256 - c - y) wr.heap.size rfl rfl (OwnI.kept HOWN.out ((Keeps.refl (fun _ => False) wr).alloc _) (fun _ _ h => h)) (by rw [heap_alloc_new]; exact congrArg (fun z => some (Obj.cells #[Value.int .i64 z] 3 (0, 0))) (by omega)) HRL.out (by have := HF.out.size; simp; omega) ?_; intro v' w1 HO HK)
          refine ⟨?rel, ?measure⟩
          case rel => exact minus_next (c' := 1) HRR.out HSM.out HV.out HX.out HY.out (by omega) (by omega) (by omega) hka HO.out (HF.out.then (((Keeps.refl _ wr).alloc _).trans HK.out) (fun q hq h => by omega))
          case measure => simp [intOf]; omega
        · have in1 : ¬ (x : Int) - c - y < 0 := by omega
          go_wp2_with (at_builtin; refine wpList_appI rfl (.tmp 35) (.tmp 37) rfl w.heap.size _ r (x - c - y) wr.heap.size rfl rfl (OwnI.kept HOWN.out ((Keeps.refl (fun _ => False) wr).alloc _) (fun _ _ h => h)) (by rw [heap_alloc_new]; exact congrArg (fun z => some (Obj.cells #[Value.int .i64 z] 3 (0, 0))) (by omega)) HRL.out (by have := HF.out.size; simp; omega) ?_; intro v' w1 HO HK)
          refine ⟨?rel, ?measure⟩
          case rel => exact minus_next (c' := 0) HRR.out HSM.out HV.out HX.out HY.out (by omega) (by omega) (by omega) hka HO.out (HF.out.then (((Keeps.refl _ wr).alloc _).trans HK.out) (fun q hq h => by omega))
          case measure => simp [intOf]; omega
      · skip
        have hy : Dig.val (lb.take (k + 1)) = Dig.val (lb.take k) + 256 ^ k * 0 := by rw [val_take_over lb k (by omega), Nat.mul_zero, Nat.add_zero]
        have ib : ¬ (k : Int) < lb.length := by omega
        have HY := Lib.hid hy
        clear hy
        by_cases hneg : x < c + 0
        · have in1 : (x : Int) - c < 0 := by omega
          go_wp2_with (at_builtin; refine wpList_appI rfl (.tmp 35) (.tmp 37) rfl w.heap.size _ r (x + 256 - c - 0) wr.heap.size rfl rfl (OwnI.kept HOWN.out ((Keeps.refl (fun _ => False) wr).alloc _) (fun _ _ h => h)) (by rw [heap_alloc_new]; exact congrArg (fun z => some (Obj.cells #[Value.int .i64 z] 3 (0, 0))) (by omega)) HRL.out (by have := HF.out.size; simp; omega) ?_; intro v' w1 HO HK)
          refine ⟨?rel, ?measure⟩
          case rel => exact minus_next (c' := 1) HRR.out HSM.out HV.out HX.out HY.out (by omega) (by omega) (by omega) hka HO.out (HF.out.then (((Keeps.refl _ wr).alloc _).trans HK.out) (fun q hq h => by omega))
          case measure => simp [intOf]; omega
        · have in1 : ¬ (x : Int) - c < 0 := by omega
          go_wp2_with (at_builtin; refine wpList_appI rfl (.tmp 35) (.tmp 37) rfl w.heap.size _ r (x - c - 0) wr.heap.size rfl rfl (OwnI.kept HOWN.out ((Keeps.refl (fun _ => False) wr).alloc _) (fun _ _ h => h)) (by rw [heap_alloc_new]; exact congrArg (fun z => some (Obj.cells #[Value.int .i64 z] 3 (0, 0))) (by omega)) HRL.out (by have := HF.out.size; simp; omega) ?_; intro v' w1 HO HK)
          refine ⟨?rel, ?measure⟩
          case rel => exact minus_next (c' := 0) HRR.out HSM.out HV.out HX.out HY.out (by omega) (by omega) (by omega) hka HO.out (HF.out.then (((Keeps.refl _ wr).alloc _).trans HK.out) (fun q hq h => by omega))
          case measure => simp [intOf]; omega
    · have ia : ¬ (k : Int) < la.length := by omega
      have HK := Lib.hid (show k = la.length by omega)
      go_wp2_with fail
      refine (short_c _ _ wr HOWN.out.sl).mono ?_
      rintro e w1 ⟨v', rfl, hs', rfl⟩
      have HS' := Lib.hid hs'
      clear hs'
      go_wp2_with fail
      go_ret
      refine ⟨_, rfl, ?_, HF.out⟩
      have h := HS'.out
      have hv := HV.out
      rw [HK.out, List.take_of_length_le (Nat.le_refl _), List.take_of_length_le hlb] at hv
      have hlt := Dig.val_lt r HSM.out
      rw [HRR.out, HK.out] at hlt
      have hle := HLE.out
      have hc0 : c = 0 := by
        by_cases h1 : c = 1
        · subst h1; omega
        · omega
      subst hc0
      rw [Nat.mul_zero, Nat.add_zero] at hv
      rw [Dig.strip_eq_dig _ HSM.out, show Dig.val r = Dig.val la - Dig.val lb from by omega] at h
      exact h
end Go.Proofs.Ytdkhpehniciijaa
