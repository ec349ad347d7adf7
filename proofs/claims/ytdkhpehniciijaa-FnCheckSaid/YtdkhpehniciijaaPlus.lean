/-
  Contract: spec.plus.
-/
import Derived.Test.YtdkhpehniciijaaNatural
namespace Go.Proofs.Ytdkhpehniciijaa
open Go Go.RowKit
theorem plus_next {w w1 : World} {la lb r : List Nat} {k c x y : Nat} {v' : Value} (hr : r.length = k) (hsm : Dig.Small r) (hv : Dig.val r + 256 ^ k * c = Dig.val (la.take k) + Dig.val (lb.take k))
    (hx : Dig.val (la.take (k + 1)) = Dig.val (la.take k) + 256 ^ k * x) (hy : Dig.val (lb.take (k + 1)) = Dig.val (lb.take k) + 256 ^ k * y)
    (hxs : x < 256) (hys : y < 256) (hx0 : la.length ≤ k → x = 0) (hy0 : lb.length ≤ k → y = 0) (hk : k ≤ max la.length lb.length) (hc : c ≤ 1) (ho : OwnI w1 w.heap.size v' (r ++ [(c + x + y) % 256])) (hf : Fresh w w1) :
    PlusRel w la lb v' (.int .i64 (((c + x + y) / 256 : Nat) : Int)) (.int .i64 ((k : Int) + 1)) w1 :=
  ⟨k + 1, (c + x + y) / 256, r ++ [(c + x + y) % 256], rfl, rfl, by omega, by omega, by rw [List.length_append, hr]; rfl, small_snoc hsm (Nat.mod_lt _ (by decide)), plus_step hv hr hx hy, fun h => by
    have h1 := hx0 (by omega)
    have h2 := hy0 (by omega)
    omega, ho, hf⟩
set_option maxRecDepth 100000 in
set_option maxHeartbeats 2000000 in
theorem plus_c (va vb : Value) (la lb : List Nat) (w : World) (ha : SlI w va la) (hb : SlI w vb lb) (hsa : Dig.Small la) (hsb : Dig.Small lb) (hla : la.length ≤ 100000) (hlb : lb.length ≤ 100000) :
    Calls Try.prog 27 #[va, vb] w (RetI w (Dig.dig (Dig.val la + Dig.val lb))) := by
  have HA := Lib.hid ha
  have HBB := Lib.hid hb
  have HSA := Lib.hid hsa
  have HSB := Lib.hid hsb
  obtain ⟨pa, ca, rfl⟩ := ha.shape
  obtain ⟨pb, cb, rfl⟩ := hb.shape
  clear ha hb hsa hsb
  go_enter Try.func27, Try.ntmps27
  go_wp2_with fail
  go_loopw [5, 6, 7] (fun v q i wr => PlusRel w la lb v q i wr) (fun _ _ i _ => la.length + lb.length + 2 - (intOf i).toNat)
  case atStart => exact ⟨0, 0, [], rfl, rfl, by omega, by omega, rfl, (fun d hd => by cases hd), rfl, (fun _ => rfl), World.ownsRow_lit w #[] 0 (Nat.le_refl _) (by decide) rfl, (Keeps.refl _ w).alloc _⟩
  case round =>
    obtain ⟨k, c, r, rfl, rfl, hc1, hkm, hr, hsm, hv, hlast, hown, hf⟩ := hrel
    have HRR := Lib.hid hr
    have HSM := Lib.hid hsm
    have HV := Lib.hid hv
    have HOWN := Lib.hid hown
    have HF := Lib.hid hf
    have HRL : Hid (r.length ≤ 1000000) := Lib.hid (by rw [hr]; omega)
    have HLAST := Lib.hid hlast
    clear hr hsm hv hown hf hlast
    by_cases hka : k < la.length
    · by_cases hkb : k < lb.length
      · clear HLAST
        obtain ⟨ba, oa, xa, ea, -, -, hba, hca⟩ := HA.out.form (by omega)
        obtain ⟨rfl, rfl⟩ : pa = some ⟨ba, oa, none⟩ ∧ ca = xa := by injection ea with a1 a2 a3; exact ⟨a1, a3⟩
        have cx : wr.cell? ⟨ba, oa + k, none⟩ = some (.int .i64 ((la.getD k 0 : Nat) : Int)) := HF.out.cellAt (hca k hka) (fun x => x)
        have hx := val_take_succ la k hka
        have hxs := small_getD HSA.out k
        have ia : (k : Int) < la.length := by omega
        clear ea hca
        obtain ⟨bb, ob, xb, eb, -, -, hbb, hcb⟩ := HBB.out.form (by omega)
        obtain ⟨rfl, rfl⟩ : pb = some ⟨bb, ob, none⟩ ∧ cb = xb := by injection eb with a1 a2 a3; exact ⟨a1, a3⟩
        have cy : wr.cell? ⟨bb, ob + k, none⟩ = some (.int .i64 ((lb.getD k 0 : Nat) : Int)) := HF.out.cellAt (hcb k hkb) (fun x => x)
        have hy := val_take_succ lb k hkb
        have hys := small_getD HSB.out k
        have ib : (k : Int) < lb.length := by omega
        clear eb hcb
        obtain ⟨x, hxe⟩ : ∃ x, x = la.getD k 0 := ⟨_, rfl⟩
        rw [← hxe] at cx hx hxs
        obtain ⟨y, hye⟩ : ∃ y, y = lb.getD k 0 := ⟨_, rfl⟩
        rw [← hye] at cy hy hys
        have HX := Lib.hid hx
        have HY := Lib.hid hy
        clear hx hy hxe hye
        go_wp2_with (at_builtin; refine wpList_appI rfl (.tmp 45) (.tmp 48) rfl w.heap.size _ r ((c + x + y) % 256) wr.heap.size rfl rfl (OwnI.kept HOWN.out ((Keeps.refl (fun _ => False) wr).alloc _) (fun _ _ h => h)) (by rw [heap_alloc_new]; exact congrArg (fun z => some (Obj.cells #[Value.int .i64 z] 3 (0, 0))) (by omega)) HRL.out (by have := HF.out.size; simp; omega) ?_; intro v' w1 HO HK)
        have hq : ((c : Int) + x + y) / 256 = (((c + x + y) / 256 : Nat) : Int) := by omega
        refine ⟨?rel, ?measure⟩
        case rel =>
          try rw [hq]
          exact plus_next HRR.out HSM.out HV.out HX.out HY.out (by omega) (by omega) (by omega) (by omega) (by omega) hc1 HO.out (HF.out.then (((Keeps.refl _ wr).alloc _).trans HK.out) (fun q hq h => by omega))
        case measure => simp [intOf]; omega
      · clear HLAST
        obtain ⟨ba, oa, xa, ea, -, -, hba, hca⟩ := HA.out.form (by omega)
        obtain ⟨rfl, rfl⟩ : pa = some ⟨ba, oa, none⟩ ∧ ca = xa := by injection ea with a1 a2 a3; exact ⟨a1, a3⟩
        have cx : wr.cell? ⟨ba, oa + k, none⟩ = some (.int .i64 ((la.getD k 0 : Nat) : Int)) := HF.out.cellAt (hca k hka) (fun x => x)
        have hx := val_take_succ la k hka
        have hxs := small_getD HSA.out k
        have ia : (k : Int) < la.length := by omega
        clear ea hca
        have hy : Dig.val (lb.take (k + 1)) = Dig.val (lb.take k) + 256 ^ k * 0 := by rw [val_take_over lb k (by omega), Nat.mul_zero, Nat.add_zero]
        have ib : ¬ (k : Int) < lb.length := by omega
        obtain ⟨x, hxe⟩ : ∃ x, x = la.getD k 0 := ⟨_, rfl⟩
        rw [← hxe] at cx hx hxs
        have HX := Lib.hid hx
        have HY := Lib.hid hy
        clear hx hy hxe
        go_wp2_with (at_builtin; refine wpList_appI rfl (.tmp 45) (.tmp 48) rfl w.heap.size _ r ((c + x + 0) % 256) wr.heap.size rfl rfl (OwnI.kept HOWN.out ((Keeps.refl (fun _ => False) wr).alloc _) (fun _ _ h => h)) (by rw [heap_alloc_new]; exact congrArg (fun z => some (Obj.cells #[Value.int .i64 z] 3 (0, 0))) (by omega)) HRL.out (by have := HF.out.size; simp; omega) ?_; intro v' w1 HO HK)
        have hq : ((c : Int) + x) / 256 = (((c + x + 0) / 256 : Nat) : Int) := by omega
        refine ⟨?rel, ?measure⟩
        case rel =>
          try rw [hq]
          exact plus_next HRR.out HSM.out HV.out HX.out HY.out (by omega) (by omega) (by omega) (by omega) (by omega) hc1 HO.out (HF.out.then (((Keeps.refl _ wr).alloc _).trans HK.out) (fun q hq h => by omega))
        case measure => simp [intOf]; omega
    · by_cases hkb : k < lb.length
      · clear HLAST
        have hx : Dig.val (la.take (k + 1)) = Dig.val (la.take k) + 256 ^ k * 0 := by rw [val_take_over la k (by omega), Nat.mul_zero, Nat.add_zero]
        have ia : ¬ (k : Int) < la.length := by omega
        obtain ⟨bb, ob, xb, eb, -, -, hbb, hcb⟩ := HBB.out.form (by omega)
        obtain ⟨rfl, rfl⟩ : pb = some ⟨bb, ob, none⟩ ∧ cb = xb := by injection eb with a1 a2 a3; exact ⟨a1, a3⟩
        have cy : wr.cell? ⟨bb, ob + k, none⟩ = some (.int .i64 ((lb.getD k 0 : Nat) : Int)) := HF.out.cellAt (hcb k hkb) (fun x => x)
        have hy := val_take_succ lb k hkb
        have hys := small_getD HSB.out k
        have ib : (k : Int) < lb.length := by omega
        clear eb hcb
        obtain ⟨y, hye⟩ : ∃ y, y = lb.getD k 0 := ⟨_, rfl⟩
        rw [← hye] at cy hy hys
        have HX := Lib.hid hx
        have HY := Lib.hid hy
        clear hx hy hye
        go_wp2_with (at_builtin; refine wpList_appI rfl (.tmp 45) (.tmp 48) rfl w.heap.size _ r ((c + 0 + y) % 256) wr.heap.size rfl rfl (OwnI.kept HOWN.out ((Keeps.refl (fun _ => False) wr).alloc _) (fun _ _ h => h)) (by rw [heap_alloc_new]; exact congrArg (fun z => some (Obj.cells #[Value.int .i64 z] 3 (0, 0))) (by omega)) HRL.out (by have := HF.out.size; simp; omega) ?_; intro v' w1 HO HK)
        have hq : ((c : Int) + y) / 256 = (((c + 0 + y) / 256 : Nat) : Int) := by omega
        refine ⟨?rel, ?measure⟩
        case rel =>
          try rw [hq]
          exact plus_next HRR.out HSM.out HV.out HX.out HY.out (by omega) (by omega) (by omega) (by omega) (by omega) hc1 HO.out (HF.out.then (((Keeps.refl _ wr).alloc _).trans HK.out) (fun q hq h => by omega))
        case measure => simp [intOf]; omega
      · by_cases hcp : c = 0
        · subst hcp
          have ia : ¬ (k : Int) < la.length := by omega
          have ib : ¬ (k : Int) < lb.length := by omega
          go_wp2_with fail
          refine (short_c _ _ wr HOWN.out.sl).mono ?_
          rintro e w1 ⟨v', rfl, hs', rfl⟩
          have HS' := Lib.hid hs'
          clear hs'
          go_wp2_with fail
          go_ret
          refine ⟨_, rfl, ?_, HF.out⟩
          have h := HS'.out
          have hv := HV.out
          rw [Nat.mul_zero, Nat.add_zero, List.take_of_length_le (Nat.le_of_not_lt hka), List.take_of_length_le (Nat.le_of_not_lt hkb)] at hv
          rw [Dig.strip_eq_dig _ HSM.out, hv] at h
          exact h
        · have hkmax : k ≤ max la.length lb.length := by
            have := HLAST.out
            omega
          clear HLAST
          have hx : Dig.val (la.take (k + 1)) = Dig.val (la.take k) + 256 ^ k * 0 := by rw [val_take_over la k (by omega), Nat.mul_zero, Nat.add_zero]
          have ia : ¬ (k : Int) < la.length := by omega
          have hy : Dig.val (lb.take (k + 1)) = Dig.val (lb.take k) + 256 ^ k * 0 := by rw [val_take_over lb k (by omega), Nat.mul_zero, Nat.add_zero]
          have ib : ¬ (k : Int) < lb.length := by omega
          have HX := Lib.hid hx
          have HY := Lib.hid hy
          clear hx hy
          obtain rfl : c = 1 := by omega
          go_wp2_with (at_builtin; refine wpList_appI rfl (.tmp 45) (.tmp 48) rfl w.heap.size _ r ((1 + 0 + 0) % 256) wr.heap.size rfl rfl (OwnI.kept HOWN.out ((Keeps.refl (fun _ => False) wr).alloc _) (fun _ _ h => h)) (by rw [heap_alloc_new]; exact congrArg (fun z => some (Obj.cells #[Value.int .i64 z] 3 (0, 0))) (by omega)) HRL.out (by have := HF.out.size; simp; omega) ?_; intro v' w1 HO HK)
          have hq : ((1 : Int)) / 256 = (((1 + 0 + 0) / 256 : Nat) : Int) := by omega
          refine ⟨?rel, ?measure⟩
          case rel =>
            try rw [hq]
            exact plus_next HRR.out HSM.out HV.out HX.out HY.out (by omega) (by omega) (by omega) (by omega) (by omega) hc1 HO.out (HF.out.then (((Keeps.refl _ wr).alloc _).trans HK.out) (fun q hq h => by omega))
          case measure => simp [intOf]; omega
end Go.Proofs.Ytdkhpehniciijaa
