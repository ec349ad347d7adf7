/-
  Contract: spec.times.
-/
import Derived.Test.YtdkhpehniciijaaTimesP
namespace Go.Proofs.Ytdkhpehniciijaa
open Go Go.RowKit
theorem tm_next {w w1 : World} {la lb o : List Nat} {i k c x y : Nat} (hk : k ≤ lb.length) (ho : o.length = la.length + lb.length + 1) (hsm : Dig.Small o) (hi : i < la.length)
    (hv : Dig.val o + 256 ^ (i + k) * c = Dig.val (la.take i) * Dig.val lb + 256 ^ i * (x * Dig.val (lb.take k))) (hc : c ≤ 255) (hx : x < 256) (hyy : y < 256)
    (hy : Dig.val (lb.take (k + 1)) = Dig.val (lb.take k) + 256 ^ k * y)
    (hown : OwnI w1 w.heap.size (.slice (some ⟨w.heap.size, 0, none⟩) (la.length + lb.length + 1) (la.length + lb.length + 1)) (o.set (i + k) ((c + o.getD (i + k) 0 + x * y) % 256))) (hf : Fresh w w1) :
    TmIn w la lb i x (.int .i64 (((c + o.getD (i + k) 0 + x * y) / 256 : Nat) : Int)) (.int .i64 ((k : Int) + 1)) w1 := by
  have hz := small_getD hsm (i + k)
  have hxy : x * y ≤ 255 * 255 := Nat.mul_le_mul (by omega) (by omega)
  exact ⟨k + 1, _, _, by omega, rfl, rfl, by omega, by rw [List.length_set]; exact ho, small_set hsm _ _ (Nat.mod_lt _ (by decide)), tm_step (by omega) hv hy, hown, hf⟩
set_option maxRecDepth 100000 in
set_option maxHeartbeats 2000000 in
theorem times_c (va vb : Value) (la lb : List Nat) (w : World) (ha : SlI w va la) (hb : SlI w vb lb) (hsa : Dig.Small la) (hsb : Dig.Small lb) (hla : la.length ≤ 100000) (hlb : lb.length ≤ 100000) :
    Calls Try.prog 28 #[va, vb] w (RetI w (Dig.dig (Dig.val la * Dig.val lb))) := by
  have HA := Lib.hid ha
  have HBB := Lib.hid hb
  have HSA := Lib.hid hsa
  have HSB := Lib.hid hsb
  obtain ⟨pa, ca, rfl⟩ := ha.shape
  obtain ⟨pb, cb, rfl⟩ := hb.shape
  obtain ⟨i0, hi0, hz0, hz1, hz2⟩ := info_parts infoInt
  clear ha hb hsa hsb
  go_enter Try.func28, Try.ntmps28
  go_wp2_with (refine wpList_make_full _ rfl (.tmp 15) (.tmp 15) 33 rfl w.heap.size 3 i0 (.int .i64 0) 1 Try.underlying33 hi0 hz0 hz1 .i64 .i64 _ _ (la.length + lb.length + 1) rfl rfl (by simp) (by simp) (by rw [hz2]; omega) (by unfold maxLen; omega) (Nat.le_refl _) ?_; intro w0 hown0 hgr0; have HO0 : Hid (OwnI w0 w.heap.size (.slice (some ⟨w.heap.size, 0, none⟩) (la.length + lb.length + 1) (la.length + lb.length + 1)) (List.replicate (la.length + lb.length + 1) 0)) := Lib.hid (by unfold OwnI; rw [List.length_replicate, ← made_zero]; exact hown0); have HF0 : Hid (Fresh w w0) := Lib.hid ((Keeps.refl _ w).grown hgr0 (fun k hk => by cases hk)); clear hown0 hgr0)
  go_loopw [19] (fun i wr => TmOut w la lb i wr) (fun i _ => la.length - (intOf i).toNat)
  case atStart =>
    refine ⟨0, List.replicate (la.length + lb.length + 1) 0, Nat.zero_le _, rfl, by simp, ?_, ?_, HO0.out, HF0.out⟩
    · intro d hd; rw [List.eq_of_mem_replicate hd]; decide
    · rw [val_zeroN, List.take_zero]; simp [Dig.val]
  case round =>
    obtain ⟨i, o, hi, rfl, hol, hsm, hv, hown, hf⟩ := hrel
    have HOL := Lib.hid hol
    have HSM := Lib.hid hsm
    have HV := Lib.hid hv
    have HOWN := Lib.hid hown
    have HF := Lib.hid hf
    clear hol hsm hv hown hf HO0 HF0
    by_cases hlt : i < la.length
    · obtain ⟨ba, oa, xa, ea, -, -, hba, hca⟩ := HA.out.form (by omega)
      obtain ⟨rfl, rfl⟩ : pa = some ⟨ba, oa, none⟩ ∧ ca = xa := by injection ea with a1 a2 a3; exact ⟨a1, a3⟩
      obtain ⟨x, hxe⟩ : ∃ x, x = la.getD i 0 := ⟨_, rfl⟩
      have cx : wr.cell? ⟨ba, oa + i, none⟩ = some (.int .i64 (x : Int)) := by rw [hxe]; exact HF.out.cellAt (hca i hlt) (fun x => x)
      have hxs : x < 256 := by rw [hxe]; exact small_getD HSA.out i
      have HXE := Lib.hid hxe
      have ia : (i : Int) < la.length := by omega
      clear ea hca hxe
      obtain ⟨w2, hw2⟩ : ∃ w2, w2 = wr := ⟨_, rfl⟩
      subst hw2
      go_wp2_with fail
      go_loopw [8, 9] (fun q j wr => TmIn w la lb i x q j wr) (fun _ j _ => lb.length + 2 - (intOf j).toNat)
      case atStart =>
        refine ⟨0, 0, o, by omega, rfl, rfl, by omega, HOL.out, HSM.out, ?_, HOWN.out, HF.out⟩
        rw [HV.out, List.take_zero]; simp [Dig.val]
      case round =>
        obtain ⟨k, c, o', hk, rfl, rfl, hc, hol, hsm, hv, hown, hf⟩ := hrel
        have HOL' := Lib.hid hol
        have HSM' := Lib.hid hsm
        have HV' := Lib.hid hv
        have HOWN' := Lib.hid hown
        have HF' := Lib.hid hf
        have hltg : w.heap.size < wr.heap.size := World.block_lt_of_cell? wr _ (hown.cell 0 (by rw [hol]; omega))
        clear hol hsm hv hown hf
        by_cases hkb : k < lb.length
        · obtain ⟨bb, ob, xb, eb, -, -, hbb, hcb⟩ := HBB.out.form (by omega)
          obtain ⟨rfl, rfl⟩ : pb = some ⟨bb, ob, none⟩ ∧ cb = xb := by injection eb with a1 a2 a3; exact ⟨a1, a3⟩
          obtain ⟨y, hye⟩ : ∃ y, y = lb.getD k 0 := ⟨_, rfl⟩
          have cy : wr.cell? ⟨bb, ob + k, none⟩ = some (.int .i64 (y : Int)) := by rw [hye]; exact HF'.out.cellAt (hcb k hkb) (fun x => x)
          have hys : y < 256 := by rw [hye]; exact small_getD HSB.out k
          have HY : Hid (Dig.val (lb.take (k + 1)) = Dig.val (lb.take k) + 256 ^ k * y) := Lib.hid (by rw [hye]; exact val_take_succ lb k hkb)
          obtain ⟨z, hz⟩ : ∃ z, z = o'.getD (i + k) 0 := ⟨_, rfl⟩
          have cz : wr.cell? ⟨w.heap.size, i + k, none⟩ = some (.int .i64 (z : Int)) := by rw [hz]; exact HOWN'.out.cell (i + k) (by rw [HOL'.out]; omega)
          have fz : wr.frozen? ⟨w.heap.size, i + k, none⟩ = false := HOWN'.out.free _
          have hzs : z < 256 := by rw [hz]; exact small_getD HSM'.out _
          have HZ := Lib.hid hz
          have ib : (k : Int) < lb.length := by omega
          have iz : (i : Int) + k < (la.length + lb.length + 1 : Nat) := by omega
          have hxy : x * y ≤ 255 * 255 := Nat.mul_le_mul (by omega) (by omega)
          have hxy' : (x : Int) * y ≤ 65025 := by have := Int.ofNat_le.2 hxy; simpa using this
          have hxy0 : (0 : Int) ≤ (x : Int) * y := by have := Int.natCast_nonneg (x * y); simpa using this
          clear eb hcb hye hz
          go_wp2_with fail
          have hn : ((c + z + x * y : Nat) : Int) = (c : Int) + z + x * y := by simp
          have hq : ((c : Int) + z + x * y) / 256 = (((c + z + x * y) / 256 : Nat) : Int) := by rw [← hn]; generalize c + z + x * y = n; omega
          have hr : ((c : Int) + z + x * y) % 256 = (((c + z + x * y) % 256 : Nat) : Int) := by rw [← hn]; generalize c + z + x * y = n; omega
          refine ⟨?rel, ?measure⟩
          case rel =>
            rw [hq, hr, HZ.out]
            exact tm_next (by omega) HOL'.out HSM'.out hlt HV'.out hc hxs hys HY.out (HOWN'.out.set _ _) (HF'.out.setCell (Or.inr (Nat.le_refl _)) _)
          case measure => simp [intOf]; omega
        · have hyz : Dig.val (lb.take (k + 1)) = Dig.val (lb.take k) + 256 ^ k * 0 := by rw [val_take_over lb k (by omega), Nat.mul_zero, Nat.add_zero]
          have HY := Lib.hid hyz
          have ib : ¬ (k : Int) < lb.length := by omega
          clear hyz
          by_cases hc0 : c = 0
          · have HC0 := Lib.hid hc0
            have icz : ¬ (0 : Int) < c := by omega
            clear hc0
            go_wp2_with fail
            refine ⟨⟨i + 1, o', by omega, by go_num, HOL'.out, HSM'.out, ?_, HOWN'.out, HF'.out⟩, by simp [intOf]; omega⟩
            have hv := HV'.out
            rw [HC0.out, Nat.mul_zero, Nat.add_zero, List.take_of_length_le (Nat.le_of_not_lt hkb)] at hv
            rw [hv, val_take_succ la i hlt, ← HXE.out, Nat.add_mul, Nat.mul_assoc]
          · have hkle := tm_room HSA.out HSB.out hlt HXE.out (Nat.le_of_not_lt hkb) (Nat.pos_of_ne_zero hc0) HV'.out
            obtain ⟨z, hz⟩ : ∃ z, z = o'.getD (i + k) 0 := ⟨_, rfl⟩
            have cz : wr.cell? ⟨w.heap.size, i + k, none⟩ = some (.int .i64 (z : Int)) := by rw [hz]; exact HOWN'.out.cell (i + k) (by rw [HOL'.out]; omega)
            have fz : wr.frozen? ⟨w.heap.size, i + k, none⟩ = false := HOWN'.out.free _
            have hzs : z < 256 := by rw [hz]; exact small_getD HSM'.out _
            have HZ := Lib.hid hz
            have icz : (0 : Int) < c := by omega
            have iz : (i : Int) + k < (la.length + lb.length + 1 : Nat) := by omega
            clear hz hc0
            go_wp2_with fail
            have hq : ((c : Int) + z) / 256 = (((c + z + x * 0) / 256 : Nat) : Int) := by rw [Nat.mul_zero]; omega
            have hr : ((c : Int) + z) % 256 = (((c + z + x * 0) % 256 : Nat) : Int) := by rw [Nat.mul_zero]; omega
            refine ⟨?rel, ?measure⟩
            case rel =>
              rw [hq, hr, HZ.out]
              exact tm_next hkle HOL'.out HSM'.out hlt HV'.out hc hxs (by decide) HY.out (HOWN'.out.set _ _) (HF'.out.setCell (Or.inr (Nat.le_refl _)) _)
            case measure => simp [intOf]; omega
    · have HI := Lib.hid (show i = la.length by omega)
      have ia : ¬ (i : Int) < la.length := by omega
      go_wp2_with fail
      refine (short_c _ _ wr HOWN.out.sl).mono ?_
      rintro e w1 ⟨v', rfl, hs', rfl⟩
      have HS' := Lib.hid hs'
      clear hs'
      go_wp2_with fail
      go_ret
      refine ⟨_, rfl, ?_, HF.out⟩
      have h := HS'.out
      have hv := HV.out
      rw [HI.out, List.take_length] at hv
      rw [Dig.strip_eq_dig _ HSM.out, hv] at h
      exact h
end Go.Proofs.Ytdkhpehniciijaa
