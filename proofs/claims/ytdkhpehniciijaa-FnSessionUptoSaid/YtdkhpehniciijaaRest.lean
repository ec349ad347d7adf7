/-
  Contract: spec.rest.
-/
import Derived.Test.YtdkhpehniciijaaNums
namespace Go.Proofs.Ytdkhpehniciijaa
open Go Go.RowKit
theorem and_bit : ∀ (t : Fin 8) (d : Fin 256), decide (bits .and .i64 (d.val : Int) ((128 / 2 ^ t.val : Nat) : Int) = 0) = decide (d.val / 2 ^ (7 - t.val) % 2 = 0) := by decide +kernel
theorem dig_len_prime {x : Nat} (h : x ≤ 2 * Poly.prime) : (Dig.dig x).length ≤ 100000 := by
  have h1 := dig_len_mono h
  have h2 : (Dig.dig (2 * Poly.prime)).length ≤ 100 := by
    by_cases hc : (Dig.dig (2 * Poly.prime)).length ≤ 100
    · exact hc
    · have h3 := dig_ge (2 * Poly.prime) (by decide)
      have h4 : 256 ^ 100 ≤ 256 ^ ((Dig.dig (2 * Poly.prime)).length - 1) := Nat.pow_le_pow_right (by decide) (by omega)
      have h5 : ¬ (256 ^ 100 ≤ 2 * Poly.prime) := by decide
      exact absurd (Nat.le_trans h4 h3) h5
  omega
/-- the outer loop of rest -/
def RestOut (w1 : World) (la : List Nat) (v i : Value) (wr : World) : Prop :=
  ∃ n : Nat, n ≤ la.length ∧ i = .int .i64 ((n : Int) - 1) ∧ SlI wr v (Dig.dig (Dig.val (la.drop n) % Poly.prime)) ∧ Fresh w1 wr
/-- the inner loop of rest -/
def RestIn (w1 : World) (A d : Nat) (v k : Value) (wr : World) : Prop :=
  ∃ t b : Nat, t ≤ 8 ∧ b = 128 / 2 ^ t ∧ k = .int .i64 (b : Int) ∧ SlI wr v (Dig.dig ((A * 2 ^ t + d / 2 ^ (8 - t)) % Poly.prime)) ∧ Fresh w1 wr
theorem rest_step (A d t e Y : Nat) (ht : t < 8) (he : e = d / 2 ^ (7 - t) % 2) (hY : Y = (A * 2 ^ t + d / 2 ^ (8 - t)) % Poly.prime) :
    (A * 2 ^ (t + 1) + d / 2 ^ (8 - (t + 1))) % Poly.prime = (2 * Y + e) % Poly.prime := by
  have h1 : d / 2 ^ (8 - t) = d / 2 ^ (7 - t) / 2 := by rw [Nat.div_div_eq_div_mul, ← Nat.pow_succ]; congr 2; omega
  have h2 : 8 - (t + 1) = 7 - t := by omega
  rw [h2, hY]
  rw [h1]
  generalize d / 2 ^ (7 - t) = D at *
  have h3 : A * 2 ^ (t + 1) + D = 2 * (A * 2 ^ t + D / 2) + e := by rw [Nat.pow_succ, he]; have := Nat.mul_assoc A (2 ^ t) 2; omega
  rw [h3, Nat.add_mod, Nat.mul_mod, Nat.add_mod (2 * _), Nat.mul_mod 2 (_ % Poly.prime), Nat.mod_mod]
theorem half_step (t : Nat) : 128 / 2 ^ t / 2 = 128 / 2 ^ (t + 1) := by rw [Nat.div_div_eq_div_mul, Nat.pow_succ]
/-- one subtraction is enough -/
theorem once_less (x : Nat) (h : x < 2 * Poly.prime) : x % Poly.prime = if x < Poly.prime then x else x - Poly.prime := by
  by_cases h1 : x < Poly.prime
  · rw [if_pos h1, Nat.mod_eq_of_lt h1]
  · rw [if_neg h1, Nat.mod_eq_sub_mod (by omega), Nat.mod_eq_of_lt (by omega)]
theorem prime_pos : 0 < Poly.prime := by decide
theorem val_nil0 : Dig.val [] = 0 := rfl
theorem val_drop (la : List Nat) (j : Nat) (h : j < la.length) : Dig.val (la.drop j) = la.getD j 0 + 256 * Dig.val (la.drop (j + 1)) := by
  rw [List.drop_eq_getElem_cons h]
  simp [Dig.val, List.getD, h]
theorem SlI.none_of {w : World} {ad : Addr} {c : Nat} (hc : c ≤ maxLen) : SlI w (.slice (some ad) 0 c) [] :=
  Or.inr ⟨ad, c, rfl, Nat.zero_le _, hc, fun j u hu => by simp [valsI] at hu⟩
theorem SlI.one {w : World} {g n : Nat} {T : TypeId} (h : w.heap[g]? = some (.cells #[.int .i64 (n : Int)] T (0, 0))) : SlI w (.slice (some ⟨g, 0, none⟩) 1 1) [n] := by
  have := SlI.of (w := w) (b := g) (o := 0) (c := 1) (l := [n]) (Nat.le_refl _) (by decide) (fun i hi => by
    have : i = 0 := by simp at hi; omega
    subst this
    rw [cell_block h]; rfl)
  exact this
theorem small_one : Dig.Small [1] := by intro d hd; simp at hd; omega
theorem val_one : Dig.val [1] = 1 := rfl
theorem rest_in {w1 wr : World} {A d t e Y X b : Nat} {v : Value} (ht : t < 8) (he : e = d / 2 ^ (7 - t) % 2) (hY : Y = (A * 2 ^ t + d / 2 ^ (8 - t)) % Poly.prime) (hb : b = 128 / 2 ^ t)
    (hX : X = (2 * Y + e) % Poly.prime) (hs : SlI wr v (Dig.dig X)) (hf : Fresh w1 wr) : RestIn w1 A d v (.int .i64 ((b : Int) / 2)) wr := by
  refine ⟨t + 1, b / 2, by omega, by rw [hb, half_step], by simp, ?_, hf⟩
  rw [rest_step A d t e Y ht he hY, ← hX]
  exact hs
attribute [local irreducible] Poly.prime Dig.dig Dig.val
set_option maxRecDepth 100000 in
set_option maxHeartbeats 2000000 in
theorem rest_c (va : Value) (la : List Nat) (w : World) (ha : SlI w va la) (hsa : Dig.Small la) :
    Calls Try.prog 26 #[va] w (RetI w (Dig.dig (Dig.val la % Poly.prime))) := by
  have HA := Lib.hid ha
  have HSA := Lib.hid hsa
  obtain ⟨pa, ca, rfl⟩ := ha.shape
  have hml : la.length ≤ maxLen := ha.len_le
  simp only [maxLen] at hml
  clear ha hsa
  go_enter Try.func26, Try.ntmps26
  go_wp2_with fail
  refine (prime_c w).mono ?_
  rintro e w1 ⟨vp, rfl, hp, hf1⟩
  have HP := Lib.hid hp
  have HF1 := Lib.hid hf1
  clear hp hf1
  go_wp2_with fail
  go_loopw [4, 5] (fun v i wr => RestOut w1 la v i wr) (fun _ i _ => (intOf i + 1).toNat)
  case atStart =>
    refine ⟨la.length, Nat.le_refl _, rfl, ?_, (Keeps.refl _ w1).alloc _⟩
    rw [List.drop_eq_nil_of_le (Nat.le_refl _), val_nil0, Nat.zero_mod, Dig.dig_zero]
    exact SlI.none_of (Nat.zero_le _)
  case round =>
    obtain ⟨n, hn, rfl, hout, hf⟩ := hrel
    have HOUT := Lib.hid hout
    have HF := Lib.hid hf
    clear hout hf
    rcases Nat.eq_zero_or_pos n with hn0 | hn0
    · have HN := Lib.hid hn0
      have ik : ¬ (0 : Int) ≤ (n : Int) - 1 := by omega
      clear hn0
      go_wp2_with fail
      go_ret
      refine ⟨_, rfl, ?_, HF1.out.then HF.out (fun _ _ h => h)⟩
      have h := HOUT.out
      rw [HN.out, List.drop_zero] at h
      exact h
    · obtain ⟨j, rfl⟩ : ∃ j, n = j + 1 := ⟨n - 1, by omega⟩
      have hj : j < la.length := by omega
      have ij : ((j + 1 : Nat) : Int) - 1 = j := by omega
      rw [ij]
      have ij0 : (0 : Int) ≤ j := by omega
      obtain ⟨ba, oa, xa, ea, -, -, hba, hca⟩ := HA.out.form (by omega)
      obtain ⟨rfl, rfl⟩ : pa = some ⟨ba, oa, none⟩ ∧ ca = xa := by injection ea with a1 a2 a3; exact ⟨a1, a3⟩
      obtain ⟨d, hd⟩ : ∃ d, d = la.getD j 0 := ⟨_, rfl⟩
      obtain ⟨A, hA⟩ : ∃ A, A = Dig.val (la.drop (j + 1)) := ⟨_, rfl⟩
      have HCX : Hid (w.cell? ⟨ba, oa + j, none⟩ = some (.int .i64 (d : Int))) := Lib.hid (by rw [hd]; exact hca j hj)
      have hds : d < 256 := by rw [hd]; exact small_getD HSA.out j
      have HD := Lib.hid hd
      have HAA := Lib.hid hA
      have ia : (j : Int) < la.length := by omega
      rw [← hA] at HOUT
      clear ea hca hd hA hn hn0
      obtain ⟨w2, hw2⟩ : ∃ w2, w2 = wr := ⟨_, rfl⟩
      subst hw2
      go_wp2_with fail
      go_loopw [4, 6] (fun v k wr => RestIn w1 A d v k wr) (fun _ k _ => (intOf k).toNat)
      case atStart =>
        refine ⟨0, 128, by omega, by decide, rfl, ?_, HF.out⟩
        have hd0 : d / 2 ^ (8 - 0) = 0 := Nat.div_eq_of_lt hds
        rw [hd0, Nat.pow_zero, Nat.mul_one, Nat.add_zero]
        exact HOUT.out
      case round =>
        obtain ⟨t, b, ht, hb, rfl, hout, hf⟩ := hrel
        obtain ⟨Y, hY⟩ : ∃ Y, Y = (A * 2 ^ t + d / 2 ^ (8 - t)) % Poly.prime := ⟨_, rfl⟩
        rw [← hY] at hout
        have HO2 := Lib.hid hout
        have HF2 := Lib.hid hf
        have HYE := Lib.hid hY
        have HYL : Hid (Y < Poly.prime) := Lib.hid (by rw [hY]; exact Nat.mod_lt _ prime_pos)
        have HB := Lib.hid hb
        have cx : wr.cell? ⟨ba, oa + j, none⟩ = some (.int .i64 (d : Int)) := hf.cellAt (HF1.out.cellAt HCX.out (fun x => x)) (fun x => x)
        clear hout hf hY
        by_cases hlt : t < 8
        · have hb0 : 0 < b := by
            have h1 : 2 ^ t ≤ 2 ^ 7 := Nat.pow_le_pow_right (by decide) (by omega)
            rw [hb]; exact Nat.div_pos h1 (Nat.pow_pos (by decide))
          have hbn : b ≤ 128 := by rw [hb]; exact Nat.div_le_self _ _
          have hb128 : (b : Int) ≤ 128 := by omega
          have ib : (0 : Int) < b := by omega
          have hbit := and_bit ⟨t, hlt⟩ ⟨d, hds⟩
          simp only [← hb] at hbit
          have HBIT := Lib.hid hbit
          clear hb hbit
          go_wp2_with fail
          refine (plus_c _ _ (Dig.dig Y) (Dig.dig Y) wr HO2.out HO2.out (Dig.small_dig _) (Dig.small_dig _) (dig_len_prime (by have := HYL.out; omega)) (dig_len_prime (by have := HYL.out; omega))).mono ?_
          rintro e w3 ⟨v3, rfl, hv3, hf3⟩
          have HF3 : Hid (Fresh w1 w3) := Lib.hid (HF2.out.then hf3 (fun _ _ h => h))
          have HV3 : Hid (SlI w3 v3 (Dig.dig (Y + Y))) := Lib.hid (by rw [Dig.val_dig] at hv3; exact hv3)
          have cx3 : w3.cell? ⟨ba, oa + j, none⟩ = some (.int .i64 (d : Int)) := hf3.cellAt cx (fun x => x)
          clear hv3 hf3 cx
          by_cases hbz : d / 2 ^ (7 - t) % 2 = 0
          · have hand : bits .and .i64 (d : Int) (b : Int) = 0 := by
              have := HBIT.out
              rw [decide_eq_true hbz] at this
              exact of_decide_eq_true this
            have HE : Hid (0 = d / 2 ^ (7 - t) % 2) := Lib.hid hbz.symm
            obtain ⟨X, hX⟩ : ∃ X, X = 2 * Y + 0 := ⟨_, rfl⟩
            have HXE := Lib.hid hX
            have HVX : Hid (SlI w3 v3 (Dig.dig X)) := Lib.hid (by rw [hX, show 2 * Y + 0 = Y + Y by omega]; exact HV3.out)
            have HFX := HF3
            clear hX HV3 HF3 hbz
            go_wp2_with fail
            refine (less_c _ vp X Poly.prime _ HVX.out (HP.out.fresh HFX.out)).mono ?_
            rintro e w5 ⟨rfl, hf5⟩
            have HF5 : Hid (Fresh w1 w5) := Lib.hid (HFX.out.then hf5 (fun _ _ h => h))
            have HV5 := Lib.hid (HVX.out.fresh hf5)
            clear hf5
            by_cases hlp : X < Poly.prime
            · have hd5 : decide (X < Poly.prime) = true := decide_eq_true hlp
              have HLP := Lib.hid hlp
              clear hlp
              go_wp2_with fail
              refine ⟨rest_in hlt HE.out HYE.out HB.out (by rw [once_less _ (by have := HYL.out; omega), ← HXE.out, if_pos HLP.out]) HV5.out HF5.out, ?_⟩
              simp [intOf]; have := hb0; omega
            · have hd5 : decide (X < Poly.prime) = false := decide_eq_false hlp
              have HLP := Lib.hid hlp
              clear hlp
              go_wp2_with fail
              refine (minus_c _ vp (Dig.dig X) (Dig.dig Poly.prime) w5 HV5.out (HP.out.fresh HF5.out) (Dig.small_dig _) (Dig.small_dig _) (dig_len_prime (by have := HXE.out; have := HYL.out; omega)) (dig_len_mono (by have := HLP.out; omega)) (by rw [Dig.val_dig, Dig.val_dig]; have := HLP.out; omega)).mono ?_
              rintro e w6 ⟨v6, rfl, hv6, hf6⟩
              have HF6 : Hid (Fresh w1 w6) := Lib.hid (HF5.out.then hf6 (fun _ _ h => h))
              have HV6 : Hid (SlI w6 v6 (Dig.dig (X - Poly.prime))) := Lib.hid (by rw [Dig.val_dig, Dig.val_dig] at hv6; exact hv6)
              clear hv6 hf6
              go_wp2_with fail
              refine ⟨rest_in hlt HE.out HYE.out HB.out (by rw [once_less _ (by have := HYL.out; omega), ← HXE.out, if_neg HLP.out]) HV6.out HF6.out, ?_⟩
              simp [intOf]; have := hb0; omega
          · have hand : ¬ bits .and .i64 (d : Int) (b : Int) = 0 := by
              have := HBIT.out
              rw [decide_eq_false hbz] at this
              exact of_decide_eq_false this
            have hand' : (bits .and .i64 (d : Int) (b : Int) != 0) = true := by simpa using hand
            have HE : Hid (1 = d / 2 ^ (7 - t) % 2) := Lib.hid (by omega)
            clear hbz hand
            go_wp2_with fail
            have HF3' : Hid (Fresh w3 (w3.alloc (.cells #[.int .i64 1] 3))) := Lib.hid ((Keeps.refl _ w3).alloc _)
            refine (plus_c _ _ (Dig.dig (Y + Y)) [1] _ (HV3.out.fresh HF3'.out) (SlI.one (n := 1) (heap_alloc_new w3 _)) (Dig.small_dig _) small_one (dig_len_prime (by have := HYL.out; omega)) (by decide)).mono ?_
            rintro e w4 ⟨v4, rfl, hv4, hf4⟩
            have HFX : Hid (Fresh w1 w4) := Lib.hid (Fresh.then (HF3.out.then HF3'.out (fun _ _ h => h)) hf4 (fun _ _ h => h))
            obtain ⟨X, hX⟩ : ∃ X, X = 2 * Y + 1 := ⟨_, rfl⟩
            have HXE := Lib.hid hX
            have HVX : Hid (SlI w4 v4 (Dig.dig X)) := Lib.hid (by rw [Dig.val_dig, val_one] at hv4; rw [hX, show 2 * Y + 1 = Y + Y + 1 by omega]; exact hv4)
            clear hX HV3 HF3 HF3' hv4 hf4 cx3
            go_wp2_with fail
            refine (less_c _ vp X Poly.prime _ HVX.out (HP.out.fresh HFX.out)).mono ?_
            rintro e w5 ⟨rfl, hf5⟩
            have HF5 : Hid (Fresh w1 w5) := Lib.hid (HFX.out.then hf5 (fun _ _ h => h))
            have HV5 := Lib.hid (HVX.out.fresh hf5)
            clear hf5
            by_cases hlp : X < Poly.prime
            · have hd5 : decide (X < Poly.prime) = true := decide_eq_true hlp
              have HLP := Lib.hid hlp
              clear hlp
              go_wp2_with fail
              refine ⟨rest_in hlt HE.out HYE.out HB.out (by rw [once_less _ (by have := HYL.out; omega), ← HXE.out, if_pos HLP.out]) HV5.out HF5.out, ?_⟩
              simp [intOf]; have := hb0; omega
            · have hd5 : decide (X < Poly.prime) = false := decide_eq_false hlp
              have HLP := Lib.hid hlp
              clear hlp
              go_wp2_with fail
              refine (minus_c _ vp (Dig.dig X) (Dig.dig Poly.prime) w5 HV5.out (HP.out.fresh HF5.out) (Dig.small_dig _) (Dig.small_dig _) (dig_len_prime (by have := HXE.out; have := HYL.out; omega)) (dig_len_mono (by have := HLP.out; omega)) (by rw [Dig.val_dig, Dig.val_dig]; have := HLP.out; omega)).mono ?_
              rintro e w6 ⟨v6, rfl, hv6, hf6⟩
              have HF6 : Hid (Fresh w1 w6) := Lib.hid (HF5.out.then hf6 (fun _ _ h => h))
              have HV6 : Hid (SlI w6 v6 (Dig.dig (X - Poly.prime))) := Lib.hid (by rw [Dig.val_dig, Dig.val_dig] at hv6; exact hv6)
              clear hv6 hf6
              go_wp2_with fail
              refine ⟨rest_in hlt HE.out HYE.out HB.out (by rw [once_less _ (by have := HYL.out; omega), ← HXE.out, if_neg HLP.out]) HV6.out HF6.out, ?_⟩
              simp [intOf]; have := hb0; omega
        · have HT := Lib.hid (show t = 8 by omega)
          have ib : ¬ (0 : Int) < b := by
            rw [hb, HT.out]; decide
          clear hb
          go_wp2_with fail
          refine ⟨⟨j, by omega, rfl, ?_, HF2.out⟩, by simp [intOf]⟩
          have h := HO2.out
          rw [HYE.out, HT.out, Nat.sub_self, Nat.pow_zero, Nat.div_one] at h
          rw [val_drop la j hj, ← HD.out, ← HAA.out, show d + 256 * A = A * 2 ^ 8 + d by omega]
          exact h
end Go.Proofs.Ytdkhpehniciijaa
