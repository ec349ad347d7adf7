/-
  What the proof of laws.FnSeal rests on (many texts in one): Nat8, Rest, TagOfP, SlPart, TagOf, SealedC, FnSeal, ArgAll.
-/
import Derived.Test.YtlafnkcmdnfcpaaFnSealA
import Derived.Test.YtlafnkcmdnfcpaaNums
import Derived.Test.YtlafnkcmdnfcpaaMem
import Derived.Deep.QuietTactic
import Derived.Test.YtlafnkcmdnfcpaaStr
import Derived.ProofKit
import Derived.OpenShut
import Derived.ChangeOld
import Derived.Below
import Derived.SizedLaws
namespace Go.Proofs.Ytlafnkcmdnfcpaa
section
open Go Go.RowKit
/-- the number of bytes -/
def nat8 (l : List UInt8) : Nat := Dig.val (l.map UInt8.toNat)
theorem nat8_take_succ (l : List UInt8) (k : Nat) (h : k < l.length) : nat8 (l.take (k + 1)) = nat8 (l.take k) + 256 ^ k * (l.getD k 0).toNat := by
  unfold nat8
  rw [List.take_succ_eq_append_getElem h, List.map_append, Dig.val_append, List.length_map, List.length_take, Nat.min_eq_left (Nat.le_of_lt h)]
  simp [Dig.val, List.getD, h]
theorem nat8_set (l : List UInt8) (k : Nat) (x : UInt8) (h : k < l.length) : nat8 ((l.set k x).take (k + 1)) = nat8 (l.take k) + 256 ^ k * x.toNat := by
  rw [nat8_take_succ _ _ (by simpa using h)]
  congr 2
  · rw [List.take_set, List.set_eq_of_length_le (by rw [List.length_take]; omega)]
  · simp [List.getD, h]
theorem nat8_lt (l : List UInt8) : nat8 l < 256 ^ l.length := by
  have := Dig.val_lt (l.map UInt8.toNat) (fun d hd => by obtain ⟨x, -, rfl⟩ := List.mem_map.1 hd; exact x.toNat_lt)
  rwa [List.length_map] at this
theorem bytes16_nat8 (l : List UInt8) (h : l.length = 16) : bytes16 (nat8 l) = l := by
  unfold nat8
  have e8 : (l.drop 8).take 8 = l.drop 8 := List.take_of_length_le (by simp; omega)
  rw [← val16 l h, bytes16_two, by64_w64 _ (by simp; omega), by64_w64 _ (by simp; omega), e8, List.take_append_drop]
theorem bytes16_inj (a b : Nat) (ha : a < 340282366920938463463374607431768211456) (hb : b < 340282366920938463463374607431768211456) (h : bytes16 a = bytes16 b) : a = b := by
  have key : ∀ n, n < 340282366920938463463374607431768211456 → nat8 (bytes16 n) = n := by
    intro n hn
    unfold nat8 bytes16
    rw [List.map_append, Dig.val_append, List.length_map, by64_length, by64_val, by64_val]
    simp only [Dig.val, UInt64.toNat_ofNat']
    omega
  rw [← key a ha, ← key b hb, h]
theorem nat8_bytes16 (n : Nat) (hn : n < 340282366920938463463374607431768211456) : nat8 (bytes16 n) = n := by
  unfold nat8 bytes16
  rw [List.map_append, Dig.val_append, List.length_map, by64_length, by64_val, by64_val]
  simp only [Dig.val, UInt64.toNat_ofNat']
  omega
end
section
open Go Go.RowKit
theorem and_bit : ∀ (t : Fin 8) (d : Fin 256), decide (bits .and .i64 (d.val : Int) ((128 / 2 ^ t.val : Nat) : Int) = 0) = decide (d.val / 2 ^ (7 - t.val) % 2 = 0) := by decide +kernel
theorem dig_len_prime {x : Nat} (h : x ≤ 2 * Poly.prime) : (Dig.dig x).length ≤ 100000 := by
  have h1 := dig_len_mono h
  have h2 : (Dig.dig (2 * Poly.prime)).length ≤ 100 := by
    by_cases hc : (Dig.dig (2 * Poly.prime)).length ≤ 100
    · exact hc
    · have h3 := dig_ge (2 * Poly.prime) (by decide)
      have h4 : 256 ^ 100 ≤ 256 ^ ((Dig.dig (2 * Poly.prime)).length - 1) := Nat.pow_le_pow_right (by decide) (by omega)
      have h5 : ¬ (256 ^ 100 ≤ 2 * Poly.prime) := by decide
      exact absurd (Nat.le_trans h4 h3) h5
  omega
/-- the outer loop of rest -/
def RestOut (w1 : World) (la : List Nat) (v i : Value) (wr : World) : Prop :=
  ∃ n : Nat, n ≤ la.length ∧ i = .int .i64 ((n : Int) - 1) ∧ SlI wr v (Dig.dig (Dig.val (la.drop n) % Poly.prime)) ∧ Fresh w1 wr
/-- the inner loop of rest -/
def RestIn (w1 : World) (A d : Nat) (v k : Value) (wr : World) : Prop :=
  ∃ t b : Nat, t ≤ 8 ∧ b = 128 / 2 ^ t ∧ k = .int .i64 (b : Int) ∧ SlI wr v (Dig.dig ((A * 2 ^ t + d / 2 ^ (8 - t)) % Poly.prime)) ∧ Fresh w1 wr
theorem rest_step (A d t e Y : Nat) (ht : t < 8) (he : e = d / 2 ^ (7 - t) % 2) (hY : Y = (A * 2 ^ t + d / 2 ^ (8 - t)) % Poly.prime) :
    (A * 2 ^ (t + 1) + d / 2 ^ (8 - (t + 1))) % Poly.prime = (2 * Y + e) % Poly.prime := by
  have h1 : d / 2 ^ (8 - t) = d / 2 ^ (7 - t) / 2 := by rw [Nat.div_div_eq_div_mul, ← Nat.pow_succ]; congr 2; omega
  have h2 : 8 - (t + 1) = 7 - t := by omega
  rw [h2, hY]
  rw [h1]
  generalize d / 2 ^ (7 - t) = D at *
  have h3 : A * 2 ^ (t + 1) + D = 2 * (A * 2 ^ t + D / 2) + e := by rw [Nat.pow_succ, he]; have := Nat.mul_assoc A (2 ^ t) 2; omega
  rw [h3, Nat.add_mod, Nat.mul_mod, Nat.add_mod (2 * _), Nat.mul_mod 2 (_ % Poly.prime), Nat.mod_mod]
theorem half_step (t : Nat) : 128 / 2 ^ t / 2 = 128 / 2 ^ (t + 1) := by rw [Nat.div_div_eq_div_mul, Nat.pow_succ]
/-- one subtraction is enough -/
theorem once_less (x : Nat) (h : x < 2 * Poly.prime) : x % Poly.prime = if x < Poly.prime then x else x - Poly.prime := by
  by_cases h1 : x < Poly.prime
  · rw [if_pos h1, Nat.mod_eq_of_lt h1]
  · rw [if_neg h1, Nat.mod_eq_sub_mod (by omega), Nat.mod_eq_of_lt (by omega)]
theorem prime_pos : 0 < Poly.prime := by decide
theorem val_nil0 : Dig.val [] = 0 := rfl
theorem val_drop (la : List Nat) (j : Nat) (h : j < la.length) : Dig.val (la.drop j) = la.getD j 0 + 256 * Dig.val (la.drop (j + 1)) := by
  rw [List.drop_eq_getElem_cons h]
  simp [Dig.val, List.getD, h]
theorem SlI.none_of {w : World} {ad : Addr} {c : Nat} (hc : c ≤ maxLen) : SlI w (.slice (some ad) 0 c) [] :=
  Or.inr ⟨ad, c, rfl, Nat.zero_le _, hc, fun j u hu => by simp [valsI] at hu⟩
theorem SlI.one {w : World} {g n : Nat} {T : TypeId} (h : w.heap[g]? = some (.cells #[.int .i64 (n : Int)] T (0, 0))) : SlI w (.slice (some ⟨g, 0, none⟩) 1 1) [n] := by
  have := SlI.of (w := w) (b := g) (o := 0) (c := 1) (l := [n]) (Nat.le_refl _) (by decide) (fun i hi => by
    have : i = 0 := by simp at hi; omega
    subst this
    rw [cell_block h]; rfl)
  exact this
theorem small_one : Dig.Small [1] := by intro d hd; simp at hd; omega
theorem val_one : Dig.val [1] = 1 := rfl
theorem rest_in {w1 wr : World} {A d t e Y X b : Nat} {v : Value} (ht : t < 8) (he : e = d / 2 ^ (7 - t) % 2) (hY : Y = (A * 2 ^ t + d / 2 ^ (8 - t)) % Poly.prime) (hb : b = 128 / 2 ^ t)
    (hX : X = (2 * Y + e) % Poly.prime) (hs : SlI wr v (Dig.dig X)) (hf : Fresh w1 wr) : RestIn w1 A d v (.int .i64 ((b : Int) / 2)) wr := by
  refine ⟨t + 1, b / 2, by omega, by rw [hb, half_step], by simp, ?_, hf⟩
  rw [rest_step A d t e Y ht he hY, ← hX]
  exact hs
attribute [local irreducible] Poly.prime Dig.dig Dig.val
set_option maxRecDepth 100000 in
set_option maxHeartbeats 2000000 in
theorem rest_c (va : Value) (la : List Nat) (w : World) (ha : SlI w va la) (hsa : Dig.Small la) :
    Calls Try.prog 45 #[va] w (RetI w (Dig.dig (Dig.val la % Poly.prime))) := by
  have HA := Lib.hid ha
  have HSA := Lib.hid hsa
  obtain ⟨pa, ca, rfl⟩ := ha.shape
  have hml : la.length ≤ maxLen := ha.len_le
  simp only [maxLen] at hml
  clear ha hsa
  go_enter Try.func45, Try.ntmps45
  go_wp2_with fail
  refine (prime_c w).mono ?_
  rintro e w1 ⟨vp, rfl, hp, hf1⟩
  have HP := Lib.hid hp
  have HF1 := Lib.hid hf1
  clear hp hf1
  go_wp2_with fail
  go_loopw [4, 5] (fun v i wr => RestOut w1 la v i wr) (fun _ i _ => (intOf i + 1).toNat)
  case atStart =>
    refine ⟨la.length, Nat.le_refl _, rfl, ?_, (Keeps.refl _ w1).alloc _⟩
    rw [List.drop_eq_nil_of_le (Nat.le_refl _), val_nil0, Nat.zero_mod, Dig.dig_zero]
    exact SlI.none_of (Nat.zero_le _)
  case round =>
    obtain ⟨n, hn, rfl, hout, hf⟩ := hrel
    have HOUT := Lib.hid hout
    have HF := Lib.hid hf
    clear hout hf
    rcases Nat.eq_zero_or_pos n with hn0 | hn0
    · have HN := Lib.hid hn0
      have ik : ¬ (0 : Int) ≤ (n : Int) - 1 := by omega
      clear hn0
      go_wp2_with fail
      go_ret
      refine ⟨_, rfl, ?_, HF1.out.then HF.out (fun _ _ h => h)⟩
      have h := HOUT.out
      rw [HN.out, List.drop_zero] at h
      exact h
    · obtain ⟨j, rfl⟩ : ∃ j, n = j + 1 := ⟨n - 1, by omega⟩
      have hj : j < la.length := by omega
      have ij : ((j + 1 : Nat) : Int) - 1 = j := by omega
      rw [ij]
      have ij0 : (0 : Int) ≤ j := by omega
      obtain ⟨ba, oa, xa, ea, -, -, hba, hca⟩ := HA.out.form (by omega)
      obtain ⟨rfl, rfl⟩ : pa = some ⟨ba, oa, none⟩ ∧ ca = xa := by injection ea with a1 a2 a3; exact ⟨a1, a3⟩
      obtain ⟨d, hd⟩ : ∃ d, d = la.getD j 0 := ⟨_, rfl⟩
      obtain ⟨A, hA⟩ : ∃ A, A = Dig.val (la.drop (j + 1)) := ⟨_, rfl⟩
      have HCX : Hid (w.cell? ⟨ba, oa + j, none⟩ = some (.int .i64 (d : Int))) := Lib.hid (by rw [hd]; exact hca j hj)
      have hds : d < 256 := by rw [hd]; exact small_getD HSA.out j
      have HD := Lib.hid hd
      have HAA := Lib.hid hA
      have ia : (j : Int) < la.length := by omega
      rw [← hA] at HOUT
      clear ea hca hd hA hn hn0
      obtain ⟨w2, hw2⟩ : ∃ w2, w2 = wr := ⟨_, rfl⟩
      subst hw2
      go_wp2_with fail
      go_loopw [4, 6] (fun v k wr => RestIn w1 A d v k wr) (fun _ k _ => (intOf k).toNat)
      case atStart =>
        refine ⟨0, 128, by omega, by decide, rfl, ?_, HF.out⟩
        have hd0 : d / 2 ^ (8 - 0) = 0 := Nat.div_eq_of_lt hds
        rw [hd0, Nat.pow_zero, Nat.mul_one, Nat.add_zero]
        exact HOUT.out
      case round =>
        obtain ⟨t, b, ht, hb, rfl, hout, hf⟩ := hrel
        obtain ⟨Y, hY⟩ : ∃ Y, Y = (A * 2 ^ t + d / 2 ^ (8 - t)) % Poly.prime := ⟨_, rfl⟩
        rw [← hY] at hout
        have HO2 := Lib.hid hout
        have HF2 := Lib.hid hf
        have HYE := Lib.hid hY
        have HYL : Hid (Y < Poly.prime) := Lib.hid (by rw [hY]; exact Nat.mod_lt _ prime_pos)
        have HB := Lib.hid hb
        have cx : wr.cell? ⟨ba, oa + j, none⟩ = some (.int .i64 (d : Int)) := hf.cellAt (HF1.out.cellAt HCX.out (fun x => x)) (fun x => x)
        clear hout hf hY
        by_cases hlt : t < 8
        · have hb0 : 0 < b := by
            have h1 : 2 ^ t ≤ 2 ^ 7 := Nat.pow_le_pow_right (by decide) (by omega)
            rw [hb]; exact Nat.div_pos h1 (Nat.pow_pos (by decide))
          have hbn : b ≤ 128 := by rw [hb]; exact Nat.div_le_self _ _
          have hb128 : (b : Int) ≤ 128 := by omega
          have ib : (0 : Int) < b := by omega
          have hbit := and_bit ⟨t, hlt⟩ ⟨d, hds⟩
          simp only [← hb] at hbit
          have HBIT := Lib.hid hbit
          clear hb hbit
          go_wp2_with fail
          refine (plus_c _ _ (Dig.dig Y) (Dig.dig Y) wr HO2.out HO2.out (Dig.small_dig _) (Dig.small_dig _) (dig_len_prime (by have := HYL.out; omega)) (dig_len_prime (by have := HYL.out; omega))).mono ?_
          rintro e w3 ⟨v3, rfl, hv3, hf3⟩
          have HF3 : Hid (Fresh w1 w3) := Lib.hid (HF2.out.then hf3 (fun _ _ h => h))
          have HV3 : Hid (SlI w3 v3 (Dig.dig (Y + Y))) := Lib.hid (by rw [Dig.val_dig] at hv3; exact hv3)
          have cx3 : w3.cell? ⟨ba, oa + j, none⟩ = some (.int .i64 (d : Int)) := hf3.cellAt cx (fun x => x)
          clear hv3 hf3 cx
          by_cases hbz : d / 2 ^ (7 - t) % 2 = 0
          · have hand : bits .and .i64 (d : Int) (b : Int) = 0 := by
              have := HBIT.out
              rw [decide_eq_true hbz] at this
              exact of_decide_eq_true this
            have HE : Hid (0 = d / 2 ^ (7 - t) % 2) := Lib.hid hbz.symm
            obtain ⟨X, hX⟩ : ∃ X, X = 2 * Y + 0 := ⟨_, rfl⟩
            have HXE := Lib.hid hX
            have HVX : Hid (SlI w3 v3 (Dig.dig X)) := Lib.hid (by rw [hX, show 2 * Y + 0 = Y + Y by omega]; exact HV3.out)
            have HFX := HF3
            clear hX HV3 HF3 hbz
            go_wp2_with fail
            refine (less_c _ vp X Poly.prime _ HVX.out (HP.out.fresh HFX.out)).mono ?_
            rintro e w5 ⟨rfl, hf5⟩
            have HF5 : Hid (Fresh w1 w5) := Lib.hid (HFX.out.then hf5 (fun _ _ h => h))
            have HV5 := Lib.hid (HVX.out.fresh hf5)
            clear hf5
            by_cases hlp : X < Poly.prime
            · have hd5 : decide (X < Poly.prime) = true := decide_eq_true hlp
              have HLP := Lib.hid hlp
              clear hlp
              go_wp2_with fail
              refine ⟨rest_in hlt HE.out HYE.out HB.out (by rw [once_less _ (by have := HYL.out; omega), ← HXE.out, if_pos HLP.out]) HV5.out HF5.out, ?_⟩
              simp [intOf]; have := hb0; omega
            · have hd5 : decide (X < Poly.prime) = false := decide_eq_false hlp
              have HLP := Lib.hid hlp
              clear hlp
              go_wp2_with fail
              refine (minus_c _ vp (Dig.dig X) (Dig.dig Poly.prime) w5 HV5.out (HP.out.fresh HF5.out) (Dig.small_dig _) (Dig.small_dig _) (dig_len_prime (by have := HXE.out; have := HYL.out; omega)) (dig_len_mono (by have := HLP.out; omega)) (by rw [Dig.val_dig, Dig.val_dig]; have := HLP.out; omega)).mono ?_
              rintro e w6 ⟨v6, rfl, hv6, hf6⟩
              have HF6 : Hid (Fresh w1 w6) := Lib.hid (HF5.out.then hf6 (fun _ _ h => h))
              have HV6 : Hid (SlI w6 v6 (Dig.dig (X - Poly.prime))) := Lib.hid (by rw [Dig.val_dig, Dig.val_dig] at hv6; exact hv6)
              clear hv6 hf6
              go_wp2_with fail
              refine ⟨rest_in hlt HE.out HYE.out HB.out (by rw [once_less _ (by have := HYL.out; omega), ← HXE.out, if_neg HLP.out]) HV6.out HF6.out, ?_⟩
              simp [intOf]; have := hb0; omega
          · have hand : ¬ bits .and .i64 (d : Int) (b : Int) = 0 := by
              have := HBIT.out
              rw [decide_eq_false hbz] at this
              exact of_decide_eq_false this
            have hand' : (bits .and .i64 (d : Int) (b : Int) != 0) = true := by simpa using hand
            have HE : Hid (1 = d / 2 ^ (7 - t) % 2) := Lib.hid (by omega)
            clear hbz hand
            go_wp2_with fail
            have HF3' : Hid (Fresh w3 (w3.alloc (.cells #[.int .i64 1] 3))) := Lib.hid ((Keeps.refl _ w3).alloc _)
            refine (plus_c _ _ (Dig.dig (Y + Y)) [1] _ (HV3.out.fresh HF3'.out) (SlI.one (n := 1) (heap_alloc_new w3 _)) (Dig.small_dig _) small_one (dig_len_prime (by have := HYL.out; omega)) (by decide)).mono ?_
            rintro e w4 ⟨v4, rfl, hv4, hf4⟩
            have HFX : Hid (Fresh w1 w4) := Lib.hid (Fresh.then (HF3.out.then HF3'.out (fun _ _ h => h)) hf4 (fun _ _ h => h))
            obtain ⟨X, hX⟩ : ∃ X, X = 2 * Y + 1 := ⟨_, rfl⟩
            have HXE := Lib.hid hX
            have HVX : Hid (SlI w4 v4 (Dig.dig X)) := Lib.hid (by rw [Dig.val_dig, val_one] at hv4; rw [hX, show 2 * Y + 1 = Y + Y + 1 by omega]; exact hv4)
            clear hX HV3 HF3 HF3' hv4 hf4 cx3
            go_wp2_with fail
            refine (less_c _ vp X Poly.prime _ HVX.out (HP.out.fresh HFX.out)).mono ?_
            rintro e w5 ⟨rfl, hf5⟩
            have HF5 : Hid (Fresh w1 w5) := Lib.hid (HFX.out.then hf5 (fun _ _ h => h))
            have HV5 := Lib.hid (HVX.out.fresh hf5)
            clear hf5
            by_cases hlp : X < Poly.prime
            · have hd5 : decide (X < Poly.prime) = true := decide_eq_true hlp
              have HLP := Lib.hid hlp
              clear hlp
              go_wp2_with fail
              refine ⟨rest_in hlt HE.out HYE.out HB.out (by rw [once_less _ (by have := HYL.out; omega), ← HXE.out, if_pos HLP.out]) HV5.out HF5.out, ?_⟩
              simp [intOf]; have := hb0; omega
            · have hd5 : decide (X < Poly.prime) = false := decide_eq_false hlp
              have HLP := Lib.hid hlp
              clear hlp
              go_wp2_with fail
              refine (minus_c _ vp (Dig.dig X) (Dig.dig Poly.prime) w5 HV5.out (HP.out.fresh HF5.out) (Dig.small_dig _) (Dig.small_dig _) (dig_len_prime (by have := HXE.out; have := HYL.out; omega)) (dig_len_mono (by have := HLP.out; omega)) (by rw [Dig.val_dig, Dig.val_dig]; have := HLP.out; omega)).mono ?_
              rintro e w6 ⟨v6, rfl, hv6, hf6⟩
              have HF6 : Hid (Fresh w1 w6) := Lib.hid (HF5.out.then hf6 (fun _ _ h => h))
              have HV6 : Hid (SlI w6 v6 (Dig.dig (X - Poly.prime))) := Lib.hid (by rw [Dig.val_dig, Dig.val_dig] at hv6; exact hv6)
              clear hv6 hf6
              go_wp2_with fail
              refine ⟨rest_in hlt HE.out HYE.out HB.out (by rw [once_less _ (by have := HYL.out; omega), ← HXE.out, if_neg HLP.out]) HV6.out HF6.out, ?_⟩
              simp [intOf]; have := hb0; omega
        · have HT := Lib.hid (show t = 8 by omega)
          have ib : ¬ (0 : Int) < b := by
            rw [hb, HT.out]; decide
          clear hb
          go_wp2_with fail
          refine ⟨⟨j, by omega, rfl, ?_, HF2.out⟩, by simp [intOf]⟩
          have h := HO2.out
          rw [HYE.out, HT.out, Nat.sub_self, Nat.pow_zero, Nat.div_one] at h
          rw [val_drop la j hj, ← HD.out, ← HAA.out, show d + 256 * A = A * 2 ^ 8 + d by omega]
          exact h
end
section
open Go Go.RowKit
theorem keyR_lt (key : List UInt8) : keyR key < Poly.prime := by
  unfold keyR
  have h1 := clamp0_lt key
  have h2 := clamp1_lt key
  have h3 : (21267647932558653966460912964485513216 : Nat) < Poly.prime := by decide
  omega
/-- the loop of TagOf: blocks from place 16 q on are done -/
def TgRel (wB : World) (R : Nat) (m : List UInt8) (vp vs q : Value) (wr : World) : Prop :=
  ∃ k : Nat, k ≤ (m.length + 15) / 16 ∧ q = .int .i64 k ∧ SlI wr vs (Dig.dig (Poly.horner R 0 (chunks (m.drop (16 * k))) % Poly.prime)) ∧
    SlI wr vp (Dig.dig (R ^ ((chunks (m.drop (16 * k))).length + 1) % Poly.prime)) ∧ Fresh wB wr
theorem tg_chunk (m : List UInt8) (k : Nat) (h : k + 1 ≤ (m.length + 15) / 16) : chunks (m.drop (16 * k)) = blk ((m.drop (16 * k)).take 16) :: chunks (m.drop (16 * (k + 1))) := by
  rw [chunks_cons _ (by rw [List.length_drop]; omega), List.drop_drop, Nat.mul_succ]
theorem tg_sum (R S P M : Nat) (ms : List Nat) (hS : S = Poly.horner R 0 ms % Poly.prime) (hP : P = R ^ (ms.length + 1) % Poly.prime) : (S + M * P) % Poly.prime = Poly.horner R 0 (M :: ms) % Poly.prime := by
  rw [Poly.horner_cons, hS, hP, Nat.add_comm, Nat.add_mod, Nat.mul_mod, Nat.mod_mod, Nat.mod_mod, ← Nat.mul_mod, ← Nat.add_mod]
theorem tg_pow (R P n : Nat) (hP : P = R ^ (n + 1) % Poly.prime) : (P * R) % Poly.prime = R ^ (n + 1 + 1) % Poly.prime := by
  rw [hP, Nat.pow_succ R (n + 1), Nat.mul_mod, Nat.mod_mod, ← Nat.mul_mod]
/-- the bytes that the last loop writes -/
def outK (D : List Nat) (k : Nat) : List UInt8 := (D.take k).map UInt8.ofNat ++ List.replicate (16 - k) 0
theorem outK_len (D : List Nat) (k : Nat) (h : k ≤ 16) (hD : k ≤ D.length) : (outK D k).length = 16 := by
  simp [outK]; omega
theorem outK_set (D : List Nat) (k : Nat) (h : k < 16) (hD : k < D.length) : (outK D k).set k (UInt8.ofNat (D.getD k 0)) = outK D (k + 1) := by
  unfold outK
  have hl : ((D.take k).map UInt8.ofNat).length = k := by simp; omega
  obtain ⟨n, hn⟩ : ∃ n, 16 - k = n + 1 := ⟨15 - k, by omega⟩
  rw [List.set_append_right _ _ (by omega), hl, Nat.sub_self, hn, List.replicate_succ, List.set_cons_zero, show 16 - (k + 1) = n by omega, List.take_succ_eq_append_getElem hD, List.map_append, List.append_assoc]
  simp [List.getD, hD]
theorem outK_end (N k : Nat) (hk : k ≤ 16) (hD : k ≤ (Dig.dig N).length) (he : k = 16 ∨ k = (Dig.dig N).length) : outK (Dig.dig N) k = bytes16 (N % 340282366920938463463374607431768211456) := by
  rw [← bytes16_nat8 (outK (Dig.dig N) k) (outK_len _ _ hk hD)]
  congr 1
  have hmap : (((Dig.dig N).take k).map UInt8.ofNat).map UInt8.toNat = (Dig.dig N).take k := by
    rw [List.map_map]
    conv => rhs; rw [← List.map_id ((Dig.dig N).take k)]
    apply List.map_congr_left
    intro x hx
    have := Dig.small_dig N x (List.mem_of_mem_take hx)
    simp [UInt8.toNat_ofNat', Nat.mod_eq_of_lt this]
  unfold nat8 outK
  rw [List.map_append, Dig.val_append, hmap, val_zeros, Nat.mul_zero, Nat.add_zero]
  rcases he with rfl | rfl
  · conv => rhs; rw [← Dig.val_dig N, ← List.take_append_drop 16 (Dig.dig N), Dig.val_append]
    have hl : ((Dig.dig N).take 16).length = 16 := by rw [List.length_take]; omega
    have hlt := Dig.val_lt ((Dig.dig N).take 16) (fun d hd => Dig.small_dig N d (List.mem_of_mem_take hd))
    rw [hl] at hlt ⊢
    have h3 : (256 : Nat) ^ 16 = 340282366920938463463374607431768211456 := by decide
    rw [h3] at hlt ⊢
    rw [Nat.add_mul_mod_self_left, Nat.mod_eq_of_lt hlt]
  · rw [List.take_length, Dig.val_dig, Nat.mod_eq_of_lt]
    have h1 := dig_lt N
    have h3 : (256 : Nat) ^ 16 = 340282366920938463463374607431768211456 := by decide
    rw [← h3]
    exact Nat.lt_of_lt_of_le h1 (Nat.pow_le_pow_right (by decide) hk)
theorem tag_end (key m : List UInt8) : bytes16 ((Poly.horner (keyR key) 0 (chunks m) % Poly.prime + keyS key) % 340282366920938463463374607431768211456) = tagK key m := by
  unfold tagK tagB tagN
  rw [Poly.runH_mod (keyR key) (chunks m) 0 0 rfl]
theorem keyS_nat8 (key : List UInt8) (h : key.length = 32) : Dig.val ((key.drop 16).map UInt8.toNat) = keyS key := by
  unfold keyS key2 key3
  have e1 : (key.drop 24).take 8 = ((key.drop 16).drop 8).take 8 := by rw [List.drop_drop]
  rw [e1, val16 (key.drop 16) (by simp; omega)]
theorem dig_len_big {x : Nat} (h : x ≤ (2 * Poly.prime + 1) ^ 3) : (Dig.dig x).length ≤ 100000 := by
  rcases Nat.eq_zero_or_pos x with rfl | hx
  · rw [Dig.dig_zero]; decide
  · by_cases hc : (Dig.dig x).length ≤ 100
    · omega
    · have h3 := dig_ge x hx
      have h4 : 256 ^ 100 ≤ 256 ^ ((Dig.dig x).length - 1) := Nat.pow_le_pow_right (by decide) (by omega)
      have h5 : ¬ (256 ^ 100 ≤ (2 * Poly.prime + 1) ^ 3) := by decide
      exact absurd (Nat.le_trans h4 (Nat.le_trans h3 h)) h5
theorem big1 {x : Nat} (h : x ≤ 2 * Poly.prime) : x ≤ (2 * Poly.prime + 1) ^ 3 := Nat.le_trans h (by decide)
theorem big2 {x y : Nat} (hx : x ≤ 2 * Poly.prime) (hy : y ≤ 2 * Poly.prime) : x * y ≤ (2 * Poly.prime + 1) ^ 3 := Nat.le_trans (Nat.mul_le_mul hx hy) (by decide)
theorem big3 {s x y : Nat} (hs : s ≤ 2 * Poly.prime) (hx : x ≤ 2 * Poly.prime) (hy : y ≤ 2 * Poly.prime) : s + x * y ≤ (2 * Poly.prime + 1) ^ 3 := Nat.le_trans (Nat.add_le_add hs (Nat.mul_le_mul hx hy)) (by decide)
theorem blk_le (l : List UInt8) (h : l.length ≤ 16) : blk l ≤ 2 * Poly.prime := by
  have h1 := Dig.val_lt (l.map UInt8.toNat) (small_bytes l)
  rw [List.length_map] at h1
  have h2 : 256 ^ l.length ≤ 256 ^ 16 := Nat.pow_le_pow_right (by decide) h
  have h3 : 256 ^ 16 + 256 ^ 16 * 1 ≤ 2 * Poly.prime := by decide
  unfold blk
  rw [Dig.val_append, List.length_map]
  have h4 : Dig.val [1] = 1 := rfl
  rw [h4]
  omega
theorem tg_part {w w' : World} {bm om lo n c : Nat} {m : List UInt8} {k : Nat} (hb : BytesIn w bm om m) (hf : Fresh w w') (hlo : lo = 16 * k) (hn : n = min 16 (m.length - 16 * k)) (hc : n ≤ c) (hmx : c ≤ maxLen) :
    SlB w' (.slice (some ⟨bm, om + lo, none⟩) n c) ((m.drop (16 * k)).take 16) := by
  have hl : ((m.drop (16 * k)).take 16).length = n := by rw [List.length_take, List.length_drop]; omega
  have := SlB.of (w := w') (b := bm) (o := om + lo) (c := c) (l := (m.drop (16 * k)).take 16) (by omega) hmx (fun i hi => by
    have h := (hb.keeps hf (fun x => x)) (16 * k + i) (by omega)
    rw [hlo, Nat.add_assoc, h]
    simp [List.getD, List.getElem?_drop, show i < 16 by omega])
  rwa [hl] at this
theorem SlB.oneAt {w : World} {g : Nat} {T : TypeId} (x : UInt8) (h : w.heap[g]? = some (.cells #[.int .u8 (u8 x)] T (0, 0))) : SlB w (.slice (some ⟨g, 0, none⟩) 1 1) [x] := by
  have := SlB.of (w := w) (b := g) (o := 0) (c := 1) (l := [x]) (Nat.le_refl _) (by decide) (fun i hi => by
    have : i = 0 := by simp at hi; omega
    subst this
    rw [cell_block h]; rfl)
  exact this
theorem blk_snoc (l : List UInt8) : Dig.val ((l ++ [1]).map UInt8.toNat) = blk l := by
  unfold blk; rw [List.map_append]; rfl
/-- a round of TagOf -/
theorem tg_next {wB wr : World} {R S P M : Nat} {m : List UInt8} {k : Nat} {vp vs : Value} (hk : k + 1 ≤ (m.length + 15) / 16) (hM : M = blk ((m.drop (16 * k)).take 16))
    (hS : S = Poly.horner R 0 (chunks (m.drop (16 * (k + 1)))) % Poly.prime) (hP : P = R ^ ((chunks (m.drop (16 * (k + 1)))).length + 1) % Poly.prime)
    (hs : SlI wr vs (Dig.dig ((S + M * P) % Poly.prime))) (hp : SlI wr vp (Dig.dig (P * R % Poly.prime))) (hf : Fresh wB wr) : TgRel wB R m vp vs (.int .i64 (k : Int)) wr := by
  refine ⟨k, by omega, rfl, ?_, ?_, hf⟩
  · rw [tg_chunk m k hk, ← hM, ← tg_sum R S P M _ hS hP]; exact hs
  · rw [tg_chunk m k hk, List.length_cons, ← tg_pow R P _ hP]; exact hp
end
section
open Go Go.RowKit
theorem SlB.at32 {w : World} {b k : Nat} {T : TypeId} {l : List UInt8} (h : w.heap[b]? = some (.cells (cells8 l) T (0, 0))) (hk : k ≤ l.length) (hl : l.length ≤ maxLen) : SlB w (.slice (some ⟨b, k, none⟩) (l.length - k) (l.length - k)) (l.drop k) := by
  have e : (l.drop k).length = l.length - k := List.length_drop
  have := SlB.of (w := w) (b := b) (o := k) (c := l.length - k) (l := l.drop k) (by omega) (by omega) (fun i hi => by
    rw [cell_block h, cells8_get (by omega)]
    simp [List.getD, List.getElem?_drop])
  rwa [e] at this
theorem SlB.pre {w : World} {b k : Nat} {T : TypeId} {l : List UInt8} (h : w.heap[b]? = some (.cells (cells8 l) T (0, 0))) (hk : k ≤ l.length) (hl : l.length ≤ maxLen) : SlB w (.slice (some ⟨b, 0, none⟩) k l.length) (l.take k) := by
  have e : (l.take k).length = k := by rw [List.length_take]; omega
  have := SlB.of (w := w) (b := b) (o := 0) (c := l.length) (l := l.take k) (by omega) hl (fun i hi => by
    rw [Nat.zero_add, cell_block h, cells8_get (by omega)]
    simp [List.getD, show i < k by omega])
  rwa [e] at this
end
section
open Go Go.RowKit
theorem keyS_le (key : List UInt8) : keyS key ≤ 2 * Poly.prime := Nat.le_trans (Nat.le_of_lt (keyS_lt key)) (by decide)
/-- the last loop of TagOf -/
def TgOut (w4 : World) (D : List Nat) (i : Value) (wr : World) : Prop :=
  ∃ k : Nat, k ≤ 16 ∧ k ≤ D.length ∧ i = .int .i64 k ∧ wr.heap[w4.heap.size]? = some (.cells (cells8 (outK D k)) 27 (0, 0)) ∧ Fresh w4 wr
theorem Fresh.setNew {a : World} {o : Obj} (h : Fresh a (a.alloc o)) (cs : Array Value) : Fresh a ((a.alloc o).setRow a.heap.size cs) := h.setRow (Or.inr (Nat.le_refl _)) cs
theorem horner_nil (R A : Nat) : Poly.horner R A [] = A := rfl
attribute [local irreducible] Poly.prime Dig.dig Dig.val Poly.horner chunks keyR keyS tagK clampL blk bytes16
set_option maxRecDepth 100000 in
set_option maxHeartbeats 2000000 in
theorem TagOf_c (vm : Value) (m key : List UInt8) (w : World) (hs : SlB w vm m) (hl : key.length = 32) (hm : m.length ≤ 211106232532992) :
    Calls Try.prog 30 #[vm, .agg (cells8 key)] w fun e w' => e = .returned (.agg (cells8 (tagK key m))) ∧ Fresh w w' := by
  have HS := Lib.hid hs
  have HL := Lib.hid hl
  have H1 := cells8_one key
  have HTL := Lib.hid (show (key.take 16).length = 16 by simp; omega)
  have HCV := Lib.hid (clamp_val key hl)
  have HKV := Lib.hid (keyS_nat8 key hl)
  have HRL := Lib.hid (keyR_lt key)
  obtain ⟨pm, cm, rfl⟩ : ∃ p c, vm = .slice p m.length c := by
    rcases hs with ⟨rfl, rfl⟩ | ⟨ad, c, rfl, -⟩
    · exact ⟨_, _, rfl⟩
    · exact ⟨_, _, rfl⟩
  clear hs hl
  go_enter Try.func30, Try.ntmps30
  go_wp2_with fail
  have HF0 : Hid (Fresh w ((w.alloc (.cells (cells8 key) 22)).alloc Z16)) := Lib.hid (((Keeps.refl _ w).alloc _).alloc _)
  have HB0 : Hid (((w.alloc (.cells (cells8 key) 22)).alloc Z16).heap[w.heap.size]? = some (.cells (cells8 key) 22 (0, 0))) := Lib.hid (block_alloc (heap_alloc_new w _))
  have HR0 : Hid (((w.alloc (.cells (cells8 key) 22)).alloc Z16).heap[w.heap.size + 1]? = some Z16) := Lib.hid (heap_alloc2_new w _ _)
  have hpre := SlB.pre (k := 16) HB0.out (by rw [HL.out]; decide) (by rw [HL.out]; decide)
  rw [HL.out] at hpre
  refine (Clamped_c _ (key.take 16) _ hpre HTL.out).mono ?_
  clear hpre
  rintro e w1 ⟨v1, rfl, hown, hf⟩
  have HOWN1 := Lib.hid hown
  have HF1 : Hid (Fresh w w1) := Lib.hid (HF0.out.then hf (fun _ _ h => h))
  have HB1 := Lib.hid (hf.at HB0.out)
  have HR1 := Lib.hid (hf.at HR0.out)
  clear hown hf HF0 HB0 HR0
  go_wp2_with fail
  refine (natural_c _ (clampL (key.take 16)) _ HOWN1.out.sl (by rw [clampL_len, HTL.out]; decide)).mono ?_
  rintro e w2 ⟨v2, rfl, hv2, hf2⟩
  have HV2 : Hid (SlI w2 v2 (Dig.dig (keyR key))) := Lib.hid (by rw [HCV.out] at hv2; exact hv2)
  have HF2 : Hid (Fresh w w2) := Lib.hid (HF1.out.then hf2 (fun _ _ h => h))
  have HB2 := Lib.hid (hf2.at HB1.out)
  have HR2 := Lib.hid (hf2.at HR1.out)
  clear hv2 hf2 HF1 HB1 HR1 HOWN1
  go_wp2_with fail
  go_loopw [6, 7, 8] (fun vp vs q wr => TgRel w2 (keyR key) m vp vs q wr) (fun _ _ q _ => (intOf q).toNat)
  case atStart =>
    refine ⟨(m.length + 15) / 16, Nat.le_refl _, by simp, ?_, ?_, (Keeps.refl _ w2).alloc _⟩
    · rw [List.drop_eq_nil_of_le (by omega), chunks_nil, horner_nil, Nat.zero_mod, Dig.dig_zero]
      exact SlI.none_of (Nat.zero_le _)
    · rw [List.drop_eq_nil_of_le (by omega), chunks_nil, List.length_nil, Nat.zero_add, Nat.pow_one, Nat.mod_eq_of_lt HRL.out]
      exact HV2.out.fresh ((Keeps.refl _ w2).alloc _)
  case round =>
    obtain ⟨k, hk, rfl, hsum, hpow, hf⟩ := hrel
    have HSUM := Lib.hid hsum
    have HPOW := Lib.hid hpow
    have HF := Lib.hid hf
    clear hsum hpow hf
    rcases Nat.eq_zero_or_pos k with hk0 | hk0
    · have HK := Lib.hid hk0
      have ik : ¬ (0 : Int) < k := by omega
      clear hk0
      go_wp2_with fail
      have hB := HF.out.at HB2.out
      have hs16 := SlB.at32 (k := 16) hB (by rw [HL.out]; decide) (by rw [HL.out]; decide)
      rw [HL.out] at hs16
      refine (natural_c _ (key.drop 16) wr hs16 (by rw [List.length_drop, HL.out]; decide)).mono ?_
      clear hs16 hB
      rintro e w3 ⟨v9, rfl, hv9, hf3⟩
      have HV9 : Hid (SlI w3 v9 (Dig.dig (keyS key))) := Lib.hid (by rw [HKV.out] at hv9; exact hv9)
      have HF3 : Hid (Fresh w2 w3) := Lib.hid (HF.out.then hf3 (fun _ _ h => h))
      have HS3 := Lib.hid (HSUM.out.fresh hf3)
      clear hv9 hf3
      obtain ⟨S, hS⟩ : ∃ S, S = Poly.horner (keyR key) 0 (chunks (m.drop (16 * k))) % Poly.prime := ⟨_, rfl⟩
      rw [← hS] at HS3
      have HSE : Hid (S = Poly.horner (keyR key) 0 (chunks m) % Poly.prime) := Lib.hid (by rw [HK.out, Nat.mul_zero, List.drop_zero] at hS; exact hS)
      have HSB : Hid (S ≤ 2 * Poly.prime) := Lib.hid (by have := Nat.mod_lt (Poly.horner (keyR key) 0 (chunks (m.drop (16 * k)))) prime_pos; omega)
      clear hS HSUM HPOW
      go_wp2_with fail
      refine (plus_c _ _ (Dig.dig S) (Dig.dig (keyS key)) w3 HS3.out HV9.out (Dig.small_dig _) (Dig.small_dig _) (dig_len_big (big1 HSB.out)) (dig_len_big (big1 (keyS_le key)))).mono ?_
      rintro e w4 ⟨v10, rfl, hv10, hf4⟩
      obtain ⟨N, hN⟩ : ∃ N, N = S + keyS key := ⟨_, rfl⟩
      have HV10 : Hid (SlI w4 v10 (Dig.dig N)) := Lib.hid (by rw [Dig.val_dig, Dig.val_dig, ← hN] at hv10; exact hv10)
      have HF4 : Hid (Fresh w2 w4) := Lib.hid (HF3.out.then hf4 (fun _ _ h => h))
      have HNE : Hid (bytes16 (N % 340282366920938463463374607431768211456) = tagK key m) := Lib.hid (by rw [hN, HSE.out]; exact tag_end key m)
      obtain ⟨D, hD⟩ : ∃ D, D = Dig.dig N := ⟨_, rfl⟩
      rw [← hD] at HV10
      have HDE := Lib.hid hD
      clear hv10 hf4 hN hD HF3 HS3 HV9
      obtain ⟨pd, cd, rfl⟩ := HV10.out.shape
      go_wp2_with (refine wpList_store_row rfl 27 (.tmp 11) (.tmp 55) rfl w4.heap.size (cells8 (List.replicate 16 0)) rfl rfl 27 _ (heap_alloc_new w4 _) info16B rfl (cells8_one _) ?_)
      go_loopw [12] (fun i wr => TgOut w4 D i wr) (fun i _ => 16 - (intOf i).toNat)
      case atStart => exact ⟨0, by omega, Nat.zero_le _, rfl, row_heap (heap_alloc_new w4 _), Fresh.setNew ((Keeps.refl _ w4).alloc _) _⟩
      case round =>
        obtain ⟨i, hi, hiD, rfl, hblk, hfo⟩ := hrel
        have HBLK := Lib.hid hblk
        have HFO := Lib.hid hfo
        clear hblk hfo
        by_cases hc : i < 16 ∧ i < D.length
        · obtain ⟨h16, hDl⟩ := hc
          obtain ⟨bd, od, xd, ed, -, -, hbd, hcd⟩ := HV10.out.form (by omega)
          obtain ⟨rfl, rfl⟩ : pd = some ⟨bd, od, none⟩ ∧ cd = xd := by injection ed with a1 a2 a3; exact ⟨a1, a3⟩
          obtain ⟨d, hd⟩ : ∃ d, d = D.getD i 0 := ⟨_, rfl⟩
          have cx : wr.cell? ⟨bd, od + i, none⟩ = some (.int .i64 (d : Int)) := by rw [hd]; exact HFO.out.cellAt (hcd i hDl) (fun x => x)
          have hds : d < 256 := by rw [hd]; exact small_getD (by rw [HDE.out]; exact Dig.small_dig N) i
          have cz : wr.cell? ⟨w4.heap.size, i, none⟩ = some (.int .u8 (u8 ((outK D i).getD i 0))) := by rw [cell_block HBLK.out]; exact cells8_get (by rw [outK_len D i hi hiD]; exact h16)
          have fz : wr.frozen? ⟨w4.heap.size, i, none⟩ = false := free_block HBLK.out i
          have HD2 := Lib.hid hd
          have j1 : (i : Int) < 16 := by omega
          have j2 : (i : Int) < D.length := by omega
          have j3 : (d : Int) < 256 := by omega
          have j4 : (0 : Int) ≤ d := by omega
          clear ed hcd hd
          go_wp2_with fail
          refine ⟨⟨i + 1, by omega, by omega, by go_num, ?_, HFO.out.setCell (Or.inr (Nat.le_refl _)) _⟩, by simp [intOf]; omega⟩
          have hu : (d : Int) = u8 (UInt8.ofNat d) := by unfold u8; rw [UInt8.toNat_ofNat']; omega
          have h := block_set (i := i) (v := .int .u8 (u8 (UInt8.ofNat d))) HBLK.out
          rw [cells8_set, HD2.out, outK_set D i h16 hDl, ← HD2.out, ← hu] at h
          exact h
        · have HE : Hid (outK D i = tagK key m) := Lib.hid (by
            rw [← HNE.out, HDE.out]
            rw [HDE.out] at hiD hc
            exact outK_end N i hi hiD (by omega))
          have HBT : Hid (wr.heap[w4.heap.size]? = some (.cells (cells8 (tagK key m)) 27 (0, 0))) := Lib.hid (by rw [← HE.out]; exact HBLK.out)
          have HRR : Hid (wr.heap[w.heap.size + 1]? = some Z16) := Lib.hid (HFO.out.at (HF4.out.at HR2.out))
          have HTS := Lib.hid (show (cells8 (tagK key m)).size = 16 by rw [cells8_size, tagK_length])
          have HFIN : Hid (Fresh w wr) := Lib.hid (HF2.out.then (HF4.out.then HFO.out (fun _ _ h => h)) (fun _ _ h => h))
          by_cases h16 : i < 16
          · have j1 : (i : Int) < 16 := by omega
            have j2 : ¬ (i : Int) < D.length := by omega
            go_wp2_with (first
              | (refine wpList_load_row rfl 27 (.tmp 11) rfl w4.heap.size rfl 27 (cells8 (tagK key m)) (0, 0) _ HBT.out Try.underlying27 rfl ?_ ?_; (rw [HTS.out]; exact info16B))
              | (refine wpList_store_row rfl 27 (.tmp 4) (.tmp 73) rfl (w.heap.size + 1) (cells8 (tagK key m)) rfl rfl 27 _ HRR.out ?_ ?_ (cells8_one _) ?_; (rw [HTS.out]; exact info16B); (rw [HTS.out]; rfl)))
            refine bodyPost_ret (results_cell_row (g := w.heap.size + 1) rfl _ _ 27 (cells8 (tagK key m)) (0, 0) _ rfl (row_heap HRR.out) Try.underlying27 rfl ?_) rfl ?_
            · rw [HTS.out]; exact info16B
            · exact ⟨rfl, HFIN.out.setRow (Or.inr (by omega)) _⟩
          · have j1 : ¬ (i : Int) < 16 := by omega
            go_wp2_with (first
              | (refine wpList_load_row rfl 27 (.tmp 11) rfl w4.heap.size rfl 27 (cells8 (tagK key m)) (0, 0) _ HBT.out Try.underlying27 rfl ?_ ?_; (rw [HTS.out]; exact info16B))
              | (refine wpList_store_row rfl 27 (.tmp 4) (.tmp 73) rfl (w.heap.size + 1) (cells8 (tagK key m)) rfl rfl 27 _ HRR.out ?_ ?_ (cells8_one _) ?_; (rw [HTS.out]; exact info16B); (rw [HTS.out]; rfl)))
            refine bodyPost_ret (results_cell_row (g := w.heap.size + 1) rfl _ _ 27 (cells8 (tagK key m)) (0, 0) _ rfl (row_heap HRR.out) Try.underlying27 rfl ?_) rfl ?_
            · rw [HTS.out]; exact info16B
            · exact ⟨rfl, HFIN.out.setRow (Or.inr (by omega)) _⟩
    · obtain ⟨j, rfl⟩ : ∃ j, k = j + 1 := ⟨k - 1, by omega⟩
      have ik : (0 : Int) < ((j + 1 : Nat) : Int) := by omega
      have hm0 : 0 < m.length := by omega
      obtain ⟨bm, om, xm, em, hlc, hmx, hbm, hcm⟩ := HS.out.form hm0
      obtain ⟨rfl, rfl⟩ : pm = some ⟨bm, om, none⟩ ∧ cm = xm := by injection em with a1 a2 a3; exact ⟨a1, a3⟩
      have HBY := Lib.hid (show BytesIn w bm om m from hcm)
      clear em hcm
      have hj16 : 16 * j < m.length := by omega
      obtain ⟨S, hS⟩ : ∃ S, S = Poly.horner (keyR key) 0 (chunks (m.drop (16 * (j + 1)))) % Poly.prime := ⟨_, rfl⟩
      obtain ⟨P, hP⟩ : ∃ P, P = keyR key ^ ((chunks (m.drop (16 * (j + 1)))).length + 1) % Poly.prime := ⟨_, rfl⟩
      obtain ⟨M, hM⟩ : ∃ M, M = blk ((m.drop (16 * j)).take 16) := ⟨_, rfl⟩
      rw [← hS] at HSUM
      rw [← hP] at HPOW
      have HSB : Hid (S ≤ 2 * Poly.prime) := Lib.hid (by have := Nat.mod_lt (Poly.horner (keyR key) 0 (chunks (m.drop (16 * (j + 1))))) prime_pos; omega)
      have HPB : Hid (P ≤ 2 * Poly.prime) := Lib.hid (by have := Nat.mod_lt (keyR key ^ ((chunks (m.drop (16 * (j + 1)))).length + 1)) prime_pos; omega)
      have HML : Hid (M ≤ 2 * Poly.prime) := Lib.hid (by rw [hM]; exact blk_le _ (by rw [List.length_take]; omega))
      have HPL : Hid (((m.drop (16 * j)).take 16).length = min 16 (m.length - 16 * j)) := Lib.hid (by rw [List.length_take, List.length_drop])
      have HSE := Lib.hid hS
      have HPE := Lib.hid hP
      have HM := Lib.hid hM
      clear hS hP hM
      simp only [maxLen] at hmx
      by_cases hlast : m.length < 16 * (j + 1)
      · have il : ¬ 16 * ((j : Int) + 1) ≤ m.length := by omega
        go_upto_region 8 with (at_builtin; refine wpList_appB rfl (.tmp 26) (.tmp 36) rfl wr.heap.size _ _ [] ((m.drop (16 * j)).take 16) rfl rfl (World.ownsRow_lit wr #[] 0 (Nat.le_refl _) (by decide) rfl) (tg_part (k := j) HBY.out ((HF2.out.then HF.out (fun _ _ h => h)).alloc _) (by omega) (by omega) (by omega) (by unfold maxLen; omega)) (by have := HPL.out; rw [List.length_nil]; omega) (by simp) ?_; intro v9 w3 hA)
        have HP9 : Hid (OwnB 5 w3 wr.heap.size v9 ((m.drop (16 * j)).take 16)) := Lib.hid (by have h := hA.1; rw [List.nil_append] at h; exact h)
        have HF3 : Hid (Fresh wr w3) := Lib.hid (Fresh.then ((Keeps.refl _ wr).alloc _) hA.2.1 (fun q hq e => by omega))
        clear hA
        go_wp2_with (at_builtin; refine wpList_appB rfl (.tmp 39) (.tmp 40) rfl wr.heap.size _ _ ((m.drop (16 * j)).take 16) [1] rfl rfl (OwnB.kept HP9.out ((Keeps.refl (fun _ => False) w3).alloc _) (fun _ _ h => h)) (SlB.oneAt 1 (heap_alloc_new w3 _)) (by have := HPL.out; rw [List.length_singleton]; omega) (by have := HF3.out.size; simp; omega) ?_; intro v10 w4 hA)
        have HP10 : Hid (SlB w4 v10 ((m.drop (16 * j)).take 16 ++ [1])) := Lib.hid hA.1.sl
        have HF4 : Hid (Fresh wr w4) := Lib.hid (Fresh.then (HF3.out.alloc _) hA.2.1 (fun q hq e => by omega))
        clear hA HP9 HF3
        refine (natural_c _ _ w4 HP10.out (by have := HPL.out; rw [List.length_append, List.length_singleton]; omega)).mono ?_
        rintro e w5 ⟨v11, rfl, hv11, hf5⟩
        have HV11 : Hid (SlI w5 v11 (Dig.dig M)) := Lib.hid (by rw [blk_snoc, ← HM.out] at hv11; exact hv11)
        have HF5 : Hid (Fresh wr w5) := Lib.hid (HF4.out.then hf5 (fun _ _ h => h))
        clear hv11 hf5 HP10 HF4
        go_wp2_with fail
        refine (times_c _ _ (Dig.dig M) (Dig.dig P) w5 HV11.out (HPOW.out.fresh HF5.out) (Dig.small_dig _) (Dig.small_dig _) (dig_len_big (big1 HML.out)) (dig_len_big (big1 HPB.out))).mono ?_
        rintro e w6 ⟨v12, rfl, hv12, hf6⟩
        have HV12 : Hid (SlI w6 v12 (Dig.dig (M * P))) := Lib.hid (by rw [Dig.val_dig, Dig.val_dig] at hv12; exact hv12)
        have HF6 : Hid (Fresh wr w6) := Lib.hid (HF5.out.then hf6 (fun _ _ h => h))
        clear hv12 hf6 HV11 HF5
        go_wp2_with fail
        refine (plus_c _ _ (Dig.dig S) (Dig.dig (M * P)) w6 (HSUM.out.fresh HF6.out) HV12.out (Dig.small_dig _) (Dig.small_dig _) (dig_len_big (big1 HSB.out)) (dig_len_big (big2 HML.out HPB.out))).mono ?_
        rintro e w7 ⟨v13, rfl, hv13, hf7⟩
        have HV13 : Hid (SlI w7 v13 (Dig.dig (S + M * P))) := Lib.hid (by rw [Dig.val_dig, Dig.val_dig] at hv13; exact hv13)
        have HF7 : Hid (Fresh wr w7) := Lib.hid (HF6.out.then hf7 (fun _ _ h => h))
        clear hv13 hf7 HV12 HF6
        go_wp2_with fail
        refine (rest_c _ (Dig.dig (S + M * P)) w7 HV13.out (Dig.small_dig _)).mono ?_
        rintro e w8 ⟨v14, rfl, hv14, hf8⟩
        have HV14 : Hid (SlI w8 v14 (Dig.dig ((S + M * P) % Poly.prime))) := Lib.hid (by rw [Dig.val_dig] at hv14; exact hv14)
        have HF8 : Hid (Fresh wr w8) := Lib.hid (HF7.out.then hf8 (fun _ _ h => h))
        clear hv14 hf8 HV13 HF7
        go_wp2_with fail
        refine (times_c _ _ (Dig.dig P) (Dig.dig (keyR key)) w8 (HPOW.out.fresh HF8.out) (HV2.out.fresh (HF.out.then HF8.out (fun _ _ h => h))) (Dig.small_dig _) (Dig.small_dig _) (dig_len_big (big1 HPB.out)) (dig_len_big (big1 (by have := HRL.out; omega)))).mono ?_
        rintro e w10 ⟨v15, rfl, hv15, hf10⟩
        have HV15 : Hid (SlI w10 v15 (Dig.dig (P * keyR key))) := Lib.hid (by rw [Dig.val_dig, Dig.val_dig] at hv15; exact hv15)
        have HF10 : Hid (Fresh wr w10) := Lib.hid (HF8.out.then hf10 (fun _ _ h => h))
        have HV14b := Lib.hid (HV14.out.fresh hf10)
        clear hv15 hf10 HF8
        go_wp2_with fail
        refine (rest_c _ (Dig.dig (P * keyR key)) w10 HV15.out (Dig.small_dig _)).mono ?_
        rintro e w11 ⟨v16, rfl, hv16, hf11⟩
        have HV16 : Hid (SlI w11 v16 (Dig.dig (P * keyR key % Poly.prime))) := Lib.hid (by rw [Dig.val_dig] at hv16; exact hv16)
        have HF11 : Hid (Fresh w2 w11) := Lib.hid (HF.out.then (HF10.out.then hf11 (fun _ _ h => h)) (fun _ _ h => h))
        have HV14c := Lib.hid (HV14b.out.fresh hf11)
        clear hv16 hf11 HF10 HV14b
        go_wp2_with fail
        refine ⟨?rel, ?measure⟩
        case rel => exact tg_next hk HM.out HSE.out HPE.out HV14c.out HV16.out HF11.out
        case measure => simp [intOf]
      · have il3 : 16 * ((j : Int) + 1) ≤ m.length := by omega
        go_upto_region 8 with (at_builtin; refine wpList_appB rfl (.tmp 26) (.tmp 36) rfl wr.heap.size _ _ [] ((m.drop (16 * j)).take 16) rfl rfl (World.ownsRow_lit wr #[] 0 (Nat.le_refl _) (by decide) rfl) (tg_part (k := j) HBY.out ((HF2.out.then HF.out (fun _ _ h => h)).alloc _) (by omega) (by omega) (by omega) (by unfold maxLen; omega)) (by have := HPL.out; rw [List.length_nil]; omega) (by simp) ?_; intro v9 w3 hA)
        have HP9 : Hid (OwnB 5 w3 wr.heap.size v9 ((m.drop (16 * j)).take 16)) := Lib.hid (by have h := hA.1; rw [List.nil_append] at h; exact h)
        have HF3 : Hid (Fresh wr w3) := Lib.hid (Fresh.then ((Keeps.refl _ wr).alloc _) hA.2.1 (fun q hq e => by omega))
        clear hA
        go_wp2_with (at_builtin; refine wpList_appB rfl (.tmp 39) (.tmp 40) rfl wr.heap.size _ _ ((m.drop (16 * j)).take 16) [1] rfl rfl (OwnB.kept HP9.out ((Keeps.refl (fun _ => False) w3).alloc _) (fun _ _ h => h)) (SlB.oneAt 1 (heap_alloc_new w3 _)) (by have := HPL.out; rw [List.length_singleton]; omega) (by have := HF3.out.size; simp; omega) ?_; intro v10 w4 hA)
        have HP10 : Hid (SlB w4 v10 ((m.drop (16 * j)).take 16 ++ [1])) := Lib.hid hA.1.sl
        have HF4 : Hid (Fresh wr w4) := Lib.hid (Fresh.then (HF3.out.alloc _) hA.2.1 (fun q hq e => by omega))
        clear hA HP9 HF3
        refine (natural_c _ _ w4 HP10.out (by have := HPL.out; rw [List.length_append, List.length_singleton]; omega)).mono ?_
        rintro e w5 ⟨v11, rfl, hv11, hf5⟩
        have HV11 : Hid (SlI w5 v11 (Dig.dig M)) := Lib.hid (by rw [blk_snoc, ← HM.out] at hv11; exact hv11)
        have HF5 : Hid (Fresh wr w5) := Lib.hid (HF4.out.then hf5 (fun _ _ h => h))
        clear hv11 hf5 HP10 HF4
        go_wp2_with fail
        refine (times_c _ _ (Dig.dig M) (Dig.dig P) w5 HV11.out (HPOW.out.fresh HF5.out) (Dig.small_dig _) (Dig.small_dig _) (dig_len_big (big1 HML.out)) (dig_len_big (big1 HPB.out))).mono ?_
        rintro e w6 ⟨v12, rfl, hv12, hf6⟩
        have HV12 : Hid (SlI w6 v12 (Dig.dig (M * P))) := Lib.hid (by rw [Dig.val_dig, Dig.val_dig] at hv12; exact hv12)
        have HF6 : Hid (Fresh wr w6) := Lib.hid (HF5.out.then hf6 (fun _ _ h => h))
        clear hv12 hf6 HV11 HF5
        go_wp2_with fail
        refine (plus_c _ _ (Dig.dig S) (Dig.dig (M * P)) w6 (HSUM.out.fresh HF6.out) HV12.out (Dig.small_dig _) (Dig.small_dig _) (dig_len_big (big1 HSB.out)) (dig_len_big (big2 HML.out HPB.out))).mono ?_
        rintro e w7 ⟨v13, rfl, hv13, hf7⟩
        have HV13 : Hid (SlI w7 v13 (Dig.dig (S + M * P))) := Lib.hid (by rw [Dig.val_dig, Dig.val_dig] at hv13; exact hv13)
        have HF7 : Hid (Fresh wr w7) := Lib.hid (HF6.out.then hf7 (fun _ _ h => h))
        clear hv13 hf7 HV12 HF6
        go_wp2_with fail
        refine (rest_c _ (Dig.dig (S + M * P)) w7 HV13.out (Dig.small_dig _)).mono ?_
        rintro e w8 ⟨v14, rfl, hv14, hf8⟩
        have HV14 : Hid (SlI w8 v14 (Dig.dig ((S + M * P) % Poly.prime))) := Lib.hid (by rw [Dig.val_dig] at hv14; exact hv14)
        have HF8 : Hid (Fresh wr w8) := Lib.hid (HF7.out.then hf8 (fun _ _ h => h))
        clear hv14 hf8 HV13 HF7
        go_wp2_with fail
        refine (times_c _ _ (Dig.dig P) (Dig.dig (keyR key)) w8 (HPOW.out.fresh HF8.out) (HV2.out.fresh (HF.out.then HF8.out (fun _ _ h => h))) (Dig.small_dig _) (Dig.small_dig _) (dig_len_big (big1 HPB.out)) (dig_len_big (big1 (by have := HRL.out; omega)))).mono ?_
        rintro e w10 ⟨v15, rfl, hv15, hf10⟩
        have HV15 : Hid (SlI w10 v15 (Dig.dig (P * keyR key))) := Lib.hid (by rw [Dig.val_dig, Dig.val_dig] at hv15; exact hv15)
        have HF10 : Hid (Fresh wr w10) := Lib.hid (HF8.out.then hf10 (fun _ _ h => h))
        have HV14b := Lib.hid (HV14.out.fresh hf10)
        clear hv15 hf10 HF8
        go_wp2_with fail
        refine (rest_c _ (Dig.dig (P * keyR key)) w10 HV15.out (Dig.small_dig _)).mono ?_
        rintro e w11 ⟨v16, rfl, hv16, hf11⟩
        have HV16 : Hid (SlI w11 v16 (Dig.dig (P * keyR key % Poly.prime))) := Lib.hid (by rw [Dig.val_dig] at hv16; exact hv16)
        have HF11 : Hid (Fresh w2 w11) := Lib.hid (HF.out.then (HF10.out.then hf11 (fun _ _ h => h)) (fun _ _ h => h))
        have HV14c := Lib.hid (HV14b.out.fresh hf11)
        clear hv16 hf11 HF10 HV14b
        go_wp2_with fail
        refine ⟨?rel, ?measure⟩
        case rel => exact tg_next hk HM.out HSE.out HPE.out HV14c.out HV16.out HF11.out
        case measure => simp [intOf]
end
section
open Go Go.RowKit
set_option linter.unusedVariables false
attribute [local irreducible] Cha.iter Cha.rounds Cha.dbl Cha.qr ckOf run doA doN CK.ks blkB tagK boundL padL sealL onceL
theorem xs_seal (K : CK) (m : List UInt8) : xs (fun i => (ksL K 64 m.length).getD i 0) m = sealL K m := by
  unfold sealL
  apply xs_congr
  intro i hi
  unfold ksL
  simp [List.getD, hi]
attribute [local irreducible] xs ksL
set_option maxRecDepth 100000 in
set_option maxHeartbeats 4000000 in
theorem Sealed_c (bk ok ck : Nat) (vn vb vm : Value) (key nonce a m : List UInt8) (w : World) (hk : key.length = 32) (hn : nonce.length = 12 ∨ nonce.length = 24) (h1 : BytesAt w bk ok key) (h2 : SlB w vn nonce) (ha : SlB w vb a) (hm : SlB w vm m) (la : a.length ≤ 140737488351232) (lm : m.length ≤ 1048576) :
    Calls Try.prog 15 #[.slice (some ⟨bk, ok, none⟩) 32 ck, vn, vb, vm] w (SealR w (sealL (ckOf key nonce) m) (tagK (onceL (ckOf key nonce)) (boundL a (sealL (ckOf key nonce) m)))) := by
  obtain ⟨pn, cn, rfl⟩ := h2.slice
  obtain ⟨pb, cb, rfl⟩ := ha.slice
  obtain ⟨pm, cm, rfl⟩ := hm.slice
  obtain ⟨n, hnm⟩ : ∃ n, n = m.length := ⟨_, rfl⟩
  rw [← hnm] at hm lm ⊢
  have HE := Lib.hid hnm
  have HKL := Lib.hid hk
  have HNO := Lib.hid hn
  have H1 := Lib.hid h1
  have HNS := Lib.hid h2
  have HAS := Lib.hid ha
  have HMS := Lib.hid hm
  have HLA := Lib.hid la
  have HLM := Lib.hid lm
  obtain ⟨KK, hKK⟩ : ∃ K, K = ckOf key nonce := ⟨_, rfl⟩
  rw [← hKK]
  have HKE := Lib.hid hKK
  have HOL : Hid ((onceL KK).length = 32) := Lib.hid (onceL_len KK)
  have HOE : Hid (ksL KK 0 32 = onceL KK) := Lib.hid (by unfold onceL; rfl)
  have HSL : Hid ((sealL KK m).length = n) := Lib.hid (by rw [sealL_len]; exact hnm.symm)
  have HTL : Hid ((cells8 (tagK (onceL KK) (boundL a (sealL KK m)))).size = 16) := Lib.hid (by rw [cells8_size, tagK_length])
  have HOS : Hid ((cells8 (onceL KK)).size = 32) := Lib.hid (by rw [cells8_size, onceL_len])
  have HBN : Hid ((boundL a (sealL KK m)).length ≤ 211106232532992) := Lib.hid (by have := boundL_len a (sealL KK m); rw [sealL_len] at this; omega)
  have HST := Lib.hid (fun (w' : World) (hw : Fresh w w') => stream_c bk ok ck (.slice pn nonce.length cn) 64 n 64 rfl key nonce w' hk hn (h1.keeps hw (fun x => x)) (h2.fresh hw) (by unfold endK; omega))
  have HS0 := Lib.hid (fun (w' : World) (hw : Fresh w w') => (show Calls Try.prog 29 #[.slice (some ⟨bk, ok, none⟩) 32 ck, .slice pn nonce.length cn, .int .i64 0, .int .i64 32] w' (RetB 5 w' (ksL (ckOf key nonce) 0 32)) from stream_c bk ok ck (.slice pn nonce.length cn) 0 32 0 rfl key nonce w' hk hn (h1.keeps hw (fun x => x)) (h2.fresh hw) (by unfold endK; omega)))
  clear hnm hk hn h1 h2 ha hm la hKK
  go_enter Try.func15, Try.ntmps15
  refine wp_seq_hold (fun K0 HK0 => ?_)
  go_wp2_with fail
  have HB9 : Hid ((w.alloc (.cells #[Value.int .u8 0, Value.int .u8 0, Value.int .u8 0, Value.int .u8 0, Value.int .u8 0, Value.int .u8 0, Value.int .u8 0, Value.int .u8 0, Value.int .u8 0, Value.int .u8 0, Value.int .u8 0, Value.int .u8 0, Value.int .u8 0, Value.int .u8 0, Value.int .u8 0, Value.int .u8 0] 27)).heap[w.heap.size]? = _) := Lib.hid (heap_alloc_new w _)
  have HF2 : Hid (Fresh w (w.alloc (.cells #[Value.int .u8 0, Value.int .u8 0, Value.int .u8 0, Value.int .u8 0, Value.int .u8 0, Value.int .u8 0, Value.int .u8 0, Value.int .u8 0, Value.int .u8 0, Value.int .u8 0, Value.int .u8 0, Value.int .u8 0, Value.int .u8 0, Value.int .u8 0, Value.int .u8 0, Value.int .u8 0] 27))) := Lib.hid ((Keeps.refl _ w).alloc _)
  generalize (w.alloc (.cells #[Value.int .u8 0, Value.int .u8 0, Value.int .u8 0, Value.int .u8 0, Value.int .u8 0, Value.int .u8 0, Value.int .u8 0, Value.int .u8 0, Value.int .u8 0, Value.int .u8 0, Value.int .u8 0, Value.int .u8 0, Value.int .u8 0, Value.int .u8 0, Value.int .u8 0, Value.int .u8 0] 27)) = w2 at HB9 HF2 ⊢
  have hb9 : w.heap.size < w2.heap.size := lt_of_block HB9.out
  refine HK0.out _ _ ?_
  clear HK0
  refine wp_seq_hold (fun K1 HK1 => ?_)
  go_wp2_with fail
  refine (HST.out w2 HF2.out).mono ?_
  rintro e w3 ⟨v3, rfl, ho, hf⟩
  obtain ⟨p3, c3, rfl⟩ := ho.slice
  have HX3 : Hid (Fresh w2 w3) := Lib.hid hf
  have HO3 := Lib.hid ho.sl
  rw [ksL_len]
  clear ho hf
  go_wp2_with fail
  refine (xored_c (.slice pm n cm) (.slice p3 n c3) m (ksL (ckOf key nonce) 64 n) w3 ((HMS.out.fresh HF2.out).fresh HX3.out) (by have := HO3.out; rwa [ksL_len] at this) (by rw [ksL_len, ← HE.out]; exact Nat.le_refl _) (by rw [← HE.out]; have := HLM.out; omega)).mono ?_
  rintro e w4 ⟨v4, rfl, ho, hf⟩
  rw [HE.out, xs_seal, ← HKE.out] at ho
  have HX4 : Hid (Fresh w2 w4) := Lib.hid (HX3.out.trans hf)
  have HO4 := Lib.hid (ho.mono HX3.out.size)
  obtain ⟨p4, c4, hv4⟩ := HO4.out.slice
  rw [HSL.out] at hv4
  subst hv4
  clear ho hf HO3 HX3
  go_wp2_with fail
  refine HK1.out _ _ ?_
  clear HK1
  refine wp_seq_hold (fun K2 HK2 => ?_)
  go_wp2_with (refine wpList_store_row rfl 22 (.tmp 11) (.tmp 19) rfl w4.heap.size (vals8 (List.replicate 32 0)).toArray rfl rfl 22 _ (heap_alloc_new w4 _) info32C rfl (cells8_one _) ?_; (try simp only [Act.put]); generalize hwS : World.setRow _ _ _ = wS; have HBS : Hid (wS.heap[w4.heap.size]? = some (.cells (vals8 (List.replicate 32 0)).toArray 22 (0, 0))) := Lib.hid (by rw [← hwS]; exact row_heap (heap_alloc_new w4 _)); have HFS : Hid (Fresh w4 wS) := Lib.hid (by rw [← hwS]; exact ((Keeps.refl _ w4).alloc _).setRow (Or.inr (Nat.le_refl _)) _); clear hwS)
  refine HK2.out _ _ ?_
  clear HK2
  have HXS : Hid (Fresh w2 wS) := Lib.hid (HX4.out.trans HFS.out)
  have hszw4 := HX4.out.size
  obtain ⟨g11, hg11⟩ : ∃ g, g = w4.heap.size := ⟨_, rfl⟩
  rw [← hg11] at HBS ⊢
  have hg1 : w2.heap.size ≤ g11 := by omega
  have HOS4 : Hid (OwnB 5 wS w2.heap.size (.slice p4 n c4) (sealL KK m)) := Lib.hid (HO4.out.kept HFS.out (fun _ _ x => x))
  have HNE : Hid (∀ q, (Value.slice p4 n c4).ownBlock = some q → ¬ q = g11) := Lib.hid (fun q e h => by have := (HO4.out.lt q e).2; omega)
  clear HO4 hg11
  refine wp_seq_hold (fun K3 HK3 => ?_)
  go_wp2_with fail
  refine wp_region_ord (fun w' => Keeps (fun q => q = g11) wS w') [(0, true), (1, true), (2, true), (3, false), (4, false)] (by kernel_rfl) (by kernel_rfl) ((Keeps.refl _ wS).drew) ?_
  iterate 3 (refine ord_quiet rfl (fun K hK => ?_); go_simp; refine hK _ ?_; clear hK K)
  refine ord_loud rfl (fun K hK => ?_)
  go_wp2_with fail
  refine (HS0.out wS.drew ((HF2.out.trans HXS.out).drew)).mono ?_
  rintro e w5 ⟨v5, rfl, ho, hf⟩
  rw [← HKE.out, HOE.out] at ho
  have HX5 : Hid (Fresh wS w5) := Lib.hid (((Keeps.refl _ wS).drew).trans hf)
  have HS5 := Lib.hid ho.sl
  obtain ⟨p5, c5, hv5⟩ := ho.slice
  rw [HOL.out] at hv5
  subst hv5
  clear ho hf
  go_wp2_with fail
  refine hK _ _ (Fresh.to HX5.out) ?_
  clear hK K
  refine ord_loud rfl (fun K hK => ?_)
  refine wpList_copyB rfl (.tmp 20) (.tmp 23) 24 24 rfl 5 (by kernel_rfl) (by kernel_rfl) g11 0 32 32 _ (onceL KK) rfl rfl HS5.out (vals8 (List.replicate 32 0)) 22 (HX5.out.at HBS.out) (by rw [HOL.out]; decide) ?_
  intro w6 HG HK6
  have HX6 : Hid (Keeps (fun q => q = g11) wS w6) := Lib.hid ((Fresh.to HX5.out).trans HK6.out)
  have HB11 : Hid (w6.heap[g11]? = some (.cells (cells8 (onceL KK)) 22 (0, 0))) := Lib.hid (by
    have h := HG.out
    rw [List.take_of_length_le (by rw [HOL.out]; exact Nat.le_refl _), zeros_splice _ HOL.out] at h
    exact h)
  refine wpList_nil (hK _ _ HX6.out ?_)
  clear hK K HG HK6
  refine ord_last ?_
  go_wp2_with fail
  refine HK3.out _ _ ?_
  clear HK3
  have HX26 : Hid (Fresh w2 w6) := Lib.hid (Fresh.then HXS.out HX6.out (fun q hq e => by omega))
  have HX06 : Hid (Fresh w w6) := Lib.hid (HF2.out.trans HX26.out)
  have HB96 := Lib.hid (HX26.out.at HB9.out)
  have HO6 : Hid (OwnB 5 w6 w2.heap.size (.slice p4 n c4) (sealL KK m)) := Lib.hid (OwnB.kept' HOS4.out HX6.out HNE.out)
  have hne : ¬ g11 = w.heap.size := by omega
  refine wp_seq_hold (fun K5 HK5 => ?_)
  go_wp2_with fail
  refine wp_region_ord (fun w' => Keeps (fun q => q = w.heap.size) w6 w') [(0, true), (1, true), (2, true), (4, true), (3, false), (5, false), (6, true), (7, false)] (by kernel_rfl) (by kernel_rfl) ((Keeps.refl _ w6).drew) ?_
  iterate 3 (refine ord_quiet rfl (fun K hK => ?_); go_simp; refine hK _ ?_; clear hK K)
  refine ord_load (.agg (cells8 (onceL KK))) rfl (by rfl) (fun w' hw' => exec_load_row _ _ rfl g11 rfl _ _ _ (hw'.at HB11.out hne) Try.underlying22 rfl (by rw [HOS.out]; exact info32C)) ?_
  refine ord_loud rfl (fun K hK => ?_)
  go_wp2_with fail
  refine (Bound_c (.slice pb a.length cb) (.slice p4 n c4) a (sealL KK m) _ ((HAS.out.fresh HX06.out).fresh ((Keeps.refl _ w6).drew)) (HO6.out.sl.fresh ((Keeps.refl _ w6).drew)) HLA.out (by rw [HSL.out]; exact HLM.out)).mono ?_
  rintro e w7 ⟨v7, rfl, ho, hf⟩
  have HS7 := Lib.hid ho.sl
  have HX67 : Hid (Fresh w6 w7) := Lib.hid (((Keeps.refl _ w6).drew).trans hf)
  obtain ⟨p7, c7, rfl⟩ := ho.slice
  clear ho hf
  go_wp2_with fail
  refine hK _ _ (Fresh.to HX67.out) ?_
  clear hK K
  refine ord_loud rfl (fun K hK => ?_)
  go_wp2_with fail
  refine (TagOf_c _ (boundL a (sealL KK m)) (onceL KK) w7 HS7.out HOL.out HBN.out).mono ?_
  rintro e w8 ⟨rfl, hf⟩
  have HX68 : Hid (Fresh w6 w8) := Lib.hid (HX67.out.trans hf)
  clear hf
  go_wp2_with fail
  refine hK _ _ (Fresh.to HX68.out) ?_
  clear hK K
  iterate 1 (refine ord_quiet rfl (fun K hK => ?_); go_simp; refine hK _ ?_; clear hK K)
  have HB9c := Lib.hid (HX68.out.at HB96.out)
  refine ord_loud rfl (fun K hK => ?_)
  refine wpList_store_row rfl 27 (.tmp 9) (.tmp 30) rfl w.heap.size (cells8 (tagK (onceL KK) (boundL a (sealL KK m)))) rfl rfl 27 _ HB9c.out (by rw [HTL.out]; exact info16B) (by rw [HTL.out]; rfl) (cells8_one _) ?_
  refine wpList_nil (hK _ _ ((Fresh.to HX68.out).trans ((Keeps.refl (fun q => q = w.heap.size) w8).setRow (Or.inl rfl) _)) ?_)
  clear hK K
  refine ord_last ?_
  go_wp2_with fail
  refine HK5.out _ _ ?_
  go_wp2_with fail
  refine bodyPost_ret (results_pair (g := w.heap.size) rfl _ _ 27 (cells8 (tagK (onceL KK) (boundL a (sealL KK m)))) (0, 0) _ rfl (row_heap HB9c.out) Try.underlying27 rfl (by rw [HTL.out]; exact info16B)) rfl ?_
  have HKW : Keeps (fun q => q = w.heap.size) w6 (w8.setRow w.heap.size (cells8 (tagK (onceL KK) (boundL a (sealL KK m))))) := (Fresh.to HX68.out).trans ((Keeps.refl (fun q => q = w.heap.size) w8).setRow (Or.inl rfl) _)
  refine ⟨_, rfl, ?_, Fresh.then HX06.out HKW (fun q hq e => by omega)⟩
  exact (OwnB.kept' HO6.out HKW (fun q e e2 => by have h := (HO6.out.lt q e).1; omega)).mono HF2.out.size
end
section
open Go Go.RowKit
set_option linter.unusedVariables false
attribute [local irreducible] Cha.iter Cha.rounds Cha.dbl Cha.qr ckOf run doA doN CK.ks withinB xs tagK boundL padL sealL onceL blkB ksL
noncomputable def fsBody : Code := Try.f3.body.getD .skip
noncomputable def fs4 : Code := rgt (rgt (rgt fsBody))
noncomputable def fs5 : Code := rgt (rgt (rgt (rgt fsBody)))
theorem within_lit (c : UInt32) (A : Int) (hA : A = u32 c) (n : Nat) (w : World) (hn : n ≤ 281474976710656) : Calls Try.prog 13 #[.int .u32 A, .int .i64 (n : Int)] w fun e w' => e = .returned (.bool (withinB c n)) ∧ w' = w := by
  subst hA
  exact within2_c c n w hn
theorem exec_eq16 {o : Oper} {a : Act} {w : World} (x y : Operand) (ho : o.op = .binOp .eql 27 x y 27) (l1 l2 : List UInt8) (hx : a.eval x = .agg (cells8 l1)) (hy : a.eval y = .agg (cells8 l2)) (h1 : l1.length = 16) (h2 : l2.length = 16) :
    (execOp a.eval o).run Try.prog w = .ok (.value (.bool (decide (l1 = l2)))) w := by
  unfold execOp
  have hg : (eqGuard .eql 27 x y (.agg (cells8 l1)) (.agg (cells8 l2))).run Try.prog w = .ok () w := by
    simp [eqGuard]
  simp only [ho, hx, hy, Sem.run_bind, hg, run_eql16 l1 l2 h1 h2, Result.andThen_ok, Sem.run_pure]
theorem wpList_knownG {P : Program} {ops : Array Oper} {rest : List Oper} {o : Oper} {a : Act} {w : World} {Q : Exit → Act → World → Prop} (hg : Region.wanted o (yielded ops a.tmps) = true) (v : Value) (hr : (execOp a.eval o).run P w = .ok (.value v) w)
    (h : wpList P ops Q rest (a.put o.dst v) w) : wpList P ops Q (o :: rest) a w := by
  unfold wpList
  rw [if_pos hg]
  left
  unfold Oper.wp
  rw [hr]
  exact h
set_option maxRecDepth 100000 in
set_option maxHeartbeats 4000000 in
theorem fs5_c (R : Ending → World → Prop) (g1 g2 n ca cb : Nat) (pa pb : Option Addr) (S T : List UInt8) (r0 r1 r2 r3 r4 r5 r6 r7 r8 r13 r14 r15 r16 r17 r18 r19 r20 r21 r22 r23 r24 r25 r26 r27 r28 r29 r30 r31 r32 r33 r34 r35 r36 r37 r38 r39 r40 r41 r42 : Value) (w : World) (hS1 : SlB w (.slice pa n ca) S) (hS2 : SlB w (.slice pb n cb) S) (hT : T.length = 16)
    (h1 : w.heap[g1]? = some (.cells (cells8 T) 27 (0, 0))) (h2 : w.heap[g2]? = some (.cells (cells8 T) 27 (0, 0))) (h : R (.returned (.bool true)) w) :
    Code.wp Try.prog fs5 (bodyPost Try.prog Try.f3 R) ⟨#[r0, r1, r2, r3, r4, r5, r6, r7, r8, .slice pa n ca, .pointer (some ⟨g1, 0, none⟩), .slice pb n cb, .pointer (some ⟨g2, 0, none⟩), r13, r14, r15, r16, r17, r18, r19, r20, r21, r22, r23, r24, r25, r26, r27, r28, r29, r30, r31, r32, r33, r34, r35, r36, r37, r38, r39, r40, r41, r42], []⟩ w := by
  conv => arg 2; whnf
  dsimp only
  have hr1 := run_strB _ _ _ hS1
  have hr2 := run_strB _ _ _ hS2
  have H1 := Lib.hid h1
  have H2 := Lib.hid h2
  have HT := Lib.hid hT
  have HTS := Lib.hid (show (cells8 T).size = 16 by rw [cells8_size, hT])
  have HH := Lib.hid h
  clear h1 h2 hT h hS1 hS2
  go_wp2_with (first
    | (refine wpList_knownG (by rfl) (.agg (cells8 T)) (exec_load_row _ (.tmp 10) rfl g1 rfl _ _ _ H1.out Try.underlying27 rfl (by rw [HTS.out]; exact info16B)) ?_)
    | (refine wpList_knownG (by rfl) (.agg (cells8 T)) (exec_load_row _ (.tmp 12) rfl g2 rfl _ _ _ H2.out Try.underlying27 rfl (by rw [HTS.out]; exact info16B)) ?_)
    | (refine wpList_knownG (by rfl) (.bool true) ((exec_eq16 (w := w) (.tmp 39) (.tmp 40) rfl T T rfl rfl HT.out HT.out).trans (by rw [decide_eq_true rfl])) ?_))
  exact HH.out
set_option maxRecDepth 100000 in
set_option maxHeartbeats 4000000 in
theorem fs4_c (R : Ending → World → Prop) (bk g1 n ca cm cbe : Nat) (pa pm pbe : Option Addr) (key nonce a m : List UInt8) (KK : CK) (r0 r1 r6 r7 r8 r11 r12 r13 r14 r15 r16 r17 r18 r19 r20 r21 r22 r23 r24 r25 r26 r27 r28 r29 r30 r31 r32 r33 r34 r35 r36 r37 r38 r39 r40 r41 r42 : Value) (w : World) (hk : key.length = 32) (hnl : nonce.length = 12) (hKK : KK = ckOf key nonce)
    (hbk : w.heap[bk]? = some (.cells (cells8 key) 22 (0, 0))) (hbn : w.heap[bk + 1]? = some (.cells (cells8 nonce) 23 (0, 0)))
    (hbe : SlB w (.slice pbe a.length cbe) a) (hm : SlB w (.slice pm n cm) m) (la : a.length ≤ 140737488351232) (hn : n = m.length) (lm : n ≤ 1048576) (hS1 : SlB w (.slice pa n ca) (sealL KK m))
    (h1 : w.heap[g1]? = some (.cells (cells8 (tagK (onceL KK) (boundL a (sealL KK m)))) 27 (0, 0))) (h : ∀ w', Fresh w w' → R (.returned (.bool true)) w') :
    Code.wp Try.prog fs4 (bodyPost Try.prog Try.f3 R) ⟨#[r0, r1, .slice pbe a.length cbe, .slice pm n cm, .pointer (some ⟨bk, 0, none⟩), .pointer (some ⟨bk + 1, 0, none⟩), r6, r7, r8, .slice pa n ca, .pointer (some ⟨g1, 0, none⟩), r11, r12, r13, r14, r15, r16, r17, r18, r19, r20, r21, r22, r23, r24, r25, r26, r27, r28, r29, r30, r31, r32, r33, r34, r35, r36, r37, r38, r39, r40, r41, r42], []⟩ w := by
  conv => arg 2; whnf
  dsimp only
  have HKL := Lib.hid hk
  have HNL := Lib.hid hnl
  have HKE := Lib.hid hKK
  have HBK := Lib.hid hbk
  have HBN := Lib.hid hbn
  have HBE := Lib.hid hbe
  have HMS := Lib.hid hm
  have HLA := Lib.hid la
  have HS1 := Lib.hid hS1
  have H1 := Lib.hid h1
  have HH := Lib.hid h
  have HE := Lib.hid hn
  have HLM := Lib.hid lm
  have HSL : Hid ((sealL KK m).length = n) := Lib.hid (by rw [sealL_len]; exact hn.symm)
  have HTL : Hid ((cells8 (tagK (onceL KK) (boundL a (sealL KK m)))).size = 16) := Lib.hid (by rw [cells8_size, tagK_length])
  have HF0 : Hid (Fresh w w) := Lib.hid (Keeps.refl _ w)
  clear hk hnl hKK hbk hbn hbe hm la hS1 h1 h hn lm
  refine wp_seq_hold (fun K2 HK2 => ?_)
  go_wp2_with fail
  refine wp_region_wa (fun w' => Fresh w w') 11 rfl (by kernel_rfl) ?_
  have HA1_ : Hid (Fresh w w) := Lib.hid (Keeps.refl _ _)
  have HA2_ : Hid (Fresh w w.drew) := Lib.hid (HF0.out.drew)
  have HA3_ : Hid (Fresh w w.drew) := Lib.hid (HF0.out.drew)
  have HA4_ : Hid (Fresh w w.drew) := Lib.hid (HA1_.out.drew)
  refine wa_quiet 0 (by kernel_rfl) rfl HA4_.out (fun K hK => ?_); go_simp; refine hK _ ?_; clear hK K
  refine wa_quiet 1 (by kernel_rfl) rfl HA4_.out (fun K hK => ?_); go_simp; refine hK _ ?_; clear hK K
  refine wa_quiet 2 (by kernel_rfl) rfl HA4_.out (fun K hK => ?_); go_simp; refine hK _ ?_; clear hK K
  refine wa_quiet 3 (by kernel_rfl) rfl HA4_.out (fun K hK => ?_); go_simp; refine hK _ ?_; clear hK K
  refine wa_all [4, 8] (by kernel_rfl) (by decide) (fun i hi => ?_)
  simp only [List.mem_cons, List.not_mem_nil, or_false] at hi
  rcases hi with rfl | rfl
  · refine wa_loud rfl (fun K hK => ?_)
    go_wp2_with fail
    refine (Sealed_c bk 0 32 (.slice (some ⟨bk + 1, 0, none⟩) 12 12) (.slice pbe a.length cbe) (.slice pm n cm) key nonce a m _ HKL.out (Or.inl HNL.out) (BytesAt.of_block (HA2_.out.at HBK.out)) (SlB.all32 (HA2_.out.at HBN.out) HNL.out (by decide)) (HBE.out.fresh HA2_.out) (HMS.out.fresh HA2_.out) HLA.out (by rw [← HE.out]; exact HLM.out)).mono ?_
    rintro e w5_ ⟨v, rfl, ho, hf⟩
    rw [← HKE.out] at ho ⊢
    obtain ⟨p6_, c7_, hv⟩ := ho.slice
    rw [HSL.out] at hv
    subst hv
    have HO8_ := Lib.hid ho
    have hszc := hf.size
    have HA9_ : Hid (Fresh w w5_) := Lib.hid (HA2_.out.trans hf)
    have HA10_ : Hid (Fresh w w5_) := Lib.hid (HA3_.out.trans hf)
    have HA11_ : Hid (Fresh w w5_) := Lib.hid (HA4_.out.trans hf)
    clear ho hf
    have HA12_ : Hid (Fresh w5_ w5_) := Lib.hid (Keeps.refl _ _)
    go_wp2_with fail
    refine hK _ _ HA11_.out ?_
    clear hK K
    refine wa_quiet 5 (by kernel_rfl) rfl HA11_.out (fun K hK => ?_); go_simp; refine hK _ ?_; clear hK K
    refine wa_quiet 6 (by kernel_rfl) rfl HA11_.out (fun K hK => ?_); go_simp; refine hK _ ?_; clear hK K
    refine wa_quiet 7 (by kernel_rfl) rfl HA11_.out (fun K hK => ?_); go_simp; refine hK _ ?_; clear hK K
    refine wa_all [8] (by kernel_rfl) (by decide) (fun i hi => ?_)
    simp only [List.mem_cons, List.not_mem_nil, or_false] at hi
    subst hi
    refine wa_loud rfl (fun K hK => ?_)
    go_wp2_with fail
    have hsz16_ := HA11_.out.size
    generalize hw14_ : w5_.alloc _ = w13_
    have HL15_ : Hid (w13_.heap[w5_.heap.size]? = some (.cells (cells8 (List.replicate 16 0)) 27 (0, 0))) := Lib.hid (by rw [← hw14_]; exact heap_alloc_new w5_ _)
    have hsz16_b : w5_.heap.size < w13_.heap.size := lt_of_block HL15_.out
    have HA17_ : Hid (Fresh w w13_) := Lib.hid ((by rw [← hw14_]; exact (HA9_.out.alloc _)))
    have HA18_ : Hid (Fresh w w13_) := Lib.hid ((by rw [← hw14_]; exact (HA10_.out.alloc _)))
    have HA19_ : Hid (Fresh w w13_) := Lib.hid ((by rw [← hw14_]; exact (HA11_.out.alloc _)))
    have HA20_ : Hid (Fresh w5_ w13_) := Lib.hid ((by rw [← hw14_]; exact (HA12_.out.alloc _)))
    clear hw14_
    have HA21_ : Hid (Fresh w13_ w13_) := Lib.hid (Keeps.refl _ _)
    refine hK _ _ HA19_.out ?_
    clear hK K
    refine wa_quiet 9 (by kernel_rfl) rfl HA19_.out (fun K hK => ?_); go_simp; refine hK _ ?_; clear hK K
    refine wa_all [10] (by kernel_rfl) (by decide) (fun i hi => ?_)
    simp only [List.mem_cons, List.not_mem_nil, or_false] at hi
    subst hi
    refine wa_loud rfl (fun K hK => ?_)
    have HBA := Lib.hid (HA21_.out.at HL15_.out)
    have HKC := Lib.hid (OwnB.kept' (HO8_.out.kept HA20_.out (fun _ _ x => x)) ((Keeps.refl (fun q => q = w5_.heap.size) w13_).setRow (p := w5_.heap.size) (Or.inl rfl) (cells8 (tagK (onceL KK) (boundL a (sealL KK m))))) (fun q e e2 => by have := HO8_.out.lt q e; omega)).sl
    have HRT := Lib.hid (row_heap (cs := cells8 (tagK (onceL KK) (boundL a (sealL KK m)))) HBA.out)
    have HA23_ : Hid (Fresh w (w13_.setRow (w5_.heap.size) (cells8 (tagK (onceL KK) (boundL a (sealL KK m)))))) := Lib.hid (HA17_.out.setRow (Or.inr (by have := HF0.out.size; omega)) _)
    have HA24_ : Hid (Fresh w (w13_.setRow (w5_.heap.size) (cells8 (tagK (onceL KK) (boundL a (sealL KK m)))))) := Lib.hid (HA18_.out.setRow (Or.inr (by have := HF0.out.size; omega)) _)
    refine wpList_store_row rfl 27 (.tmp 12) (.tmp 32) rfl (w5_.heap.size) (cells8 (tagK (onceL KK) (boundL a (sealL KK m)))) rfl rfl 27 _ HBA.out (by rw [HTL.out]; exact info16B) (by rw [HTL.out]; rfl) (cells8_one _) ?_
    refine wpList_nil (hK _ _ (HA19_.out.setRow (Or.inr (by omega)) _) ?_)
    clear hK K
    generalize w13_.setRow (w5_.heap.size) (cells8 (tagK (onceL KK) (boundL a (sealL KK m)))) = w22_ at HKC HRT HA23_ HA24_ ⊢
    refine wa_done (by kernel_rfl) ?_
    go_wp2_with fail
    refine HK2.out _ _ ?_
    refine fs5_c _ g1 (w5_.heap.size) n _ _ _ _ (sealL KK m) (tagK (onceL KK) (boundL a (sealL KK m))) _ _ _ _ _ _ _ _ _ _ _ _ _ _ _ _ _ _ _ _ _ _ _ _ _ _ _ _ _ _ _ _ _ _ _ _ _ _ _ _ (HS1.out.fresh HA23_.out) HKC.out (tagK_length _ _) (HA23_.out.at H1.out) HRT.out ?_
    exact HH.out _ HA23_.out
  · refine wa_loud rfl (fun K hK => ?_)
    go_wp2_with fail
    have hsz8_ := HA4_.out.size
    generalize hw6_ : w.alloc _ = w5_
    have HL7_ : Hid (w5_.drew.heap[w.heap.size]? = some (.cells (cells8 (List.replicate 16 0)) 27 (0, 0))) := Lib.hid (by rw [← hw6_]; exact heap_alloc_new w _)
    have hsz8_b : w.heap.size < w5_.drew.heap.size := lt_of_block HL7_.out
    have HA9_ : Hid (Fresh w w5_.drew) := Lib.hid ((by rw [← hw6_]; exact (HA2_.out.alloc _)))
    have HA10_ : Hid (Fresh w w5_.drew) := Lib.hid ((by rw [← hw6_]; exact (HA3_.out.alloc _)))
    have HA11_ : Hid (Fresh w w5_.drew) := Lib.hid ((by rw [← hw6_]; exact (HA4_.out.alloc _)))
    clear hw6_
    have HA12_ : Hid (Fresh w5_.drew w5_.drew) := Lib.hid (Keeps.refl _ _)
    refine hK _ _ HA11_.out ?_
    clear hK K
    refine wa_all [4] (by kernel_rfl) (by decide) (fun i hi => ?_)
    simp only [List.mem_cons, List.not_mem_nil, or_false] at hi
    subst hi
    refine wa_loud rfl (fun K hK => ?_)
    go_wp2_with fail
    refine (Sealed_c bk 0 32 (.slice (some ⟨bk + 1, 0, none⟩) 12 12) (.slice pbe a.length cbe) (.slice pm n cm) key nonce a m _ HKL.out (Or.inl HNL.out) (BytesAt.of_block (HA9_.out.at HBK.out)) (SlB.all32 (HA9_.out.at HBN.out) HNL.out (by decide)) (HBE.out.fresh HA9_.out) (HMS.out.fresh HA9_.out) HLA.out (by rw [← HE.out]; exact HLM.out)).mono ?_
    rintro e w13_ ⟨v, rfl, ho, hf⟩
    rw [← HKE.out] at ho ⊢
    obtain ⟨p14_, c15_, hv⟩ := ho.slice
    rw [HSL.out] at hv
    subst hv
    have HO16_ := Lib.hid ho
    have hszc := hf.size
    have HA17_ : Hid (Fresh w w13_) := Lib.hid (HA9_.out.trans hf)
    have HA18_ : Hid (Fresh w w13_) := Lib.hid (HA10_.out.trans hf)
    have HA19_ : Hid (Fresh w w13_) := Lib.hid (HA11_.out.trans hf)
    have HA20_ : Hid (Fresh w5_.drew w13_) := Lib.hid (HA12_.out.trans hf)
    clear ho hf
    have HA21_ : Hid (Fresh w13_ w13_) := Lib.hid (Keeps.refl _ _)
    go_wp2_with fail
    refine hK _ _ HA19_.out ?_
    clear hK K
    refine wa_quiet 5 (by kernel_rfl) rfl HA19_.out (fun K hK => ?_); go_simp; refine hK _ ?_; clear hK K
    refine wa_quiet 6 (by kernel_rfl) rfl HA19_.out (fun K hK => ?_); go_simp; refine hK _ ?_; clear hK K
    refine wa_quiet 7 (by kernel_rfl) rfl HA19_.out (fun K hK => ?_); go_simp; refine hK _ ?_; clear hK K
    refine wa_quiet 9 (by kernel_rfl) rfl HA19_.out (fun K hK => ?_); go_simp; refine hK _ ?_; clear hK K
    refine wa_all [10] (by kernel_rfl) (by decide) (fun i hi => ?_)
    simp only [List.mem_cons, List.not_mem_nil, or_false] at hi
    subst hi
    refine wa_loud rfl (fun K hK => ?_)
    have HBA := Lib.hid (HA20_.out.at HL7_.out)
    have HKC := Lib.hid (OwnB.kept' (HO16_.out.kept HA21_.out (fun _ _ x => x)) ((Keeps.refl (fun q => q = w.heap.size) w13_).setRow (p := w.heap.size) (Or.inl rfl) (cells8 (tagK (onceL KK) (boundL a (sealL KK m))))) (fun q e e2 => by have := HO16_.out.lt q e; omega)).sl
    have HRT := Lib.hid (row_heap (cs := cells8 (tagK (onceL KK) (boundL a (sealL KK m)))) HBA.out)
    have HA23_ : Hid (Fresh w (w13_.setRow (w.heap.size) (cells8 (tagK (onceL KK) (boundL a (sealL KK m)))))) := Lib.hid (HA17_.out.setRow (Or.inr (by have := HF0.out.size; omega)) _)
    have HA24_ : Hid (Fresh w (w13_.setRow (w.heap.size) (cells8 (tagK (onceL KK) (boundL a (sealL KK m)))))) := Lib.hid (HA18_.out.setRow (Or.inr (by have := HF0.out.size; omega)) _)
    refine wpList_store_row rfl 27 (.tmp 12) (.tmp 32) rfl (w.heap.size) (cells8 (tagK (onceL KK) (boundL a (sealL KK m)))) rfl rfl 27 _ HBA.out (by rw [HTL.out]; exact info16B) (by rw [HTL.out]; rfl) (cells8_one _) ?_
    refine wpList_nil (hK _ _ (HA19_.out.setRow (Or.inr (by omega)) _) ?_)
    clear hK K
    generalize w13_.setRow (w.heap.size) (cells8 (tagK (onceL KK) (boundL a (sealL KK m)))) = w22_ at HKC HRT HA23_ HA24_ ⊢
    refine wa_done (by kernel_rfl) ?_
    go_wp2_with fail
    refine HK2.out _ _ ?_
    refine fs5_c _ g1 (w.heap.size) n _ _ _ _ (sealL KK m) (tagK (onceL KK) (boundL a (sealL KK m))) _ _ _ _ _ _ _ _ _ _ _ _ _ _ _ _ _ _ _ _ _ _ _ _ _ _ _ _ _ _ _ _ _ _ _ _ _ _ _ _ (HS1.out.fresh HA23_.out) HKC.out (tagK_length _ _) (HA23_.out.at H1.out) HRT.out ?_
    exact HH.out _ HA23_.out
set_option maxRecDepth 100000 in
set_option maxHeartbeats 4000000 in
theorem fnSeal_c (key nonce a m : List UInt8) (va vm : Value) (w : World) (hk : key.length = 32) (hnl : nonce.length = 12) (ha : SlB w va a) (la : a.length ≤ 140737488351232) (hm : SlB w vm m) (lmm : m.length ≤ 140737488351232) :
    Calls Try.prog 3 #[.agg (cells8 key), .agg (cells8 nonce), va, vm] w fun e w' => e = .returned (.bool true) ∧ Fresh w w' := by
  obtain ⟨pbe, cbe, rfl⟩ := ha.slice
  obtain ⟨pm, cm, rfl⟩ := hm.slice
  obtain ⟨n, hn⟩ : ∃ n, n = m.length := ⟨_, rfl⟩
  rw [← hn] at hm lmm ⊢
  obtain ⟨KK, hKK⟩ : ∃ K, K = ckOf key nonce := ⟨_, rfl⟩
  have HKE := Lib.hid hKK
  have HBE := Lib.hid ha
  have HMS := Lib.hid hm
  have HLA := Lib.hid la
  have HE := Lib.hid hn
  have HSL : Hid ((sealL KK m).length = n) := Lib.hid (by rw [sealL_len]; exact hn.symm)
  have HTL : Hid ((cells8 (tagK (onceL KK) (boundL a (sealL KK m)))).size = 16) := Lib.hid (by rw [cells8_size, tagK_length])
  clear ha hm la hn hKK
  have HKL := Lib.hid hk
  have HNL := Lib.hid hnl
  have h1 := cells8_one key
  have h2 := cells8_one nonce
  clear hk hnl
  go_enter Try.func3, Try.ntmps3
  refine wp_seq_hold (fun K0 HK0 => ?_)
  go_wp2_with fail
  have HBK := Lib.hid (heap_alloc2_old w (.cells (cells8 key) 22) (.cells (cells8 nonce) 23))
  have HBN := Lib.hid (heap_alloc2_new w (.cells (cells8 key) 22) (.cells (cells8 nonce) 23))
  have HF2 : Hid (Fresh w ((w.alloc (.cells (cells8 key) 22)).alloc (.cells (cells8 nonce) 23))) := Lib.hid (((Keeps.refl _ w).alloc _).alloc _)
  generalize ((w.alloc (.cells (cells8 key) 22)).alloc (.cells (cells8 nonce) 23)) = w2 at HBK HBN HF2 ⊢
  refine HK0.out _ _ ?_
  clear HK0
  refine wp_seq_hold (fun K1 HK1 => ?_)
  go_wp2_with fail
  refine (within_lit 1 1 rfl n w2 (by omega)).mono ?_
  rintro e w3 ⟨rfl, hw3⟩
  subst w3
  cases hwi : withinB 1 n with
  | false =>
    go_wp2_with fail
    go_ret
    exact ⟨rfl, HF2.out⟩
  | true =>
    have HWI := Lib.hid (within_true hwi)
    clear hwi
    go_wp2_with fail
    refine HK1.out _ _ ?_
    clear HK1
    refine wp_seq_hold (fun K2 HK2 => ?_)
    go_wp2_with fail
    have HA1_ : Hid (Fresh w2 w2) := Lib.hid (Keeps.refl _ _)
    refine wp_region_wa (fun w' => Fresh w2 w') 11 rfl (by kernel_rfl) ?_
    have HA2_ : Hid (Fresh w2 w2) := Lib.hid (Keeps.refl _ _)
    have HA3_ : Hid (Fresh w w2.drew) := Lib.hid (HF2.out.drew)
    have HA4_ : Hid (Fresh w2 w2.drew) := Lib.hid (HA1_.out.drew)
    have HA5_ : Hid (Fresh w2 w2.drew) := Lib.hid (HA2_.out.drew)
    refine wa_load 0 (.agg (cells8 key)) (by kernel_rfl) rfl HA5_.out (by rfl) (fun w' hw' => load32 _ rfl rfl HKL.out HBK.out (HA1_.out.trans hw')) ?_
    refine wa_quiet 1 (by kernel_rfl) rfl HA5_.out (fun K hK => ?_); go_simp; refine hK _ ?_; clear hK K
    refine wa_quiet 2 (by kernel_rfl) rfl HA5_.out (fun K hK => ?_); go_simp; refine hK _ ?_; clear hK K
    refine wa_quiet 3 (by kernel_rfl) rfl HA5_.out (fun K hK => ?_); go_simp; refine hK _ ?_; clear hK K
    refine wa_all [4, 8] (by kernel_rfl) (by decide) (fun i hi => ?_)
    simp only [List.mem_cons, List.not_mem_nil, or_false] at hi
    rcases hi with rfl | rfl
    · refine wa_loud rfl (fun K hK => ?_)
      go_wp2_with fail
      refine (seal_c (.slice (some ⟨w.heap.size + 1, 0, none⟩) 12 12) (.slice pbe a.length cbe) (.slice pm n cm) key nonce a m _ HKL.out (Or.inl HNL.out) (SlB.all32 (HA4_.out.at HBN.out) HNL.out (by decide)) (HBE.out.fresh HA3_.out) (HMS.out.fresh HA3_.out) HLA.out (by rw [← HE.out]; exact HWI.out.1)).mono ?_
      rintro e w6_ ⟨v, rfl, ho, hf⟩
      rw [← HKE.out] at ho ⊢
      obtain ⟨p7_, c8_, hv⟩ := ho.slice
      rw [HSL.out] at hv
      subst hv
      have HO9_ := Lib.hid ho
      have hszc := hf.size
      have HA10_ : Hid (Fresh w w6_) := Lib.hid (HA3_.out.trans hf)
      have HA11_ : Hid (Fresh w2 w6_) := Lib.hid (HA4_.out.trans hf)
      have HA12_ : Hid (Fresh w2 w6_) := Lib.hid (HA5_.out.trans hf)
      clear ho hf
      have HA13_ : Hid (Fresh w6_ w6_) := Lib.hid (Keeps.refl _ _)
      go_wp2_with fail
      refine hK _ _ HA12_.out ?_
      clear hK K
      refine wa_quiet 5 (by kernel_rfl) rfl HA12_.out (fun K hK => ?_); go_simp; refine hK _ ?_; clear hK K
      refine wa_quiet 6 (by kernel_rfl) rfl HA12_.out (fun K hK => ?_); go_simp; refine hK _ ?_; clear hK K
      refine wa_quiet 7 (by kernel_rfl) rfl HA12_.out (fun K hK => ?_); go_simp; refine hK _ ?_; clear hK K
      refine wa_all [8] (by kernel_rfl) (by decide) (fun i hi => ?_)
      simp only [List.mem_cons, List.not_mem_nil, or_false] at hi
      subst hi
      refine wa_loud rfl (fun K hK => ?_)
      go_wp2_with fail
      have hsz17_ := HA12_.out.size
      generalize hw15_ : w6_.alloc _ = w14_
      have HL16_ : Hid (w14_.heap[w6_.heap.size]? = some (.cells (cells8 (List.replicate 16 0)) 27 (0, 0))) := Lib.hid (by rw [← hw15_]; exact heap_alloc_new w6_ _)
      have hsz17_b : w6_.heap.size < w14_.heap.size := lt_of_block HL16_.out
      have HA18_ : Hid (Fresh w w14_) := Lib.hid ((by rw [← hw15_]; exact (HA10_.out.alloc _)))
      have HA19_ : Hid (Fresh w2 w14_) := Lib.hid ((by rw [← hw15_]; exact (HA11_.out.alloc _)))
      have HA20_ : Hid (Fresh w2 w14_) := Lib.hid ((by rw [← hw15_]; exact (HA12_.out.alloc _)))
      have HA21_ : Hid (Fresh w6_ w14_) := Lib.hid ((by rw [← hw15_]; exact (HA13_.out.alloc _)))
      clear hw15_
      have HA22_ : Hid (Fresh w14_ w14_) := Lib.hid (Keeps.refl _ _)
      refine hK _ _ HA20_.out ?_
      clear hK K
      refine wa_quiet 9 (by kernel_rfl) rfl HA20_.out (fun K hK => ?_); go_simp; refine hK _ ?_; clear hK K
      refine wa_all [10] (by kernel_rfl) (by decide) (fun i hi => ?_)
      simp only [List.mem_cons, List.not_mem_nil, or_false] at hi
      subst hi
      refine wa_loud rfl (fun K hK => ?_)
      have HBA := Lib.hid (HA22_.out.at HL16_.out)
      have HKC := Lib.hid (OwnB.kept' (HO9_.out.kept HA21_.out (fun _ _ x => x)) ((Keeps.refl (fun q => q = w6_.heap.size) w14_).setRow (p := w6_.heap.size) (Or.inl rfl) (cells8 (tagK (onceL KK) (boundL a (sealL KK m))))) (fun q e e2 => by have := HO9_.out.lt q e; omega)).sl
      have HRT := Lib.hid (row_heap (cs := cells8 (tagK (onceL KK) (boundL a (sealL KK m)))) HBA.out)
      have HA24_ : Hid (Fresh w (w14_.setRow (w6_.heap.size) (cells8 (tagK (onceL KK) (boundL a (sealL KK m)))))) := Lib.hid (HA18_.out.setRow (Or.inr (by have := HF2.out.size; omega)) _)
      have HA25_ : Hid (Fresh w2 (w14_.setRow (w6_.heap.size) (cells8 (tagK (onceL KK) (boundL a (sealL KK m)))))) := Lib.hid (HA19_.out.setRow (Or.inr (by have := HA1_.out.size; omega)) _)
      refine wpList_store_row rfl 27 (.tmp 10) (.tmp 24) rfl (w6_.heap.size) (cells8 (tagK (onceL KK) (boundL a (sealL KK m)))) rfl rfl 27 _ HBA.out (by rw [HTL.out]; exact info16B) (by rw [HTL.out]; rfl) (cells8_one _) ?_
      refine wpList_nil (hK _ _ (HA20_.out.setRow (Or.inr (by omega)) _) ?_)
      clear hK K
      generalize w14_.setRow (w6_.heap.size) (cells8 (tagK (onceL KK) (boundL a (sealL KK m)))) = w23_ at HKC HRT HA24_ HA25_ ⊢
      refine wa_done (by kernel_rfl) ?_
      go_wp2_with fail
      refine HK2.out _ _ ?_
      refine fs4_c _ w.heap.size (w6_.heap.size) n _ _ _ _ _ _ key nonce a m KK _ _ _ _ _ _ _ _ _ _ _ _ _ _ _ _ _ _ _ _ _ _ _ _ _ _ _ _ _ _ _ _ _ _ _ _ _ _ HKL.out HNL.out HKE.out (HA25_.out.at HBK.out) (HA25_.out.at HBN.out) (HBE.out.fresh HA24_.out) (HMS.out.fresh HA24_.out) HLA.out HE.out HWI.out.1 HKC.out HRT.out ?_
      intro w' hf
      exact ⟨rfl, HA24_.out.trans hf⟩
    · refine wa_loud rfl (fun K hK => ?_)
      go_wp2_with fail
      have hsz9_ := HA5_.out.size
      generalize hw7_ : w2.alloc _ = w6_
      have HL8_ : Hid (w6_.drew.heap[w2.heap.size]? = some (.cells (cells8 (List.replicate 16 0)) 27 (0, 0))) := Lib.hid (by rw [← hw7_]; exact heap_alloc_new w2 _)
      have hsz9_b : w2.heap.size < w6_.drew.heap.size := lt_of_block HL8_.out
      have HA10_ : Hid (Fresh w w6_.drew) := Lib.hid ((by rw [← hw7_]; exact (HA3_.out.alloc _)))
      have HA11_ : Hid (Fresh w2 w6_.drew) := Lib.hid ((by rw [← hw7_]; exact (HA4_.out.alloc _)))
      have HA12_ : Hid (Fresh w2 w6_.drew) := Lib.hid ((by rw [← hw7_]; exact (HA5_.out.alloc _)))
      clear hw7_
      have HA13_ : Hid (Fresh w6_.drew w6_.drew) := Lib.hid (Keeps.refl _ _)
      refine hK _ _ HA12_.out ?_
      clear hK K
      refine wa_all [4] (by kernel_rfl) (by decide) (fun i hi => ?_)
      simp only [List.mem_cons, List.not_mem_nil, or_false] at hi
      subst hi
      refine wa_loud rfl (fun K hK => ?_)
      go_wp2_with fail
      refine (seal_c (.slice (some ⟨w.heap.size + 1, 0, none⟩) 12 12) (.slice pbe a.length cbe) (.slice pm n cm) key nonce a m _ HKL.out (Or.inl HNL.out) (SlB.all32 (HA11_.out.at HBN.out) HNL.out (by decide)) (HBE.out.fresh HA10_.out) (HMS.out.fresh HA10_.out) HLA.out (by rw [← HE.out]; exact HWI.out.1)).mono ?_
      rintro e w14_ ⟨v, rfl, ho, hf⟩
      rw [← HKE.out] at ho ⊢
      obtain ⟨p15_, c16_, hv⟩ := ho.slice
      rw [HSL.out] at hv
      subst hv
      have HO17_ := Lib.hid ho
      have hszc := hf.size
      have HA18_ : Hid (Fresh w w14_) := Lib.hid (HA10_.out.trans hf)
      have HA19_ : Hid (Fresh w2 w14_) := Lib.hid (HA11_.out.trans hf)
      have HA20_ : Hid (Fresh w2 w14_) := Lib.hid (HA12_.out.trans hf)
      have HA21_ : Hid (Fresh w6_.drew w14_) := Lib.hid (HA13_.out.trans hf)
      clear ho hf
      have HA22_ : Hid (Fresh w14_ w14_) := Lib.hid (Keeps.refl _ _)
      go_wp2_with fail
      refine hK _ _ HA20_.out ?_
      clear hK K
      refine wa_quiet 5 (by kernel_rfl) rfl HA20_.out (fun K hK => ?_); go_simp; refine hK _ ?_; clear hK K
      refine wa_quiet 6 (by kernel_rfl) rfl HA20_.out (fun K hK => ?_); go_simp; refine hK _ ?_; clear hK K
      refine wa_quiet 7 (by kernel_rfl) rfl HA20_.out (fun K hK => ?_); go_simp; refine hK _ ?_; clear hK K
      refine wa_quiet 9 (by kernel_rfl) rfl HA20_.out (fun K hK => ?_); go_simp; refine hK _ ?_; clear hK K
      refine wa_all [10] (by kernel_rfl) (by decide) (fun i hi => ?_)
      simp only [List.mem_cons, List.not_mem_nil, or_false] at hi
      subst hi
      refine wa_loud rfl (fun K hK => ?_)
      have HBA := Lib.hid (HA21_.out.at HL8_.out)
      have HKC := Lib.hid (OwnB.kept' (HO17_.out.kept HA22_.out (fun _ _ x => x)) ((Keeps.refl (fun q => q = w2.heap.size) w14_).setRow (p := w2.heap.size) (Or.inl rfl) (cells8 (tagK (onceL KK) (boundL a (sealL KK m))))) (fun q e e2 => by have := HO17_.out.lt q e; omega)).sl
      have HRT := Lib.hid (row_heap (cs := cells8 (tagK (onceL KK) (boundL a (sealL KK m)))) HBA.out)
      have HA24_ : Hid (Fresh w (w14_.setRow (w2.heap.size) (cells8 (tagK (onceL KK) (boundL a (sealL KK m)))))) := Lib.hid (HA18_.out.setRow (Or.inr (by have := HF2.out.size; omega)) _)
      have HA25_ : Hid (Fresh w2 (w14_.setRow (w2.heap.size) (cells8 (tagK (onceL KK) (boundL a (sealL KK m)))))) := Lib.hid (HA19_.out.setRow (Or.inr (by have := HA1_.out.size; omega)) _)
      refine wpList_store_row rfl 27 (.tmp 10) (.tmp 24) rfl (w2.heap.size) (cells8 (tagK (onceL KK) (boundL a (sealL KK m)))) rfl rfl 27 _ HBA.out (by rw [HTL.out]; exact info16B) (by rw [HTL.out]; rfl) (cells8_one _) ?_
      refine wpList_nil (hK _ _ (HA20_.out.setRow (Or.inr (by omega)) _) ?_)
      clear hK K
      generalize w14_.setRow (w2.heap.size) (cells8 (tagK (onceL KK) (boundL a (sealL KK m)))) = w23_ at HKC HRT HA24_ HA25_ ⊢
      refine wa_done (by kernel_rfl) ?_
      go_wp2_with fail
      refine HK2.out _ _ ?_
      refine fs4_c _ w.heap.size (w2.heap.size) n _ _ _ _ _ _ key nonce a m KK _ _ _ _ _ _ _ _ _ _ _ _ _ _ _ _ _ _ _ _ _ _ _ _ _ _ _ _ _ _ _ _ _ _ _ _ _ _ HKL.out HNL.out HKE.out (HA25_.out.at HBK.out) (HA25_.out.at HBN.out) (HBE.out.fresh HA24_.out) (HMS.out.fresh HA24_.out) HLA.out HE.out HWI.out.1 HKC.out HRT.out ?_
      intro w' hf
      exact ⟨rfl, HA24_.out.trans hf⟩
end
section
section
open Go Go.RowKit Go.ChangeShapes Go.WideShapes Go.ChangeAt
theorem own : ownKnob Try.prog.godebug = none := by kernel_rfl
theorem laidOut : laidOutB Try.prog = true := by kernel_rfl
theorem cellsByte : Try.prog.cellsOf 5 = 1 := by kernel_rfl
theorem bytesByte : Try.prog.bytesOf 5 = 1 := by kernel_rfl
theorem u8_ofInt {n : Int} (h : (Lit.int .u8 n).wf = true) : u8 (UInt8.ofNat n.toNat) = n := by
  have hx : 0 ≤ n ∧ n ≤ 255 := by simpa [Lit.wf, IntKind.min, IntKind.max, IntKind.signed, IntKind.bits] using h
  unfold u8
  rw [UInt8.toNat_ofNat']
  omega
/-- the bytes of a list of numbers -/
def bytesOfInts (zs : List Int) : List UInt8 := zs.map fun n => UInt8.ofNat n.toNat
/-- a slice of bytes that came in reads as bytes; its capacity is told by its datum -/
theorem open_bytes {H : Type} {enc : TypeId × Value → H} {W : World} {base : Nat} {held : Bool} {a : Option Addr} {n c : Nat} {d : DataW H} {p : List MemPlace}
    (h : DataW.Trod enc Try.prog W base (fun _ => true) held 24 (.slice a n c) d p) :
    ∃ l : List UInt8, SlB W (.slice a n c) l ∧ l.length = n ∧ ((n = 0 ∧ c = 0) ∨ ∃ elems spare, d = .slice elems spare ∧ elems.length + spare.length = c ∧ n ≤ c) := by
  obtain ⟨fuel, hf⟩ := h
  rcases open_ints Try.underlying24 Try.underlying5 cellsByte hf with ⟨hcs, _⟩ | ⟨x, l, cc, zs, hcs, _, hl, hm, hz, hx, hcell, hwz⟩
  · simp [Value.cells] at hcs
    obtain ⟨rfl, rfl, rfl⟩ := hcs
    exact ⟨[], SlB.nil W, rfl, Or.inl ⟨rfl, rfl⟩⟩
  · simp [Value.cells] at hcs
    obtain ⟨rfl, rfl, rfl⟩ := hcs
    have hz' : zs.length = c := by simpa using hz
    refine ⟨bytesOfInts (zs.take n), ?_, ?_, Or.inr ?_⟩
    · refine Or.inr ⟨x, c, ?_, ?_, hm, ?_⟩
      · simp [bytesOfInts, hz', Nat.min_eq_left hl]
      · simp [bytesOfInts]; omega
      · intro j u hu
        have hj : j < n := by
          have := (List.getElem?_eq_some_iff.1 hu).1
          rw [vals8_len] at this
          simp [bytesOfInts] at this
          omega
        rw [hcell j (by omega)]
        simp only [vals8, bytesOfInts, List.map_map, List.getElem?_map, List.getElem?_take, hj, if_true] at hu
        have hjz : j < zs.length := by omega
        rw [List.getElem?_eq_getElem hjz] at hu
        simp only [Option.map_some, Option.some.injEq, Function.comp] at hu
        rw [← hu, u8_ofInt (hwz _ (List.getElem_mem hjz))]
        simp [List.getD, List.getElem?_eq_getElem hjz]
    · simp [bytesOfInts, hz', Nat.min_eq_left hl]
    · simp only [Prod.mk.injEq] at hx
      obtain ⟨hd, _⟩ := hx
      exact ⟨_, _, hd, by simp [lits]; omega, hl⟩
end
section
open Go Go.RowKit Go.ChangeShapes Go.WideShapes Go.ChangeAt
/-- an array of bytes that came in -/
theorem open_arr {P : Program} {H : Type} {enc : TypeId × Value → H} {W : World} {base : Nat} {held : Bool} {T e8 : TypeId} {n : Nat} {v : Value} {d : DataW H} {p : List MemPlace}
    (hu : P.underlying T = some (.array n e8)) (h8 : P.underlying e8 = some (.int .u8)) (hce : P.cellsOf e8 = 1) (hc : P.cellsOf T = n) (hok : Value.okWide P W .any base T v)
    (h : DataW.Trod enc P W 0 (fun _ => true) held T v d p) : ∃ l : List UInt8, l.length = n ∧ v = .agg (cells8 l) := by
  obtain ⟨cs, rfl, hsz, _⟩ : ∃ cs, v = .agg cs ∧ cs.size = P.cellsOf T ∧ Row.okWide P W .any base T cs := by
    simpa [Value.okWide, hu] using hok
  rw [hc] at hsz
  obtain ⟨fuel, hf⟩ := h
  obtain ⟨xs, m, -, -, -, hxl, hx⟩ := DataW.trod_array hu hf
  have hcells : (Value.agg cs).cells.toList = cs.toList := rfl
  rw [hcells, hce] at hx
  have hcell : ∀ i, (hi : i < cs.toList.length) → ∃ z, cs.toList[i] = .int .u8 z ∧ (Lit.int .u8 z).wf = true := by
    intro i hi
    have hi' : i < n := by rw [← hsz]; simpa using hi
    have h1 := hx i hi'
    rw [Nat.mul_one, List.drop_eq_getElem_cons hi, List.take_succ_cons, List.take_zero, List.getElem?_eq_getElem (by omega)] at h1
    obtain ⟨x0, e0, -, w0⟩ := DataW.trod_int h8 h1
    simp only [List.cons.injEq, and_true] at e0
    exact ⟨x0, e0, w0⟩
  refine ⟨cs.toList.map fun c => match c with | .int _ z => UInt8.ofNat z.toNat | _ => 0, by simpa using hsz, ?_⟩
  congr 1
  unfold cells8
  rw [List.map_map]
  apply Array.toList_inj.1
  apply List.ext_getElem
  · simp
  · intro i h1 h2
    obtain ⟨z, e, hw⟩ := hcell i h1
    simp only [List.getElem_map, Function.comp, e]
    rw [u8_ofInt hw]
end
section
open Go Go.RowKit Go.ChangeShapes Go.WideShapes Go.ChangeAt
theorem open_u8 {P : Program} {H : Type} {enc : TypeId × Value → H} {W : World} {base base' : Nat} {sp : Nat → Bool} {held : Bool} {T : TypeId} {v : Value} {d : DataW H} {p : List MemPlace} (hu : P.underlying T = some (.int .u8))
    (h : DataW.Trod enc P W base' sp held T v d p) (hok : Value.okWide P W .any base T v) : ∃ x : UInt8, v = .int .u8 (u8 x) := by
  obtain ⟨n, rfl, -, -, hw⟩ := open_int hu hok h
  exact ⟨UInt8.ofNat n.toNat, by rw [u8_ofInt hw]⟩
theorem u32_ofInt {n : Int} (h : (Lit.int .u32 n).wf = true) : u32 (UInt32.ofNat n.toNat) = n := by
  have hx : 0 ≤ n ∧ n ≤ 4294967295 := by simpa [Lit.wf, IntKind.min, IntKind.max, IntKind.signed, IntKind.bits] using h
  unfold u32
  rw [UInt32.toNat_ofNat']
  omega
theorem open_u32 {P : Program} {H : Type} {enc : TypeId × Value → H} {W : World} {base base' : Nat} {sp : Nat → Bool} {held : Bool} {T : TypeId} {v : Value} {d : DataW H} {p : List MemPlace} (hu : P.underlying T = some (.int .u32))
    (h : DataW.Trod enc P W base' sp held T v d p) (hok : Value.okWide P W .any base T v) : ∃ x : UInt32, v = .int .u32 (u32 x) := by
  obtain ⟨n, rfl, -, -, hw⟩ := open_int hu hok h
  exact ⟨UInt32.ofNat n.toNat, by rw [u32_ofInt hw]⟩
end
end
end Go.Proofs.Ytlafnkcmdnfcpaa
