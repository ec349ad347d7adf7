/-
  Plain: one round of updateGeneric on limbs is one step of Horner's rule with the cheap reduction.
-/
import Derived.Test.YtlafnkcmdnfcpaaMulW
import Derived.Test.YtlafnkcmdnfcpaaPoly
namespace Go.Proofs.Ytlafnkcmdnfcpaa
open Go
theorem adW_adS (x y : UInt64) (b : Bool) : (adW x y b).toNat = Poly.adS x.toNat y.toNat b.toNat := adW_toNat x y b
theorem adB_adC (x y : UInt64) (b : Bool) : (adB x y b).toNat = Poly.adC x.toNat y.toNat b.toNat := adB_toNat x y b
theorem mlo_lo (x y : UInt64) : (mlo x y).toNat = Poly.lo (x.toNat * y.toNat) := mlo_toNat x y
theorem mhi_hi (x y : UInt64) : (mhi x y).toNat = Poly.hi (x.toNat * y.toNat) := mhi_toNat x y
/-- two products of limbs do not overflow -/
theorem two_prod (x y r s : UInt64) (hr : r.toNat < 1152921504606846976) (hs : s.toNat < 1152921504606846976) : x.toNat * r.toNat + y.toNat * s.toNat < 340282366920938463463374607431768211456 := by
  have h1 : x.toNat * r.toNat ≤ 18446744073709551616 * 1152921504606846976 := Nat.mul_le_mul (Nat.le_of_lt x.toNat_lt) (Nat.le_of_lt hr)
  have h2 : y.toNat * s.toNat ≤ 18446744073709551616 * 1152921504606846976 := Nat.mul_le_mul (Nat.le_of_lt y.toNat_lt) (Nat.le_of_lt hs)
  omega
theorem small_prod (x r : UInt64) (hx : x.toNat ≤ 7) (hr : r.toNat < 1152921504606846976) : x.toNat * r.toNat < 9223372036854775808 := by
  have h1 : x.toNat * r.toNat ≤ 7 * 1152921504606846976 := Nat.mul_le_mul hx (Nat.le_of_lt hr)
  omega
theorem toNat_zero_of (b : Bool) (h : b.toNat = 0) : b = false := by cases b <;> simp_all
/-- add128 of two products -/
theorem add128_prod (x y r s : UInt64) (hr : r.toNat < 1152921504606846976) (hs : s.toNat < 1152921504606846976) :
    adB (mhi x r) (mhi y s) (adB (mlo x r) (mlo y s) false) = false ∧
    (adW (mlo x r) (mlo y s) false).toNat = Poly.lo (x.toNat * r.toNat + y.toNat * s.toNat) ∧
    (adW (mhi x r) (mhi y s) (adB (mlo x r) (mlo y s) false)).toNat = Poly.hi (x.toNat * r.toNat + y.toNat * s.toNat) := by
  obtain ⟨h1, h2, h3⟩ := Poly.add128_ok (x.toNat * r.toNat) (y.toNat * s.toNat) (two_prod x y r s hr hs)
  refine ⟨toNat_zero_of _ ?_, ?_, ?_⟩
  · rw [adB_adC, adB_adC, mhi_hi, mhi_hi, mlo_lo, mlo_lo]; exact h3
  · rw [adW_adS, mlo_lo, mlo_lo]; exact h1
  · rw [adW_adS, adB_adC, mhi_hi, mhi_hi, mlo_lo, mlo_lo]; exact h2
theorem mhi_small (x r : UInt64) (hx : x.toNat ≤ 7) (hr : r.toNat < 1152921504606846976) : mhi x r = 0 := by
  have h := small_prod x r hx hr
  apply UInt64.toNat_inj.1
  rw [mhi_hi]
  unfold Poly.hi
  show _ = 0
  omega
theorem low2 (x : UInt64) : (x &&& 3).toNat = x.toNat % 4 := by
  rw [UInt64.toNat_and]
  exact Nat.and_two_pow_sub_one_eq_mod x.toNat 2
theorem shr2 (x : UInt64) : (x >>> 2).toNat = x.toNat / 4 := by
  rw [UInt64.toNat_shiftRight]
  exact Nat.shiftRight_eq_div_pow x.toNat 2
theorem high62_nat (n : Nat) (hn : n < 2 ^ 64) : n &&& 18446744073709551612 = 4 * (n / 4) := by
  have e1 : (18446744073709551612 : Nat) = (2 ^ 62 - 1) <<< 2 := by decide
  have e2 : 4 * (n / 4) = (n >>> 2) <<< 2 := by rw [Nat.shiftLeft_eq, Nat.shiftRight_eq_div_pow]; omega
  rw [e1, e2]
  apply Nat.eq_of_testBit_eq
  intro i
  rw [Nat.testBit_and, Nat.testBit_shiftLeft, Nat.testBit_shiftLeft, Nat.testBit_shiftRight, Nat.testBit_two_pow_sub_one]
  by_cases h : 2 ≤ i
  · have e : 2 + (i - 2) = i := by omega
    rw [e]
    by_cases h64 : i < 64
    · have : i - 2 < 62 := by omega
      simp [h, this]
    · have : n.testBit i = false := Nat.testBit_lt_two_pow (Nat.lt_of_lt_of_le hn (Nat.pow_le_pow_right (by omega) (by omega)))
      simp [this]
  · simp [h]
theorem high62 (x : UInt64) : (x &&& (18446744073709551612 : UInt64)).toNat = 4 * (x.toNat / 4) := by
  rw [UInt64.toNat_and]
  exact high62_nat x.toNat x.toNat_lt
theorem sh2_toNat (l h : UInt64) : (sh2 l h).toNat = l.toNat / 4 + (h.toNat % 4) * 4611686018427387904 := by
  unfold sh2
  have hl := l.toNat_lt
  rw [UInt64.toNat_or, UInt64.toNat_shiftLeft, shr2, low2]
  show l.toNat / 4 ||| (h.toNat % 4) <<< 62 % 2 ^ 64 = _
  have e : (h.toNat % 4) <<< 62 < 2 ^ 64 := by rw [Nat.shiftLeft_eq]; omega
  rw [Nat.mod_eq_of_lt e, Nat.or_comm, ← Nat.shiftLeft_add_eq_or_of_lt (by omega), Nat.shiftLeft_eq]
  omega
/-- THE LAW: multiplication by r and the cheap reduction, on limbs -/
theorem mulred_ok (h0 h1 h2 r0 r1 : UInt64) (hh : h2.toNat ≤ 7) (hr0 : r0.toNat < 1152921504606846976) (hr1 : r1.toNat < 1152921504606846976)
    (a1 a2 b1 b2 t0 t1 t2 t3 cl u0 u1 u2 v0 v1 v2 : UInt64) (c1 c2 k0 k1 j0 j1 : Bool)
    (ea1 : a1 = adW (mlo h1 r0) (mlo h0 r1) false) (ea2 : a2 = adW (mhi h1 r0) (mhi h0 r1) (adB (mlo h1 r0) (mlo h0 r1) false))
    (eb1 : b1 = adW (mlo h2 r0) (mlo h1 r1) false) (eb2 : b2 = adW (mhi h2 r0) (mhi h1 r1) (adB (mlo h2 r0) (mlo h1 r1) false))
    (et0 : t0 = mlo h0 r0) (et1 : t1 = adW a1 (mhi h0 r0) false) (ec1 : c1 = adB a1 (mhi h0 r0) false)
    (et2 : t2 = adW b1 a2 c1) (ec2 : c2 = adB b1 a2 c1) (et3 : t3 = adW (mlo h2 r1) b2 c2)
    (ecl : cl = t2 &&& (18446744073709551612 : UInt64))
    (eu0 : u0 = adW t0 cl false) (ek0 : k0 = adB t0 cl false) (eu1 : u1 = adW t1 t3 k0) (ek1 : k1 = adB t1 t3 k0) (eu2 : u2 = (t2 &&& 3) + bW k1)
    (ev0 : v0 = adW u0 (sh2 cl t3) false) (ej0 : j0 = adB u0 (sh2 cl t3) false) (ev1 : v1 = adW u1 (t3 >>> 2) j0) (ej1 : j1 = adB u1 (t3 >>> 2) j0) (ev2 : v2 = u2 + bW j1) :
    Poly.val3 v0.toNat v1.toNat v2.toNat = Poly.redT (Poly.val3 h0.toNat h1.toNat h2.toNat * (r0.toNat + r1.toNat * 18446744073709551616)) ∧ v2.toNat ≤ 5 := by
  obtain ⟨-, A1, A2⟩ := add128_prod h1 h0 r0 r1 hr0 hr1
  obtain ⟨-, B1, B2⟩ := add128_prod h2 h1 r0 r1 hr0 hr1
  rw [← ea1] at A1; rw [← ea2] at A2; rw [← eb1] at B1; rw [← eb2] at B2
  have S3 := small_prod h2 r1 hh hr1
  have T0 : t0.toNat = Poly.lo (h0.toNat * r0.toNat) := by rw [et0, mlo_lo]
  have P3 : (mlo h2 r1).toNat = h2.toNat * r1.toNat := by rw [mlo_toNat]; omega
  have tot : Poly.val3 h0.toNat h1.toNat h2.toNat * (r0.toNat + r1.toNat * 18446744073709551616) =
      h0.toNat * r0.toNat + (h1.toNat * r0.toNat + h0.toNat * r1.toNat) * 18446744073709551616 + (h2.toNat * r0.toNat + h1.toNat * r1.toNat) * 340282366920938463463374607431768211456 + (h2.toNat * r1.toNat) * 6277101735386680763835789423207666416102355444464034512896 := by
    unfold Poly.val3
    generalize h0.toNat = x0
    generalize h1.toNat = x1
    generalize h2.toNat = x2
    generalize r0.toNat = y0
    generalize r1.toNat = y1
    simp only [Nat.add_mul, Nat.mul_add]
    have e1 : x1 * 18446744073709551616 * (y1 * 18446744073709551616) = x1 * y1 * 340282366920938463463374607431768211456 := by
      rw [Nat.mul_mul_mul_comm]
    have e2 : x2 * 340282366920938463463374607431768211456 * (y1 * 18446744073709551616) = x2 * y1 * 6277101735386680763835789423207666416102355444464034512896 := by
      rw [Nat.mul_mul_mul_comm]
    have e3 : x0 * (y1 * 18446744073709551616) = x0 * y1 * 18446744073709551616 := by rw [Nat.mul_assoc]
    have e4 : x1 * 18446744073709551616 * y0 = x1 * y0 * 18446744073709551616 := by rw [Nat.mul_right_comm]
    have e5 : x2 * 340282366920938463463374607431768211456 * y0 = x2 * y0 * 340282366920938463463374607431768211456 := by rw [Nat.mul_right_comm]
    omega
  have lim : h0.toNat * r0.toNat + (h1.toNat * r0.toNat + h0.toNat * r1.toNat) * 18446744073709551616 + (h2.toNat * r0.toNat + h1.toNat * r1.toNat) * 340282366920938463463374607431768211456 + (h2.toNat * r1.toNat) * 6277101735386680763835789423207666416102355444464034512896 < 9223372036854775808 * 6277101735386680763835789423207666416102355444464034512896 := by
    rw [← tot]
    have hx : Poly.val3 h0.toNat h1.toNat h2.toNat ≤ 2722258935367507707706996859454145691648 := by
      have := h0.toNat_lt
      have := h1.toNat_lt
      unfold Poly.val3; omega
    have hy : r0.toNat + r1.toNat * 18446744073709551616 < 21267647932558653966460912964485513216 := by omega
    exact Nat.lt_of_le_of_lt (Nat.mul_le_mul_right _ hx) (Nat.mul_lt_mul_of_pos_left hy (by omega))
  have L4 := Poly.limbs4 (h0.toNat * r0.toNat) (h1.toNat * r0.toNat + h0.toNat * r1.toNat) (h2.toNat * r0.toNat + h1.toNat * r1.toNat) (h2.toNat * r1.toNat) (by omega) (by omega) c1.toNat c2.toNat t1.toNat t2.toNat t3.toNat
    (by rw [ec1, adB_adC, A1, mhi_hi]; rfl) (by rw [ec2, adB_adC, B1, A2]) (by rw [et1, adW_adS, A1, mhi_hi]; rfl) (by rw [et2, adW_adS, B1, A2]) (by rw [et3, adW_adS, P3, B2])
  rw [← T0] at L4
  rw [tot, ← L4]
  rw [← L4] at lim
  have hd : t3.toNat < 9223372036854775808 := by omega
  have q1 : cl.toNat = 4 * (t2.toNat / 4) := by rw [ecl, high62]
  have q2 : (sh2 cl t3).toNat = t2.toNat / 4 + t3.toNat % 4 * 4611686018427387904 := by rw [sh2_toNat, q1]; omega
  have := Poly.red_ok t0.toNat t1.toNat t2.toNat t3.toNat t0.toNat_lt t1.toNat_lt t2.toNat_lt hd (t2.toNat / 4) (t2.toNat % 4) (t3.toNat / 4) (t3.toNat % 4) (by omega) (by omega) (by omega) (by omega)
    u0.toNat k0.toNat u1.toNat k1.toNat v0.toNat j0.toNat v1.toNat j1.toNat (by rw [eu0, adW_adS, q1]; rfl) (by rw [ek0, adB_adC, q1]; rfl) (by rw [eu1, adW_adS]) (by rw [ek1, adB_adC])
    (by rw [ev0, adW_adS, q2]; rfl) (by rw [ej0, adB_adC, q2]; rfl) (by rw [ev1, adW_adS, shr2]) (by rw [ej1, adB_adC, shr2])
  have e2 : v2.toNat = t2.toNat % 4 + k1.toNat + j1.toNat := by
    have := toNat_le1 k1
    have := toNat_le1 j1
    rw [ev2, eu2, UInt64.toNat_add, UInt64.toNat_add, bW_toNat, bW_toNat, low2]
    omega
  rw [e2]
  exact this
end Go.Proofs.Ytlafnkcmdnfcpaa
