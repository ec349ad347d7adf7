/-
  Plain: the arithmetic of Poly1305 in limbs, and Horner against it. No program in sight.
-/
namespace Go.Proofs.Ytlafnkcmdnfcpaa.Poly
/-- sum word and carry of bits.Add64 -/
def adS (x y c : Nat) : Nat := (x + y + c) % 18446744073709551616
def adC (x y c : Nat) : Nat := (x + y + c) / 18446744073709551616
def lo (x : Nat) : Nat := x % 18446744073709551616
def hi (x : Nat) : Nat := x / 18446744073709551616

theorem ad (x y c : Nat) : adS x y c + 18446744073709551616 * adC x y c = x + y + c ∧ adS x y c < 18446744073709551616 := by
  unfold adS adC; omega
theorem lh (x : Nat) : lo x + 18446744073709551616 * hi x = x ∧ lo x < 18446744073709551616 := by unfold lo hi; omega

/-- the number of three limbs -/
def val3 (a b c : Nat) : Nat := a + b * 18446744073709551616 + c * 340282366920938463463374607431768211456

/-- h + m : limbs -/
theorem add_ok (h0 h1 h2 m0 m1 b : Nat) (h2b : h2 ≤ 5) (a0 : h0 < 18446744073709551616) (a1 : h1 < 18446744073709551616) (a2 : m0 < 18446744073709551616) (a3 : m1 < 18446744073709551616) (hb : b ≤ 1) :
    val3 (adS h0 m0 0) (adS h1 m1 (adC h0 m0 0)) (h2 + (adC h1 m1 (adC h0 m0 0) + b)) = val3 h0 h1 h2 + (m0 + m1 * 18446744073709551616 + b * 340282366920938463463374607431768211456) ∧
    h2 + (adC h1 m1 (adC h0 m0 0) + b) ≤ 7 := by
  obtain ⟨e1, l1⟩ := ad h0 m0 0
  obtain ⟨e2, l2⟩ := ad h1 m1 (adC h0 m0 0)
  generalize adS h1 m1 (adC h0 m0 0) = s1 at *
  generalize adC h1 m1 (adC h0 m0 0) = k1 at *
  generalize adS h0 m0 0 = s0 at *
  generalize adC h0 m0 0 = k0 at *
  unfold val3; omega

/-- add128 -/
theorem add128_ok (x y : Nat) (h : x + y < 340282366920938463463374607431768211456) :
    adS (lo x) (lo y) 0 = lo (x + y) ∧ adS (hi x) (hi y) (adC (lo x) (lo y) 0) = hi (x + y) ∧ adC (hi x) (hi y) (adC (lo x) (lo y) 0) = 0 := by
  obtain ⟨e1, l1⟩ := ad (lo x) (lo y) 0
  obtain ⟨e2, l2⟩ := ad (hi x) (hi y) (adC (lo x) (lo y) 0)
  obtain ⟨e3, l3⟩ := lh x
  obtain ⟨e4, l4⟩ := lh y
  obtain ⟨e5, l5⟩ := lh (x + y)
  generalize adS (hi x) (hi y) (adC (lo x) (lo y) 0) = s1 at *
  generalize adC (hi x) (hi y) (adC (lo x) (lo y) 0) = k1 at *
  generalize adS (lo x) (lo y) 0 = s0 at *
  generalize adC (lo x) (lo y) 0 = k0 at *
  generalize lo (x + y) = ls at *
  generalize hi (x + y) = hs at *
  generalize lo x = lx at *
  generalize lo y = ly at *
  generalize hi x = hx at *
  generalize hi y = hy at *
  subst e3 e4
  omega

/-- the four limbs of the product -/
theorem limbs4 (p0 p1 p2 p3 : Nat) (h : p0 + p1 * 18446744073709551616 + p2 * 340282366920938463463374607431768211456 + p3 * 6277101735386680763835789423207666416102355444464034512896 < 115792089237316195423570985008687907853269984665640564039457584007913129639936)
    (h3 : p3 < 18446744073709551616) (c1 c2 s1 s2 s3 : Nat) (hc1 : c1 = adC (lo p1) (hi p0) 0) (hc2 : c2 = adC (lo p2) (hi p1) c1)
    (hs1 : s1 = adS (lo p1) (hi p0) 0) (hs2 : s2 = adS (lo p2) (hi p1) c1) (hs3 : s3 = adS p3 (hi p2) c2) :
    lo p0 + s1 * 18446744073709551616 + s2 * 340282366920938463463374607431768211456 + s3 * 6277101735386680763835789423207666416102355444464034512896 =
      p0 + p1 * 18446744073709551616 + p2 * 340282366920938463463374607431768211456 + p3 * 6277101735386680763835789423207666416102355444464034512896 := by
  obtain ⟨e0, l0⟩ := lh p0
  obtain ⟨e1, l1⟩ := lh p1
  obtain ⟨e2, l2⟩ := lh p2
  obtain ⟨f1, g1⟩ := ad (lo p1) (hi p0) 0
  obtain ⟨f2, g2⟩ := ad (lo p2) (hi p1) c1
  obtain ⟨f3, g3⟩ := ad p3 (hi p2) c2
  rw [← hc1, ← hs1] at f1; rw [← hs1] at g1
  rw [← hc2, ← hs2] at f2; rw [← hs2] at g2
  rw [← hs3] at f3 g3
  generalize adC p3 (hi p2) c2 = c3 at *
  clear hc1 hc2 hs1 hs2 hs3
  generalize lo p0 = a0 at *
  generalize hi p0 = b0 at *
  generalize lo p1 = a1 at *
  generalize hi p1 = b1 at *
  generalize lo p2 = a2 at *
  generalize hi p2 = b2 at *
  subst e0 e1 e2
  omega

/-- the reduction behind the product -/
def redP (P T : Nat) : Nat := T % P + 5 * (T / P)
def redT (T : Nat) : Nat := redP 1361129467683753853853498429727072845824 T

theorem redP_split (P x y : Nat) (h : x < P) : redP P (x + P * y) = x + 5 * y := by
  unfold redP
  rw [Nat.add_mul_mod_self_left, Nat.add_mul_div_left _ _ (by omega), Nat.mod_eq_of_lt h, Nat.div_eq_of_lt h]
  omega

theorem redT_split (a b c d : Nat) (ha : a < 18446744073709551616) (hb : b < 18446744073709551616) (q r : Nat) (hr : r < 4) (hq : c = 4 * q + r) :
    redT (a + b * 18446744073709551616 + c * 340282366920938463463374607431768211456 + d * 6277101735386680763835789423207666416102355444464034512896) =
      a + b * 18446744073709551616 + r * 340282366920938463463374607431768211456 + 5 * (q + d * 4611686018427387904) := by
  unfold redT
  have e : a + b * 18446744073709551616 + c * 340282366920938463463374607431768211456 + d * 6277101735386680763835789423207666416102355444464034512896 = (a + b * 18446744073709551616 + r * 340282366920938463463374607431768211456) + 1361129467683753853853498429727072845824 * (q + d * 4611686018427387904) := by omega
  rw [e]
  exact redP_split _ _ _ (by omega)

theorem red_ok (a b c d : Nat) (ha : a < 18446744073709551616) (hb : b < 18446744073709551616) (hc : c < 18446744073709551616) (hd : d < 9223372036854775808)
    (q r s t : Nat) (hr : r < 4) (hq : c = 4 * q + r) (_ht : t < 4) (hs : d = 4 * s + t)
    (u0 k0 u1 k1 v0 j0 v1 j1 : Nat) (hu0 : u0 = adS a (4 * q) 0) (hk0 : k0 = adC a (4 * q) 0) (hu1 : u1 = adS b d k0) (hk1 : k1 = adC b d k0)
    (hv0 : v0 = adS u0 (q + t * 4611686018427387904) 0) (hj0 : j0 = adC u0 (q + t * 4611686018427387904) 0) (hv1 : v1 = adS u1 s j0) (hj1 : j1 = adC u1 s j0) :
    val3 v0 v1 (r + k1 + j1) = redT (a + b * 18446744073709551616 + c * 340282366920938463463374607431768211456 + d * 6277101735386680763835789423207666416102355444464034512896) ∧ r + k1 + j1 ≤ 5 := by
  rw [redT_split a b c d ha hb q r hr hq]
  obtain ⟨e0, l0⟩ := ad a (4 * q) 0
  obtain ⟨e1, l1⟩ := ad b d k0
  obtain ⟨e2, l2⟩ := ad u0 (q + t * 4611686018427387904) 0
  obtain ⟨e3, l3⟩ := ad u1 s j0
  rw [← hu0, ← hk0] at e0; rw [← hu0] at l0
  rw [← hu1, ← hk1] at e1; rw [← hu1] at l1
  rw [← hv0, ← hj0] at e2; rw [← hv0] at l2
  rw [← hv1, ← hj1] at e3; rw [← hv1] at l3
  clear hu0 hk0 hu1 hk1 hv0 hj0 hv1 hj1
  unfold val3
  have x1 : k1 ≤ 1 := by omega
  have x2 : j1 ≤ 1 := by omega
  omega
end Go.Proofs.Ytlafnkcmdnfcpaa.Poly
namespace Go.Proofs.Ytlafnkcmdnfcpaa.Poly
/-- 2^130 - 5 -/
def prime : Nat := 1361129467683753853853498429727072845819
theorem redP_eq (P T : Nat) (hP : 5 ≤ P) : T = redP P T + (P - 5) * (T / P) := by
  unfold redP
  have h := Nat.div_add_mod T P
  have e : (P - 5) * (T / P) + 5 * (T / P) = P * (T / P) := by rw [← Nat.add_mul]; congr 1; omega
  omega
theorem redT_mod (T : Nat) : redT T % prime = T % prime := by
  have h := redP_eq 1361129467683753853853498429727072845824 T (by omega)
  have hp : (1361129467683753853853498429727072845824 - 5 : Nat) = prime := rfl
  rw [hp] at h
  have : T % prime = (redT T + prime * (T / 1361129467683753853853498429727072845824)) % prime := by
    conv => lhs; rw [h]
    rfl
  rw [this, Nat.add_mul_mod_self_left]

/-- one block of Horner's rule, as the limbs go -/
def stepH (R H M : Nat) : Nat := redT ((H + M) * R)
def runH (R H : Nat) (ms : List Nat) : Nat := ms.foldl (stepH R) H
def horner (R A : Nat) (ms : List Nat) : Nat := ms.foldl (fun a m => (a + m) * R) A

theorem runH_mod (R : Nat) (ms : List Nat) : ∀ H A, H % prime = A % prime → runH R H ms % prime = horner R A ms % prime := by
  induction ms with
  | nil => intro H A h; exact h
  | cons m ms ih =>
    intro H A h
    refine ih _ _ ?_
    show stepH R H m % prime = ((A + m) * R) % prime
    unfold stepH
    rw [redT_mod, Nat.mul_mod, Nat.add_mod, h, ← Nat.add_mod, ← Nat.mul_mod]
theorem horner_from (R : Nat) (ms : List Nat) : ∀ A, horner R A ms = A * R ^ ms.length + horner R 0 ms := by
  induction ms with
  | nil => intro A; simp [horner]
  | cons m ms ih =>
    intro A
    show horner R ((A + m) * R) ms = _ + horner R ((0 + m) * R) ms
    rw [ih ((A + m) * R), ih ((0 + m) * R), List.length_cons, Nat.pow_succ]
    simp only [Nat.zero_add, Nat.add_mul]
    have e : A * (R ^ ms.length * R) = A * R * R ^ ms.length := by rw [Nat.mul_assoc, Nat.mul_comm R]
    omega
theorem horner_cons (R m : Nat) (ms : List Nat) : horner R 0 (m :: ms) = m * R ^ (ms.length + 1) + horner R 0 ms := by
  show horner R ((0 + m) * R) ms = _
  rw [horner_from, Nat.zero_add, Nat.pow_succ, Nat.mul_assoc, Nat.mul_comm R]
theorem horner_append (R A : Nat) (xs ys : List Nat) : horner R A (xs ++ ys) = horner R (horner R A xs) ys := by simp [horner, List.foldl_append]
theorem runH_append (R A : Nat) (xs ys : List Nat) : runH R A (xs ++ ys) = runH R (runH R A xs) ys := by simp [runH, List.foldl_append]
end Go.Proofs.Ytlafnkcmdnfcpaa.Poly
