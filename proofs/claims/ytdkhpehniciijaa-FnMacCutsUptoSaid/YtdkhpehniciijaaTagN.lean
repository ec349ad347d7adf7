/-
  Plain: the authenticator as a number, and the words that finalize makes of it.
-/
import Derived.Test.YtdkhpehniciijaaFin
import Derived.Test.YtdkhpehniciijaaMacSt
namespace Go.Proofs.Ytdkhpehniciijaa
open Go Go.RowKit
/-- the sixteen bytes of a number below 2^128 -/
def bytes16 (n : Nat) : List UInt8 := by64 (UInt64.ofNat n) ++ by64 (UInt64.ofNat (n / 18446744073709551616))
/-- the authenticator as a number -/
def tagN (R S : Nat) (l : List UInt8) : Nat := (Poly.runH R 0 (chunks l) % Poly.prime + S) % 340282366920938463463374607431768211456
def tagB (R S : Nat) (l : List UInt8) : List UInt8 := bytes16 (tagN R S l)
theorem sbW_toNat (x y : UInt64) (b : Bool) : (sbW x y b).toNat = (x.toNat + 18446744073709551616 - y.toNat - b.toNat) % 18446744073709551616 := by
  unfold sbW; rw [UInt64.toNat_ofNat']
theorem sbB_iff (x y : UInt64) (b : Bool) : sbB x y b = true ↔ x.toNat < y.toNat + b.toNat := by unfold sbB; exact decide_eq_true_iff
theorem sbB_toNat (x y : UInt64) (b : Bool) : (sbB x y b).toNat = if x.toNat < y.toNat + b.toNat then 1 else 0 := by
  by_cases h : x.toNat < y.toNat + b.toNat
  · rw [(sbB_iff x y b).2 h, if_pos h]; rfl
  · rw [if_neg h, show sbB x y b = false from by rw [← Bool.not_eq_true]; exact fun e => h ((sbB_iff x y b).1 e)]; rfl
theorem p0_toNat : (18446744073709551611 : UInt64).toNat = 18446744073709551611 := rfl
theorem p1_toNat : (18446744073709551615 : UInt64).toNat = 18446744073709551615 := rfl
theorem p2_toNat : (3 : UInt64).toNat = 3 := rfl
/-- h minus the prime, in limbs -/
theorem sub_limbs (h0 h1 h2 t0 t1 b0 b1 : Nat) (l0 : h0 < 18446744073709551616) (l1 : h1 < 18446744073709551616) (l2 : h2 ≤ 5)
    (e0 : t0 = (h0 + 18446744073709551616 - 18446744073709551611 - 0) % 18446744073709551616) (k0 : b0 = if h0 < 18446744073709551611 + 0 then 1 else 0)
    (e1 : t1 = (h1 + 18446744073709551616 - 18446744073709551615 - b0) % 18446744073709551616) (k1 : b1 = if h1 < 18446744073709551615 + b0 then 1 else 0) (V : Nat)
    (hV : V = (h0 + h1 * 18446744073709551616 + h2 * 340282366920938463463374607431768211456) % 1361129467683753853853498429727072845819) :
    (h2 < 3 + b1 → V = h0 + h1 * 18446744073709551616 + h2 * 340282366920938463463374607431768211456) ∧
    (¬ h2 < 3 + b1 → ∃ t2, V = t0 + t1 * 18446744073709551616 + t2 * 340282366920938463463374607431768211456) := by
  constructor
  · intro hb
    rw [hV, Nat.mod_eq_of_lt]
    split at k0 <;> split at k1 <;> subst k0 <;> subst k1 <;> omega
  · intro hb
    have hge : 1361129467683753853853498429727072845819 ≤ h0 + h1 * 18446744073709551616 + h2 * 340282366920938463463374607431768211456 := by
      split at k0 <;> split at k1 <;> subst k0 <;> subst k1 <;> omega
    rw [Nat.mod_eq_sub_mod hge, Nat.mod_eq_of_lt (by omega)] at hV
    refine ⟨h2 - 3 - b1, ?_⟩
    split at k0 <;> split at k1 <;> subst k0 <;> subst k1 <;> omega
theorem fin_val (h0 h1 h2 : UInt64) (l2 : h2.toNat ≤ 5) : ∃ t2, Poly.val3 h0.toNat h1.toNat h2.toNat % Poly.prime = (fin0 h0 h1 h2).toNat + (fin1 h0 h1 h2).toNat * 18446744073709551616 + t2 * 340282366920938463463374607431768211456 := by
  have H := sub_limbs h0.toNat h1.toNat h2.toNat (sbW h0 18446744073709551611 false).toNat (sbW h1 18446744073709551615 (sbB h0 18446744073709551611 false)).toNat (sbB h0 18446744073709551611 false).toNat (sbB h1 18446744073709551615 (sbB h0 18446744073709551611 false)).toNat
    h0.toNat_lt h1.toNat_lt l2 (by rw [sbW_toNat, p0_toNat, Bool.toNat_false]) (by rw [sbB_toNat, p0_toNat, Bool.toNat_false]) (by rw [sbW_toNat, p1_toNat]) (by rw [sbB_toNat, p1_toNat]) _ rfl
  have hf : finB h0 h1 h2 = true ↔ h2.toNat < 3 + (sbB h1 18446744073709551615 (sbB h0 18446744073709551611 false)).toNat := by
    unfold finB
    rw [sbB_iff, p2_toNat]
  unfold fin0 fin1 selW Poly.val3 Poly.prime
  by_cases h : finB h0 h1 h2 = true
  · rw [if_pos h, if_pos h]
    exact ⟨h2.toNat, H.1 (hf.1 h)⟩
  · rw [if_neg h, if_neg h]
    exact H.2 (fun e => h (hf.2 e))
theorem out_limbs (f0 f1 t2 s0 s1 V : Nat) (hV : V = f0 + f1 * 18446744073709551616 + t2 * 340282366920938463463374607431768211456) :
    (f0 + s0 + 0) % 18446744073709551616 = ((V + (s0 + s1 * 18446744073709551616)) % 340282366920938463463374607431768211456) % 18446744073709551616 ∧
    (f1 + s1 + (f0 + s0 + 0) / 18446744073709551616) % 18446744073709551616 = ((V + (s0 + s1 * 18446744073709551616)) % 340282366920938463463374607431768211456) / 18446744073709551616 % 18446744073709551616 := by
  subst hV
  constructor <;> omega
theorem outB_eq (g0 g1 g2 s0 s1 : UInt64) (h : g2.toNat ≤ 5) : outB g0 g1 g2 s0 s1 = bytes16 ((Poly.val3 g0.toNat g1.toNat g2.toNat % Poly.prime + (s0.toNat + s1.toNat * 18446744073709551616)) % 340282366920938463463374607431768211456) := by
  obtain ⟨t2, hV⟩ := fin_val g0 g1 g2 h
  obtain ⟨e0, e1⟩ := out_limbs (fin0 g0 g1 g2).toNat (fin1 g0 g1 g2).toNat t2 s0.toNat s1.toNat _ hV
  unfold outB bytes16
  congr 2
  · apply UInt64.toNat_inj.1
    unfold out0
    rw [adW_toNat, UInt64.toNat_ofNat', Bool.toNat_false]
    exact e0
  · apply UInt64.toNat_inj.1
    unfold out1
    rw [adW_toNat, adB_toNat, UInt64.toNat_ofNat', Bool.toNat_false]
    exact e1
/-- what Sum makes of a MAC -/
theorem tag_of_mac {R : Nat} {S : Nat} {l buf : List UInt8} {h0 h1 h2 g0 g1 g2 s0 s1 : UInt64} (hS : S = s0.toNat + s1.toNat * 18446744073709551616) (hg : g2.toNat ≤ 5) (hbuf : buf.take (l.length % 16) = l.drop (l.length / 16 * 16))
    (hv : Poly.val3 h0.toNat h1.toNat h2.toNat = Poly.runH R 0 (chunks (l.take (l.length / 16 * 16))))
    (hr : Poly.val3 g0.toNat g1.toNat g2.toNat = Poly.runH R (Poly.val3 h0.toNat h1.toNat h2.toNat) (chunks (buf.take (l.length % 16)))) : outB g0 g1 g2 s0 s1 = tagB R S l := by
  rw [outB_eq _ _ _ _ _ hg, hr, hv, hbuf, ← Poly.runH_append, ← chunks_append (l.length / 16) _ _ (by rw [List.length_take]; omega), List.take_append_drop]
  unfold tagB tagN
  rw [hS]
theorem by64_length (x : UInt64) : (by64 x).length = 8 := rfl
theorem bytes16_length (n : Nat) : (bytes16 n).length = 16 := rfl
theorem tagB_length (R S : Nat) (l : List UInt8) : (tagB R S l).length = 16 := rfl
end Go.Proofs.Ytdkhpehniciijaa
