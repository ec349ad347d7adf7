/-
  Contracts: bits.Mul64, poly1305.mul64, add128, shiftRightBy2, select64.
-/
import Derived.Test.YtlafnkcmdnfcpaaLimb
namespace Go.Proofs.Ytlafnkcmdnfcpaa
open Go Go.RowKit
namespace MulN
theorem maskN (a : Nat) (ha : a < 18446744073709551616) : bits .and .u64 (a : Int) 4294967295 = ((a % 4294967296 : Nat) : Int) := by
  have h := bits_and_u64_nat a 4294967295 ha (by omega)
  have e : a &&& 4294967295 = a % 4294967296 := Nat.and_two_pow_sub_one_eq_mod a 32
  rw [e] at h
  exact h
theorem divN (a : Nat) : (a : Int) / 4294967296 = ((a / 4294967296 : Nat) : Int) := by omega
theorem mulN (a b : Nat) : (a : Int) * (b : Int) = ((a * b : Nat) : Int) := (Int.natCast_mul a b).symm
theorem addN (a b : Nat) : (a : Int) + (b : Int) = ((a + b : Nat) : Int) := (Int.natCast_add a b).symm
theorem wrapN (a : Nat) (ha : a < 18446744073709551616) : IntKind.u64.wrap (a : Int) = (a : Int) := by rw [IntKind.wrap_u64]; omega
theorem wrapM (a : Nat) : IntKind.u64.wrap (a : Int) = ((a % 18446744073709551616 : Nat) : Int) := by rw [IntKind.wrap_u64]; omega
end MulN
set_option maxHeartbeats 1000000 in
theorem Mul64_n (x y : Nat) (hx : x < 18446744073709551616) (hy : y < 18446744073709551616) (w : World) :
    Calls Try.prog 98 #[.int .u64 x, .int .u64 y] w fun e w' => e = .returned (.tuple #[.int .u64 ((x * y / 18446744073709551616 : Nat) : Int), .int .u64 ((x * y % 18446744073709551616 : Nat) : Int)]) ∧ w' = w := by
  obtain ⟨bd, bt, bw, hhi⟩ := Lib.mul64_hi x y hx hy
  have ba := Lib.half_mul_le (a := x / 4294967296) (b := y / 4294967296) (by omega) (by omega)
  have bb := Lib.half_mul_le (a := x / 4294967296) (b := y % 4294967296) (by omega) (by omega)
  have bc := Lib.half_mul_le (a := x % 4294967296) (b := y / 4294967296) (by omega) (by omega)
  have ba' : x / 4294967296 * (y / 4294967296) < 18446744073709551616 := by omega
  have bb' : x / 4294967296 * (y % 4294967296) < 18446744073709551616 := by omega
  have bc' : x % 4294967296 * (y / 4294967296) < 18446744073709551616 := by omega
  have bh1 : x / 4294967296 * (y / 4294967296) + (x / 4294967296 * (y % 4294967296) + x % 4294967296 * (y % 4294967296) / 4294967296) / 4294967296 < 18446744073709551616 := by omega
  have bh : x / 4294967296 * (y / 4294967296) + (x / 4294967296 * (y % 4294967296) + x % 4294967296 * (y % 4294967296) / 4294967296) / 4294967296 + ((x / 4294967296 * (y % 4294967296) + x % 4294967296 * (y % 4294967296) / 4294967296) % 4294967296 + x % 4294967296 * (y / 4294967296)) / 4294967296 < 18446744073709551616 := by omega
  go_enter Try.func98, Try.ntmps98
  go_wp2
  simp only [MulN.maskN x hx, MulN.maskN y hy, MulN.divN, MulN.mulN, MulN.addN, MulN.wrapN _ bd, MulN.wrapN _ bb', MulN.wrapN _ bt, MulN.maskN _ bt, MulN.wrapN _ bc', MulN.wrapN _ bw, MulN.wrapN _ ba', MulN.wrapN _ bh1, MulN.wrapN _ bh, MulN.wrapM (x * y)]
  rw [hhi]
  go_ret2
  exact ⟨rfl, rfl⟩
theorem mhi_lt (x y : UInt64) : x.toNat * y.toNat / 18446744073709551616 < 18446744073709551616 := by
  have h1 := x.toNat_lt; have h2 := y.toNat_lt
  rw [Nat.div_lt_iff_lt_mul (by omega)]
  exact Nat.lt_of_le_of_lt (Nat.mul_le_mul_left _ (Nat.le_of_lt h2)) (Nat.mul_lt_mul_of_pos_right h1 (by omega))
theorem mhi_toNat (x y : UInt64) : (mhi x y).toNat = x.toNat * y.toNat / 18446744073709551616 := by
  unfold mhi; rw [UInt64.toNat_ofNat', Nat.mod_eq_of_lt (mhi_lt x y)]
theorem mlo_toNat (x y : UInt64) : (mlo x y).toNat = x.toNat * y.toNat % 18446744073709551616 := by
  unfold mlo; rw [UInt64.toNat_ofNat']
theorem Mul64_c (x y : UInt64) (w : World) :
    Calls Try.prog 98 #[.int .u64 (u64 x), .int .u64 (u64 y)] w fun e w' => e = .returned (.tuple #[.int .u64 (u64 (mhi x y)), .int .u64 (u64 (mlo x y))]) ∧ w' = w := by
  have := Mul64_n x.toNat y.toNat x.toNat_lt y.toNat_lt w
  unfold u64
  rw [mhi_toNat, mlo_toNat]
  exact this
/-- a pair of limbs -/
abbrev pr (l h : UInt64) : Value := .agg #[.int .u64 (u64 l), .int .u64 (u64 h)]
theorem mul64_c (x y : UInt64) (w : World) :
    Calls Try.prog 91 #[.int .u64 (u64 x), .int .u64 (u64 y)] w fun e w' => e = .returned (pr (mlo x y) (mhi x y)) ∧ w' = w.alloc (.cells #[.int .u64 (u64 (mlo x y)), .int .u64 (u64 (mhi x y))] 156) := by
  go_enter Try.func91, Try.ntmps91
  go_wp2_with (go_at_call 98; refine (Mul64_c _ _ _).mono ?_; rintro e w' ⟨rfl, rfl⟩)
  refine bodyPost_ret (by simp [results, Try.results91, go_sem]; rfl) rfl ?_
  exact ⟨rfl, rfl⟩
/-- the block of a pair -/
abbrev prO (l h : UInt64) : Obj := .cells #[.int .u64 (u64 l), .int .u64 (u64 h)] 156
theorem add128_c (a b c d : UInt64) (w : World) (hz : adB b d (adB a c false) = false) :
    Calls Try.prog 92 #[pr a b, pr c d] w fun e w' => e = .returned (pr (adW a c false) (adW b d (adB a c false))) ∧ w' = ((w.alloc (prO a b)).alloc (prO c d)).alloc (prO (adW a c false) (adW b d (adB a c false))) := by
  have hz' : bw (adB b d (adB a c false)) = 0 := by rw [hz]; rfl
  clear hz
  go_enter Try.func92, Try.ntmps92
  go_wp2_with (first | rw [call_Add64_0] | rw [call_Add64])
  refine bodyPost_ret (by simp [results, Try.results92, go_sem]; rfl) rfl ?_
  exact ⟨rfl, rfl⟩
/-- what shiftRightBy2 makes of both limbs -/
def sh2 (l h : UInt64) : UInt64 := (l >>> 2) ||| ((h &&& 3) <<< 62)
theorem and3 (x : UInt64) : bits .and .u64 (u64 x) 3 = u64 (x &&& 3) := bits_and64 x 3
theorem shiftRightBy2_c (l h : UInt64) (w : World) :
    Calls Try.prog 93 #[pr l h] w fun e w' => e = .returned (pr (sh2 l h) (h >>> 2)) ∧ w' = (w.alloc (prO (sh2 l h) (h >>> 2))).alloc (prO (sh2 l h) (h >>> 2)) := by
  go_enter Try.func93, Try.ntmps93
  go_wp2_with (rw [and3])
  refine bodyPost_ret (by simp [results, Try.results93, go_sem]; rfl) rfl ?_
  exact ⟨rfl, rfl⟩
theorem wrap_bw_less (b : Bool) : IntKind.u64.wrap (bw b - 1) = u64 (bW b - 1) := by cases b <;> rfl
theorem not64 (x : UInt64) : bits .xor .u64 IntKind.u64.max (u64 x) = u64 (~~~ x) := by
  have h : (IntKind.u64.max : Int) = u64 0xFFFFFFFFFFFFFFFF := rfl
  rw [h, bits_xor64]
  congr 1
theorem sel_eq (b : Bool) (x y : UInt64) : (~~~ (bW b - 1)) &&& x ||| (bW b - 1) &&& y = if b then x else y := by
  cases b
  · apply UInt64.eq_of_toBitVec_eq
    simp [bW]
  · apply UInt64.eq_of_toBitVec_eq
    simp [bW]
theorem select64_c (b : Bool) (x y : UInt64) (w : World) :
    Calls Try.prog 95 #[.int .u64 (bw b), .int .u64 (u64 x), .int .u64 (u64 y)] w fun e w' => e = .returned (.int .u64 (u64 (if b then x else y))) ∧ w' = w := by
  rw [← sel_eq b x y]
  go_enter Try.func95, Try.ntmps95
  go_wp2
  simp only [wrap_bw_less, not64, bits_and64, bits_or64]
  go_ret
  exact ⟨rfl, rfl⟩
end Go.Proofs.Ytlafnkcmdnfcpaa
