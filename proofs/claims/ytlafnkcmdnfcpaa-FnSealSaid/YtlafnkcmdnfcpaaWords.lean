/-
  Words of 8, 32 and 64 bits as the walk's integers, under names that simp does not open, and the walk's operations on them.
-/
import Derived.WalkKit
namespace Go.Proofs.Ytlafnkcmdnfcpaa
open Go

/-- a byte, as the model's number -/
def u8 (x : UInt8) : Int := (x.toNat : Int)
/-- a word of 32 bits, as the model's number -/
def u32 (x : UInt32) : Int := (x.toNat : Int)
/-- a word of 64 bits, as the model's number -/
def u64 (x : UInt64) : Int := (x.toNat : Int)

theorem u8_nonneg (x : UInt8) : 0 ≤ u8 x := Int.natCast_nonneg _
theorem u8_lt (x : UInt8) : u8 x < 256 := by unfold u8; have := x.toNat_lt; omega
theorem u32_nonneg (x : UInt32) : 0 ≤ u32 x := Int.natCast_nonneg _
theorem u32_lt (x : UInt32) : u32 x < 4294967296 := by unfold u32; have := x.toNat_lt; omega
theorem u64_nonneg (x : UInt64) : 0 ≤ u64 x := Int.natCast_nonneg _
theorem u64_lt (x : UInt64) : u64 x < 18446744073709551616 := by unfold u64; have := x.toNat_lt; omega

theorem u8_wf (x : UInt8) : (Lit.int .u8 (u8 x)).wf = true := by
  have h0 := u8_nonneg x
  have h1 := u8_lt x
  simp [Lit.wf, IntKind.min, IntKind.max, IntKind.signed, IntKind.bits]; omega
theorem u8_inj {x y : UInt8} : u8 x = u8 y ↔ x = y := by
  unfold u8; rw [Int.ofNat_inj, UInt8.toNat_inj]
theorem u32_inj {x y : UInt32} : u32 x = u32 y ↔ x = y := by
  unfold u32; rw [Int.ofNat_inj, UInt32.toNat_inj]
theorem u64_inj {x y : UInt64} : u64 x = u64 y ↔ x = y := by
  unfold u64; rw [Int.ofNat_inj, UInt64.toNat_inj]

section add
theorem wrap_add32 (x y : UInt32) : IntKind.u32.wrap (u32 x + u32 y) = u32 (x + y) := by
  rw [IntKind.wrap_u32]; unfold u32; rw [UInt32.toNat_add]; omega
theorem wrap_add64 (x y : UInt64) : IntKind.u64.wrap (u64 x + u64 y) = u64 (x + y) := by
  rw [IntKind.wrap_u64]; unfold u64; rw [UInt64.toNat_add]; omega
theorem wrap_u8_u8 (x : UInt8) : IntKind.u8.wrap (u8 x) = u8 x := by
  have h0 := u8_nonneg x; have h1 := u8_lt x
  rw [IntKind.wrap_u8]; omega
theorem wrap_u32_u8 (x : UInt8) : IntKind.u32.wrap (u8 x) = u32 x.toUInt32 := by
  rw [IntKind.wrap_u32]; unfold u8 u32; rw [UInt8.toNat_toUInt32]; have := x.toNat_lt; omega
theorem wrap_u64_u8 (x : UInt8) : IntKind.u64.wrap (u8 x) = u64 x.toUInt64 := by
  rw [IntKind.wrap_u64]; unfold u8 u64; rw [UInt8.toNat_toUInt64]; have := x.toNat_lt; omega
theorem wrap_u8_u32 (x : UInt32) : IntKind.u8.wrap (u32 x) = u8 x.toUInt8 := by
  rw [IntKind.wrap_u8]; unfold u8 u32; rw [UInt32.toNat_toUInt8]; omega
theorem wrap_u8_u64 (x : UInt64) : IntKind.u8.wrap (u64 x) = u8 x.toUInt8 := by
  rw [IntKind.wrap_u8]; unfold u8 u64; rw [UInt64.toNat_toUInt8]; omega
end add
section bits
theorem bits_xor32 (x y : UInt32) : bits .xor .u32 (u32 x) (u32 y) = u32 (x ^^^ y) := by
  unfold u32; rw [u32_xor_nat _ _ x.toNat_lt y.toNat_lt, UInt32.toNat_xor]
theorem bits_or32 (x y : UInt32) : bits .or .u32 (u32 x) (u32 y) = u32 (x ||| y) := by
  unfold u32; rw [u32_or_nat _ _ x.toNat_lt y.toNat_lt, UInt32.toNat_or]
theorem bits_and32 (x y : UInt32) : bits .and .u32 (u32 x) (u32 y) = u32 (x &&& y) := by
  unfold u32; rw [u32_and_nat _ _ x.toNat_lt y.toNat_lt, UInt32.toNat_and]
theorem bits_xor8 (x y : UInt8) : bits .xor .u8 (u8 x) (u8 y) = u8 (x ^^^ y) := by
  unfold u8; rw [u8_xor_nat _ _ x.toNat_lt y.toNat_lt, UInt8.toNat_xor]
theorem bits_or8 (x y : UInt8) : bits .or .u8 (u8 x) (u8 y) = u8 (x ||| y) := by
  unfold u8; rw [u8_or_nat _ _ x.toNat_lt y.toNat_lt, UInt8.toNat_or]
theorem bits_and8 (x y : UInt8) : bits .and .u8 (u8 x) (u8 y) = u8 (x &&& y) := by
  unfold u8; rw [u8_and_nat _ _ x.toNat_lt y.toNat_lt, UInt8.toNat_and]
theorem bits_xor64 (x y : UInt64) : bits .xor .u64 (u64 x) (u64 y) = u64 (x ^^^ y) := by
  unfold u64; rw [u64_xor_nat _ _ x.toNat_lt y.toNat_lt, UInt64.toNat_xor]
theorem bits_or64 (x y : UInt64) : bits .or .u64 (u64 x) (u64 y) = u64 (x ||| y) := by
  unfold u64; rw [u64_or_nat _ _ x.toNat_lt y.toNat_lt, UInt64.toNat_or]
theorem bits_and64 (x y : UInt64) : bits .and .u64 (u64 x) (u64 y) = u64 (x &&& y) := by
  unfold u64; rw [u64_and_nat _ _ x.toNat_lt y.toNat_lt, UInt64.toNat_and]
end bits
section shifts
theorem shl32 (x : UInt32) (n : Nat) (h : n < 32) : IntKind.u32.wrap (u32 x * ((2 ^ n : Nat) : Int)) = u32 (x <<< UInt32.ofNat n) := by
  rw [IntKind.wrap_u32]; unfold u32
  rw [UInt32.toNat_shiftLeft, UInt32.toNat_ofNat', Nat.shiftLeft_eq, Nat.mod_eq_of_lt (a := n) (by omega), Nat.mod_eq_of_lt (a := n) h]
  omega
theorem shr32 (x : UInt32) (n : Nat) (h : n < 32) : u32 x / ((2 ^ n : Nat) : Int) = u32 (x >>> UInt32.ofNat n) := by
  unfold u32
  rw [UInt32.toNat_shiftRight, UInt32.toNat_ofNat', Nat.shiftRight_eq_div_pow, Nat.mod_eq_of_lt (a := n) (by omega), Nat.mod_eq_of_lt (a := n) h]
  exact (Int.natCast_ediv _ _).symm
theorem shl64 (x : UInt64) (n : Nat) (h : n < 64) : IntKind.u64.wrap (u64 x * ((2 ^ n : Nat) : Int)) = u64 (x <<< UInt64.ofNat n) := by
  rw [IntKind.wrap_u64]; unfold u64
  rw [UInt64.toNat_shiftLeft, UInt64.toNat_ofNat', Nat.shiftLeft_eq, Nat.mod_eq_of_lt (a := n) (by omega), Nat.mod_eq_of_lt (a := n) h]
  omega
theorem shr64 (x : UInt64) (n : Nat) (h : n < 64) : u64 x / ((2 ^ n : Nat) : Int) = u64 (x >>> UInt64.ofNat n) := by
  unfold u64
  rw [UInt64.toNat_shiftRight, UInt64.toNat_ofNat', Nat.shiftRight_eq_div_pow, Nat.mod_eq_of_lt (a := n) (by omega), Nat.mod_eq_of_lt (a := n) h]
  exact (Int.natCast_ediv _ _).symm
theorem shl32_7 (x : UInt32) : IntKind.u32.wrap (u32 x * (128 : Int)) = u32 (x <<< 7) := shl32 x 7 (by decide)
theorem shl32_8 (x : UInt32) : IntKind.u32.wrap (u32 x * (256 : Int)) = u32 (x <<< 8) := shl32 x 8 (by decide)
theorem shl32_12 (x : UInt32) : IntKind.u32.wrap (u32 x * (4096 : Int)) = u32 (x <<< 12) := shl32 x 12 (by decide)
theorem shl32_16 (x : UInt32) : IntKind.u32.wrap (u32 x * (65536 : Int)) = u32 (x <<< 16) := shl32 x 16 (by decide)
theorem shl32_24 (x : UInt32) : IntKind.u32.wrap (u32 x * (16777216 : Int)) = u32 (x <<< 24) := shl32 x 24 (by decide)
theorem shr32_8 (x : UInt32) : u32 x / (256 : Int) = u32 (x >>> 8) := shr32 x 8 (by decide)
theorem shr32_16 (x : UInt32) : u32 x / (65536 : Int) = u32 (x >>> 16) := shr32 x 16 (by decide)
theorem shr32_20 (x : UInt32) : u32 x / (1048576 : Int) = u32 (x >>> 20) := shr32 x 20 (by decide)
theorem shr32_24 (x : UInt32) : u32 x / (16777216 : Int) = u32 (x >>> 24) := shr32 x 24 (by decide)
theorem shr32_25 (x : UInt32) : u32 x / (33554432 : Int) = u32 (x >>> 25) := shr32 x 25 (by decide)
theorem shl64_8 (x : UInt64) : IntKind.u64.wrap (u64 x * (256 : Int)) = u64 (x <<< 8) := shl64 x 8 (by decide)
theorem shl64_16 (x : UInt64) : IntKind.u64.wrap (u64 x * (65536 : Int)) = u64 (x <<< 16) := shl64 x 16 (by decide)
theorem shl64_24 (x : UInt64) : IntKind.u64.wrap (u64 x * (16777216 : Int)) = u64 (x <<< 24) := shl64 x 24 (by decide)
theorem shl64_32 (x : UInt64) : IntKind.u64.wrap (u64 x * (4294967296 : Int)) = u64 (x <<< 32) := shl64 x 32 (by decide)
theorem shl64_40 (x : UInt64) : IntKind.u64.wrap (u64 x * (1099511627776 : Int)) = u64 (x <<< 40) := shl64 x 40 (by decide)
theorem shl64_48 (x : UInt64) : IntKind.u64.wrap (u64 x * (281474976710656 : Int)) = u64 (x <<< 48) := shl64 x 48 (by decide)
theorem shl64_56 (x : UInt64) : IntKind.u64.wrap (u64 x * (72057594037927936 : Int)) = u64 (x <<< 56) := shl64 x 56 (by decide)
theorem shl64_62 (x : UInt64) : IntKind.u64.wrap (u64 x * (4611686018427387904 : Int)) = u64 (x <<< 62) := shl64 x 62 (by decide)
theorem shr64_2 (x : UInt64) : u64 x / (4 : Int) = u64 (x >>> 2) := shr64 x 2 (by decide)
theorem shr64_8 (x : UInt64) : u64 x / (256 : Int) = u64 (x >>> 8) := shr64 x 8 (by decide)
theorem shr64_16 (x : UInt64) : u64 x / (65536 : Int) = u64 (x >>> 16) := shr64 x 16 (by decide)
theorem shr64_24 (x : UInt64) : u64 x / (16777216 : Int) = u64 (x >>> 24) := shr64 x 24 (by decide)
theorem shr64_32 (x : UInt64) : u64 x / (4294967296 : Int) = u64 (x >>> 32) := shr64 x 32 (by decide)
theorem shr64_40 (x : UInt64) : u64 x / (1099511627776 : Int) = u64 (x >>> 40) := shr64 x 40 (by decide)
theorem shr64_48 (x : UInt64) : u64 x / (281474976710656 : Int) = u64 (x >>> 48) := shr64 x 48 (by decide)
theorem shr64_56 (x : UInt64) : u64 x / (72057594037927936 : Int) = u64 (x >>> 56) := shr64 x 56 (by decide)
end shifts
attribute [go_sem] wrap_add32 wrap_add64 wrap_u8_u8 wrap_u32_u8 wrap_u64_u8 wrap_u8_u32 wrap_u8_u64 bits_xor32 bits_or32 bits_and32 bits_xor8 bits_or8 bits_and8 bits_xor64 bits_or64 bits_and64 shl32_7 shl32_8 shl32_12 shl32_16 shl32_24 shr32_8 shr32_16 shr32_20 shr32_24 shr32_25 shl64_8 shl64_16 shl64_24 shl64_32 shl64_40 shl64_48 shl64_56 shl64_62 shr64_2 shr64_8 shr64_16 shr64_24 shr64_32 shr64_40 shr64_48 shr64_56
end Go.Proofs.Ytlafnkcmdnfcpaa
