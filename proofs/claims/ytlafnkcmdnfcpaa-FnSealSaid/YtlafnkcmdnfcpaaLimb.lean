/-
  Limbs of 64 bits with carries: what bits.Add64, bits.Sub64, bits.Mul64 yield, and their contracts; poly1305.mul64, add128, shiftRightBy2, select64.
-/
import Derived.Test.YtlafnkcmdnfcpaaRows
import Derived.Test.YtlafnkcmdnfcpaaMem
import Derived.Laws.Externs
import Derived.Lib.Mul64
import Derived.Laws.Bits64b
import Derived.WalkLawsBesides
import Derived.Deep.QuietTactic
import Derived.BigQuiet
namespace Go.Proofs.Ytlafnkcmdnfcpaa
open Go Go.RowKit
/-- a carry, as the model's number -/
def bw (b : Bool) : Int := (b.toNat : Int)
/-- a carry, as a word -/
def bW (b : Bool) : UInt64 := UInt64.ofNat b.toNat
def adW (x y : UInt64) (b : Bool) : UInt64 := UInt64.ofNat (x.toNat + y.toNat + b.toNat)
def adB (x y : UInt64) (b : Bool) : Bool := decide (18446744073709551616 ≤ x.toNat + y.toNat + b.toNat)
def sbW (x y : UInt64) (b : Bool) : UInt64 := UInt64.ofNat (x.toNat + 18446744073709551616 - y.toNat - b.toNat)
def sbB (x y : UInt64) (b : Bool) : Bool := decide (x.toNat < y.toNat + b.toNat)
def mhi (x y : UInt64) : UInt64 := UInt64.ofNat (x.toNat * y.toNat / 18446744073709551616)
def mlo (x y : UInt64) : UInt64 := UInt64.ofNat (x.toNat * y.toNat)
theorem bw_u64 (b : Bool) : bw b = u64 (bW b) := by cases b <;> rfl
theorem bW_toNat (b : Bool) : (bW b).toNat = b.toNat := by cases b <;> rfl
theorem bw_false : bw false = 0 := rfl
theorem wrap_bw_one (b : Bool) : IntKind.u64.wrap (bw b + 1) = u64 (bW b + 1) := by cases b <;> rfl
theorem wrap_add_bw (x : UInt64) (b : Bool) : IntKind.u64.wrap (u64 x + bw b) = u64 (x + bW b) := by rw [bw_u64, wrap_add64]
attribute [go_sem] wrap_bw_one wrap_add_bw
theorem toNat_le1 (b : Bool) : b.toNat ≤ 1 := by cases b <;> decide
theorem adB_toNat (x y : UInt64) (b : Bool) : (adB x y b).toNat = (x.toNat + y.toNat + b.toNat) / 18446744073709551616 := by
  have h1 := x.toNat_lt; have h2 := y.toNat_lt; have h3 := toNat_le1 b
  unfold adB
  by_cases h : 18446744073709551616 ≤ x.toNat + y.toNat + b.toNat
  · rw [decide_eq_true h]; simp only [Bool.toNat_true]; omega
  · rw [decide_eq_false h]; simp only [Bool.toNat_false]; omega
theorem adW_toNat (x y : UInt64) (b : Bool) : (adW x y b).toNat = (x.toNat + y.toNat + b.toNat) % 18446744073709551616 := by
  unfold adW; rw [UInt64.toNat_ofNat']
theorem call_Add64 (x y : UInt64) (b : Bool) (w : World) :
    (callFunc 90 #[.int .u64 (u64 x), .int .u64 (u64 y), .int .u64 (bw b)]).run Try.prog w = .ok (.value (.tuple #[.int .u64 (u64 (adW x y b)), .int .u64 (bw (adB x y b))])) w := by
  have h3 := toNat_le1 b
  rw [run_callFunc_extern Try.func90 (by kernel_rfl) (by kernel_rfl) (by kernel_rfl) (e := add64Entry) (by kernel_rfl), run_add64 _ _ _ (u64_nonneg x) (u64_nonneg y) (by unfold bw; omega) (by unfold bw; omega)]
  simp only [Result.andThen]
  unfold bw u64
  rw [adB_toNat, adW_toNat]
  congr 5 <;> omega
theorem call_Add64_0 (x y : UInt64) (w : World) :
    (callFunc 90 #[.int .u64 (u64 x), .int .u64 (u64 y), .int .u64 0]).run Try.prog w = .ok (.value (.tuple #[.int .u64 (u64 (adW x y false)), .int .u64 (bw (adB x y false))])) w :=
  call_Add64 x y false w
/-- the model's entry for math/bits.Sub64 -/
def sub64E : Array Value → Sem Value := fun args => do
  let (x, y, b) ← Extern.MathBitsCarry.three "Sub64" args
  pure (Extern.MathBitsCarry.pair ((x + Extern.MathBitsCarry.m64 - y - b) % Extern.MathBitsCarry.m64) (if x < y + b then 1 else 0))
theorem run_sub64E {P : Program} (x y : Nat) (b : Bool) (w : World) :
    (sub64E #[.int .u64 x, .int .u64 y, .int .u64 (bw b)]).run P w =
      .ok (.tuple #[.int .u64 (((x + 18446744073709551616 - y - b.toNat) % 18446744073709551616 : Nat) : Int), .int .u64 ((if x < y + b.toNat then 1 else 0 : Nat) : Int)]) w := by
  cases b <;> rfl
theorem call_Sub64 (x y : UInt64) (b : Bool) (w : World) :
    (callFunc 94 #[.int .u64 (u64 x), .int .u64 (u64 y), .int .u64 (bw b)]).run Try.prog w = .ok (.value (.tuple #[.int .u64 (u64 (sbW x y b)), .int .u64 (bw (sbB x y b))])) w := by
  rw [run_callFunc_extern Try.func94 (by kernel_rfl) (by kernel_rfl) (by kernel_rfl) (e := sub64E) (by kernel_rfl)]
  unfold u64
  rw [run_sub64E]
  simp only [Result.andThen, bw, sbW, sbB, UInt64.toNat_ofNat']
  congr 6
  by_cases h : x.toNat < y.toNat + b.toNat <;> simp [h]
end Go.Proofs.Ytlafnkcmdnfcpaa
