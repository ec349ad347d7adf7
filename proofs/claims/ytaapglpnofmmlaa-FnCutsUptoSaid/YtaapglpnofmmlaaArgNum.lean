/-
  Arguments that came in: words of 8 and of 32 bits.
-/
import Derived.Test.YtaapglpnofmmlaaArgArr
namespace Go.Proofs.Ytaapglpnofmmlaa
open Go Go.RowKit Go.ChangeShapes Go.WideShapes Go.ChangeAt
theorem open_u8 {P : Program} {H : Type} {enc : TypeId × Value → H} {W : World} {base base' : Nat} {sp : Nat → Bool} {held : Bool} {T : TypeId} {v : Value} {d : DataW H} {p : List MemPlace} (hu : P.underlying T = some (.int .u8))
    (h : DataW.Trod enc P W base' sp held T v d p) (hok : Value.okWide P W .any base T v) : ∃ x : UInt8, v = .int .u8 (u8 x) := by
  obtain ⟨n, rfl, -, -, hw⟩ := open_int hu hok h
  exact ⟨UInt8.ofNat n.toNat, by rw [u8_ofInt hw]⟩
theorem u32_ofInt {n : Int} (h : (Lit.int .u32 n).wf = true) : u32 (UInt32.ofNat n.toNat) = n := by
  have hx : 0 ≤ n ∧ n ≤ 4294967295 := by simpa [Lit.wf, IntKind.min, IntKind.max, IntKind.signed, IntKind.bits] using h
  unfold u32
  rw [UInt32.toNat_ofNat']
  omega
theorem open_u32 {P : Program} {H : Type} {enc : TypeId × Value → H} {W : World} {base base' : Nat} {sp : Nat → Bool} {held : Bool} {T : TypeId} {v : Value} {d : DataW H} {p : List MemPlace} (hu : P.underlying T = some (.int .u32))
    (h : DataW.Trod enc P W base' sp held T v d p) (hok : Value.okWide P W .any base T v) : ∃ x : UInt32, v = .int .u32 (u32 x) := by
  obtain ⟨n, rfl, -, -, hw⟩ := open_int hu hok h
  exact ⟨UInt32.ofNat n.toNat, by rw [u32_ofInt hw]⟩
end Go.Proofs.Ytaapglpnofmmlaa
