/-
  Arguments that came in: slices of bytes as lists of bytes.
-/
import Derived.Test.YtaapglpnofmmlaaStr
import Derived.ProofKit
import Derived.OpenShut
import Derived.ChangeOld
import Derived.Below
import Derived.SizedLaws
namespace Go.Proofs.Ytaapglpnofmmlaa
open Go Go.RowKit Go.ChangeShapes Go.WideShapes Go.ChangeAt
theorem own : ownKnob Try.prog.godebug = none := by kernel_rfl
theorem laidOut : laidOutB Try.prog = true := by kernel_rfl
theorem cellsByte : Try.prog.cellsOf 5 = 1 := by kernel_rfl
theorem bytesByte : Try.prog.bytesOf 5 = 1 := by kernel_rfl
theorem u8_ofInt {n : Int} (h : (Lit.int .u8 n).wf = true) : u8 (UInt8.ofNat n.toNat) = n := by
  have hx : 0 ≤ n ∧ n ≤ 255 := by simpa [Lit.wf, IntKind.min, IntKind.max, IntKind.signed, IntKind.bits] using h
  unfold u8
  rw [UInt8.toNat_ofNat']
  omega
/-- the bytes of a list of numbers -/
def bytesOfInts (zs : List Int) : List UInt8 := zs.map fun n => UInt8.ofNat n.toNat
/-- a slice of bytes that came in reads as bytes; its capacity is told by its datum -/
theorem open_bytes {H : Type} {enc : TypeId × Value → H} {W : World} {base : Nat} {held : Bool} {a : Option Addr} {n c : Nat} {d : DataW H} {p : List MemPlace}
    (h : DataW.Trod enc Try.prog W base (fun _ => true) held 22 (.slice a n c) d p) :
    ∃ l : List UInt8, SlB W (.slice a n c) l ∧ l.length = n ∧ ((n = 0 ∧ c = 0) ∨ ∃ elems spare, d = .slice elems spare ∧ elems.length + spare.length = c ∧ n ≤ c) := by
  obtain ⟨fuel, hf⟩ := h
  rcases open_ints Try.underlying22 Try.underlying5 cellsByte hf with ⟨hcs, _⟩ | ⟨x, l, cc, zs, hcs, _, hl, hm, hz, hx, hcell, hwz⟩
  · simp [Value.cells] at hcs
    obtain ⟨rfl, rfl, rfl⟩ := hcs
    exact ⟨[], SlB.nil W, rfl, Or.inl ⟨rfl, rfl⟩⟩
  · simp [Value.cells] at hcs
    obtain ⟨rfl, rfl, rfl⟩ := hcs
    have hz' : zs.length = c := by simpa using hz
    refine ⟨bytesOfInts (zs.take n), ?_, ?_, Or.inr ?_⟩
    · refine Or.inr ⟨x, c, ?_, ?_, hm, ?_⟩
      · simp [bytesOfInts, hz', Nat.min_eq_left hl]
      · simp [bytesOfInts]; omega
      · intro j u hu
        have hj : j < n := by
          have := (List.getElem?_eq_some_iff.1 hu).1
          rw [vals8_len] at this
          simp [bytesOfInts] at this
          omega
        rw [hcell j (by omega)]
        simp only [vals8, bytesOfInts, List.map_map, List.getElem?_map, List.getElem?_take, hj, if_true] at hu
        have hjz : j < zs.length := by omega
        rw [List.getElem?_eq_getElem hjz] at hu
        simp only [Option.map_some, Option.some.injEq, Function.comp] at hu
        rw [← hu, u8_ofInt (hwz _ (List.getElem_mem hjz))]
        simp [List.getD, List.getElem?_eq_getElem hjz]
    · simp [bytesOfInts, hz', Nat.min_eq_left hl]
    · simp only [Prod.mk.injEq] at hx
      obtain ⟨hd, _⟩ := hx
      exact ⟨_, _, hd, by simp [lits]; omega, hl⟩
end Go.Proofs.Ytaapglpnofmmlaa
