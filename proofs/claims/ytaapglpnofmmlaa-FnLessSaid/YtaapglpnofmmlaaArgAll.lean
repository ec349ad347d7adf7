/-
  Arguments that came in: bytes, arrays of bytes, words of 8 and of 32 bits.
-/
import Derived.Test.YtaapglpnofmmlaaStr
import Derived.ProofKit
import Derived.OpenShut
import Derived.ChangeOld
import Derived.Below
import Derived.SizedLaws
namespace Go.Proofs.Ytaapglpnofmmlaa
section
open Go Go.RowKit Go.ChangeShapes Go.WideShapes Go.ChangeAt
theorem own : ownKnob Try.prog.godebug = none := by kernel_rfl
theorem laidOut : laidOutB Try.prog = true := by kernel_rfl
theorem cellsByte : Try.prog.cellsOf 5 = 1 := by kernel_rfl
theorem bytesByte : Try.prog.bytesOf 5 = 1 := by kernel_rfl
theorem u8_ofInt {n : Int} (h : (Lit.int .u8 n).wf = true) : u8 (UInt8.ofNat n.toNat) = n := by
  have hx : 0 ≤ n ∧ n ≤ 255 := by simpa [Lit.wf, IntKind.min, IntKind.max, IntKind.signed, IntKind.bits] using h
  unfold u8
  rw [UInt8.toNat_ofNat']
  omega
/-- the bytes of a list of numbers -/
def bytesOfInts (zs : List Int) : List UInt8 := zs.map fun n => UInt8.ofNat n.toNat
/-- a slice of bytes that came in reads as bytes; its capacity is told by its datum -/
theorem open_bytes {H : Type} {enc : TypeId × Value → H} {W : World} {base : Nat} {held : Bool} {a : Option Addr} {n c : Nat} {d : DataW H} {p : List MemPlace}
    (h : DataW.Trod enc Try.prog W base (fun _ => true) held 22 (.slice a n c) d p) :
    ∃ l : List UInt8, SlB W (.slice a n c) l ∧ l.length = n ∧ ((n = 0 ∧ c = 0) ∨ ∃ elems spare, d = .slice elems spare ∧ elems.length + spare.length = c ∧ n ≤ c) := by
  obtain ⟨fuel, hf⟩ := h
  rcases open_ints Try.underlying22 Try.underlying5 cellsByte hf with ⟨hcs, _⟩ | ⟨x, l, cc, zs, hcs, _, hl, hm, hz, hx, hcell, hwz⟩
  · simp [Value.cells] at hcs
    obtain ⟨rfl, rfl, rfl⟩ := hcs
    exact ⟨[], SlB.nil W, rfl, Or.inl ⟨rfl, rfl⟩⟩
  · simp [Value.cells] at hcs
    obtain ⟨rfl, rfl, rfl⟩ := hcs
    have hz' : zs.length = c := by simpa using hz
    refine ⟨bytesOfInts (zs.take n), ?_, ?_, Or.inr ?_⟩
    · refine Or.inr ⟨x, c, ?_, ?_, hm, ?_⟩
      · simp [bytesOfInts, hz', Nat.min_eq_left hl]
      · simp [bytesOfInts]; omega
      · intro j u hu
        have hj : j < n := by
          have := (List.getElem?_eq_some_iff.1 hu).1
          rw [vals8_len] at this
          simp [bytesOfInts] at this
          omega
        rw [hcell j (by omega)]
        simp only [vals8, bytesOfInts, List.map_map, List.getElem?_map, List.getElem?_take, hj, if_true] at hu
        have hjz : j < zs.length := by omega
        rw [List.getElem?_eq_getElem hjz] at hu
        simp only [Option.map_some, Option.some.injEq, Function.comp] at hu
        rw [← hu, u8_ofInt (hwz _ (List.getElem_mem hjz))]
        simp [List.getD, List.getElem?_eq_getElem hjz]
    · simp [bytesOfInts, hz', Nat.min_eq_left hl]
    · simp only [Prod.mk.injEq] at hx
      obtain ⟨hd, _⟩ := hx
      exact ⟨_, _, hd, by simp [lits]; omega, hl⟩
end
section
open Go Go.RowKit Go.ChangeShapes Go.WideShapes Go.ChangeAt
/-- an array of bytes that came in -/
theorem open_arr {P : Program} {H : Type} {enc : TypeId × Value → H} {W : World} {base : Nat} {held : Bool} {T e8 : TypeId} {n : Nat} {v : Value} {d : DataW H} {p : List MemPlace}
    (hu : P.underlying T = some (.array n e8)) (h8 : P.underlying e8 = some (.int .u8)) (hce : P.cellsOf e8 = 1) (hc : P.cellsOf T = n) (hok : Value.okWide P W .any base T v)
    (h : DataW.Trod enc P W 0 (fun _ => true) held T v d p) : ∃ l : List UInt8, l.length = n ∧ v = .agg (cells8 l) := by
  obtain ⟨cs, rfl, hsz, _⟩ : ∃ cs, v = .agg cs ∧ cs.size = P.cellsOf T ∧ Row.okWide P W .any base T cs := by
    simpa [Value.okWide, hu] using hok
  rw [hc] at hsz
  obtain ⟨fuel, hf⟩ := h
  obtain ⟨xs, m, -, -, -, hxl, hx⟩ := DataW.trod_array hu hf
  have hcells : (Value.agg cs).cells.toList = cs.toList := rfl
  rw [hcells, hce] at hx
  have hcell : ∀ i, (hi : i < cs.toList.length) → ∃ z, cs.toList[i] = .int .u8 z ∧ (Lit.int .u8 z).wf = true := by
    intro i hi
    have hi' : i < n := by rw [← hsz]; simpa using hi
    have h1 := hx i hi'
    rw [Nat.mul_one, List.drop_eq_getElem_cons hi, List.take_succ_cons, List.take_zero, List.getElem?_eq_getElem (by omega)] at h1
    obtain ⟨x0, e0, -, w0⟩ := DataW.trod_int h8 h1
    simp only [List.cons.injEq, and_true] at e0
    exact ⟨x0, e0, w0⟩
  refine ⟨cs.toList.map fun c => match c with | .int _ z => UInt8.ofNat z.toNat | _ => 0, by simpa using hsz, ?_⟩
  congr 1
  unfold cells8
  rw [List.map_map]
  apply Array.toList_inj.1
  apply List.ext_getElem
  · simp
  · intro i h1 h2
    obtain ⟨z, e, hw⟩ := hcell i h1
    simp only [List.getElem_map, Function.comp, e]
    rw [u8_ofInt hw]
end
section
open Go Go.RowKit Go.ChangeShapes Go.WideShapes Go.ChangeAt
theorem open_u8 {P : Program} {H : Type} {enc : TypeId × Value → H} {W : World} {base base' : Nat} {sp : Nat → Bool} {held : Bool} {T : TypeId} {v : Value} {d : DataW H} {p : List MemPlace} (hu : P.underlying T = some (.int .u8))
    (h : DataW.Trod enc P W base' sp held T v d p) (hok : Value.okWide P W .any base T v) : ∃ x : UInt8, v = .int .u8 (u8 x) := by
  obtain ⟨n, rfl, -, -, hw⟩ := open_int hu hok h
  exact ⟨UInt8.ofNat n.toNat, by rw [u8_ofInt hw]⟩
theorem u32_ofInt {n : Int} (h : (Lit.int .u32 n).wf = true) : u32 (UInt32.ofNat n.toNat) = n := by
  have hx : 0 ≤ n ∧ n ≤ 4294967295 := by simpa [Lit.wf, IntKind.min, IntKind.max, IntKind.signed, IntKind.bits] using h
  unfold u32
  rw [UInt32.toNat_ofNat']
  omega
theorem open_u32 {P : Program} {H : Type} {enc : TypeId × Value → H} {W : World} {base base' : Nat} {sp : Nat → Bool} {held : Bool} {T : TypeId} {v : Value} {d : DataW H} {p : List MemPlace} (hu : P.underlying T = some (.int .u32))
    (h : DataW.Trod enc P W base' sp held T v d p) (hok : Value.okWide P W .any base T v) : ∃ x : UInt32, v = .int .u32 (u32 x) := by
  obtain ⟨n, rfl, -, -, hw⟩ := open_int hu hok h
  exact ⟨UInt32.ofNat n.toNat, by rw [u32_ofInt hw]⟩
end
end Go.Proofs.Ytaapglpnofmmlaa
