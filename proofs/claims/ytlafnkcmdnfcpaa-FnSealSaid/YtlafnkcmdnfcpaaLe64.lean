/-
  Contracts: binary.LittleEndian.Uint64 and PutUint64.
-/
import Derived.Test.YtlafnkcmdnfcpaaRows
import Derived.Test.YtlafnkcmdnfcpaaMem
import Derived.Test.YtlafnkcmdnfcpaaDig
import Derived.WalkLawsBesides
import Derived.Deep.QuietTactic
import Derived.BigQuiet
namespace Go.Proofs.Ytlafnkcmdnfcpaa
open Go Go.RowKit
/-- bytes lie in block b from place o on -/
def BytesIn (w : World) (b o : Nat) (l : List UInt8) : Prop := ∀ i, i < l.length → w.cell? ⟨b, o + i, none⟩ = some (.int .u8 (u8 (l.getD i 0)))
theorem BytesIn.keeps {S : Nat → Prop} {w w' : World} {b o : Nat} {l : List UInt8} (h : BytesIn w b o l) (hk : Keeps S w w') (hs : ¬ S b) : BytesIn w' b o l :=
  fun i hi => hk.cellAt (h i hi) hs
theorem BytesIn.drewN {w : World} {b o n : Nat} {l : List UInt8} (h : BytesIn w b o l) : BytesIn (w.drewN n) b o l := h
theorem BytesIn.sub {w : World} {b o : Nat} {l : List UInt8} (h : BytesIn w b o l) (k n : Nat) : BytesIn w b (o + k) ((l.drop k).take n) := by
  intro i hi
  simp only [List.length_take, List.length_drop] at hi
  have e := h (k + i) (by omega)
  rw [Nat.add_assoc, e]
  congr 3
  simp [List.getD, List.getElem?_drop, show i < n from by omega]
/-- the word of eight bytes -/
def le64 (x0 x1 x2 x3 x4 x5 x6 x7 : UInt8) : UInt64 :=
  x0.toUInt64 ||| x1.toUInt64 <<< 8 ||| x2.toUInt64 <<< 16 ||| x3.toUInt64 <<< 24 ||| x4.toUInt64 <<< 32 ||| x5.toUInt64 <<< 40 ||| x6.toUInt64 <<< 48 ||| x7.toUInt64 <<< 56
theorem or_shift (a : UInt64) (b : UInt8) (k : Nat) (hk : k ≤ 56) (h : a.toNat < 2 ^ k) : (a ||| b.toUInt64 <<< UInt64.ofNat k).toNat = a.toNat + 2 ^ k * b.toNat ∧ (a ||| b.toUInt64 <<< UInt64.ofNat k).toNat < 2 ^ (k + 8) := by
  have hb := b.toNat_lt
  have h1 : b.toNat * 2 ^ k < 2 ^ 64 := by
    have h2 : 2 ^ 64 = 2 ^ (64 - k) * 2 ^ k := by rw [← Nat.pow_add]; congr 1; omega
    have h3 : 2 ^ 8 ≤ 2 ^ (64 - k) := Nat.pow_le_pow_right (by omega) (by omega)
    rw [h2]
    exact Nat.mul_lt_mul_of_pos_right (by omega) (Nat.two_pow_pos k)
  have e : (a ||| b.toUInt64 <<< UInt64.ofNat k).toNat = a.toNat + 2 ^ k * b.toNat := by
    rw [UInt64.toNat_or, UInt64.toNat_shiftLeft, UInt64.toNat_ofNat', UInt8.toNat_toUInt64, Nat.mod_eq_of_lt (a := k) (by omega), Nat.mod_eq_of_lt (a := k) (by omega), Nat.shiftLeft_eq, Nat.mod_eq_of_lt h1, Nat.or_comm, ← Nat.shiftLeft_eq, ← Nat.shiftLeft_add_eq_or_of_lt h, Nat.shiftLeft_eq, Nat.mul_comm, Nat.add_comm]
  refine ⟨e, ?_⟩
  rw [e, Nat.pow_add]
  have : 2 ^ k * b.toNat ≤ 2 ^ k * 255 := Nat.mul_le_mul_left _ (by omega)
  omega
theorem le64_toNat (x0 x1 x2 x3 x4 x5 x6 x7 : UInt8) : (le64 x0 x1 x2 x3 x4 x5 x6 x7).toNat =
    x0.toNat + 256 * x1.toNat + 65536 * x2.toNat + 16777216 * x3.toNat + 4294967296 * x4.toNat + 1099511627776 * x5.toNat + 281474976710656 * x6.toNat + 72057594037927936 * x7.toNat := by
  have h0 : x0.toUInt64.toNat < 2 ^ 8 := by rw [UInt8.toNat_toUInt64]; exact x0.toNat_lt
  obtain ⟨e1, l1⟩ := or_shift x0.toUInt64 x1 8 (by omega) h0
  obtain ⟨e2, l2⟩ := or_shift _ x2 16 (by omega) l1
  obtain ⟨e3, l3⟩ := or_shift _ x3 24 (by omega) l2
  obtain ⟨e4, l4⟩ := or_shift _ x4 32 (by omega) l3
  obtain ⟨e5, l5⟩ := or_shift _ x5 40 (by omega) l4
  obtain ⟨e6, l6⟩ := or_shift _ x6 48 (by omega) l5
  obtain ⟨e7, l7⟩ := or_shift _ x7 56 (by omega) l6
  refine Eq.trans e7 ?_
  rw [e6, e5, e4, e3, e2, e1, UInt8.toNat_toUInt64]
/-- the word of the eight bytes at the head of a list -/
def w64 (l : List UInt8) : UInt64 := le64 (l.getD 0 0) (l.getD 1 0) (l.getD 2 0) (l.getD 3 0) (l.getD 4 0) (l.getD 5 0) (l.getD 6 0) (l.getD 7 0)
set_option maxRecDepth 100000 in
theorem le_Uint64_c (b o n c : Nat) (l : List UInt8) (w : World) (hl : l.length = 8) (hn : (8 : Int) ≤ n) (hb : BytesIn w b o l) :
    Calls Try.prog 84 #[.agg #[], .slice (some ⟨b, o, none⟩) n c] w fun e w' =>
      e = .returned (.int .u64 (u64 (w64 l))) ∧ ∃ m, w' = (w.alloc (.cells #[] 117)).drewN m := by
  have c0 := hb 0 (by omega)
  have c1 := hb 1 (by omega)
  have c2 := hb 2 (by omega)
  have c3 := hb 3 (by omega)
  have c4 := hb 4 (by omega)
  have c5 := hb 5 (by omega)
  have c6 := hb 6 (by omega)
  have c7 := hb 7 (by omega)
  unfold w64
  clear hb hl
  generalize l.getD 0 0 = x0 at *
  generalize l.getD 1 0 = x1 at *
  generalize l.getD 2 0 = x2 at *
  generalize l.getD 3 0 = x3 at *
  generalize l.getD 4 0 = x4 at *
  generalize l.getD 5 0 = x5 at *
  generalize l.getD 6 0 = x6 at *
  generalize l.getD 7 0 = x7 at *
  have hlt := World.block_lt_of_cell? w _ c0
  simp only [Nat.add_zero] at c0 hlt
  go_enter Try.func84, Try.ntmps84
  go_wp2
  go_quiet (fail)
  go_wp2
  go_ret
  exact ⟨rfl, _, rfl⟩
/-- the eight bytes of a word -/
def by64 (x : UInt64) : List UInt8 := [x.toUInt8, (x >>> 8).toUInt8, (x >>> 16).toUInt8, (x >>> 24).toUInt8, (x >>> 32).toUInt8, (x >>> 40).toUInt8, (x >>> 48).toUInt8, (x >>> 56).toUInt8]
def put8 (L : List UInt8) (o : Nat) (x : UInt64) : List UInt8 := (((((((L.set o x.toUInt8).set (o + 1) (x >>> 8).toUInt8).set (o + 2) (x >>> 16).toUInt8).set (o + 3) (x >>> 24).toUInt8).set (o + 4) (x >>> 32).toUInt8).set (o + 5) (x >>> 40).toUInt8).set (o + 6) (x >>> 48).toUInt8).set (o + 7) (x >>> 56).toUInt8
set_option maxRecDepth 100000 in
theorem le_PutUint64_c (b o n c : Nat) (T : TypeId) (L : List UInt8) (x : UInt64) (w : World) (hl : o + 8 ≤ L.length) (hn : (8 : Int) ≤ n) (hb : w.heap[b]? = some (.cells (cells8 L) T (0, 0))) :
    Calls Try.prog 96 #[.agg #[], .slice (some ⟨b, o, none⟩) n c, .int .u64 (u64 x)] w fun e w' =>
      e = .returned (.tuple #[]) ∧ w'.heap[b]? = some (.cells (cells8 (put8 L o x)) T (0, 0)) ∧ Keeps (fun q => q = b) w w' := by
  have c0 : w.cell? ⟨b, o, none⟩ = some (.int .u8 (u8 (L.getD o 0))) := by rw [cell_block hb]; exact cells8_get (by omega)
  have c1 : w.cell? ⟨b, o + 1, none⟩ = some (.int .u8 (u8 (L.getD (o + 1) 0))) := by rw [cell_block hb]; exact cells8_get (by omega)
  have c2 : w.cell? ⟨b, o + 2, none⟩ = some (.int .u8 (u8 (L.getD (o + 2) 0))) := by rw [cell_block hb]; exact cells8_get (by omega)
  have c3 : w.cell? ⟨b, o + 3, none⟩ = some (.int .u8 (u8 (L.getD (o + 3) 0))) := by rw [cell_block hb]; exact cells8_get (by omega)
  have c4 : w.cell? ⟨b, o + 4, none⟩ = some (.int .u8 (u8 (L.getD (o + 4) 0))) := by rw [cell_block hb]; exact cells8_get (by omega)
  have c5 : w.cell? ⟨b, o + 5, none⟩ = some (.int .u8 (u8 (L.getD (o + 5) 0))) := by rw [cell_block hb]; exact cells8_get (by omega)
  have c6 : w.cell? ⟨b, o + 6, none⟩ = some (.int .u8 (u8 (L.getD (o + 6) 0))) := by rw [cell_block hb]; exact cells8_get (by omega)
  have c7 : w.cell? ⟨b, o + 7, none⟩ = some (.int .u8 (u8 (L.getD (o + 7) 0))) := by rw [cell_block hb]; exact cells8_get (by omega)
  have fz : ∀ i, w.frozen? ⟨b, i, none⟩ = false := free_block hb
  have hlt : b < w.heap.size := lt_of_block hb
  have HB := Lib.hid hb
  clear hb hl
  generalize L.getD o 0 = x0 at *
  generalize L.getD (o + 1) 0 = x1 at *
  generalize L.getD (o + 2) 0 = x2 at *
  generalize L.getD (o + 3) 0 = x3 at *
  generalize L.getD (o + 4) 0 = x4 at *
  generalize L.getD (o + 5) 0 = x5 at *
  generalize L.getD (o + 6) 0 = x6 at *
  generalize L.getD (o + 7) 0 = x7 at *
  go_enter Try.func96, Try.ntmps96
  go_wp2
  go_end0
  refine ⟨rfl, ?_, ?_⟩
  · have e1 := block_set (i := o) (v := .int .u8 (u8 x.toUInt8)) HB.out
    rw [cells8_set] at e1
    have e2 := block_set (i := o + 1) (v := .int .u8 (u8 (x >>> 8).toUInt8)) e1
    rw [cells8_set] at e2
    have e3 := block_set (i := o + 2) (v := .int .u8 (u8 (x >>> 16).toUInt8)) e2
    rw [cells8_set] at e3
    have e4 := block_set (i := o + 3) (v := .int .u8 (u8 (x >>> 24).toUInt8)) e3
    rw [cells8_set] at e4
    have e5 := block_set (i := o + 4) (v := .int .u8 (u8 (x >>> 32).toUInt8)) e4
    rw [cells8_set] at e5
    have e6 := block_set (i := o + 5) (v := .int .u8 (u8 (x >>> 40).toUInt8)) e5
    rw [cells8_set] at e6
    have e7 := block_set (i := o + 6) (v := .int .u8 (u8 (x >>> 48).toUInt8)) e6
    rw [cells8_set] at e7
    have e8 := block_set (i := o + 7) (v := .int .u8 (u8 (x >>> 56).toUInt8)) e7
    rw [cells8_set] at e8
    exact block_alloc e8
  · exact (((((((((Keeps.refl _ w).own _).own _).own _).own _).own _).own _).own _).own _).alloc _
end Go.Proofs.Ytlafnkcmdnfcpaa
