/-
  Contracts: binary.LittleEndian.Uint32 and PutUint32, spec.word.
-/
import Derived.Test.YtlafnkcmdnfcpaaRows
import Derived.Test.YtlafnkcmdnfcpaaMem
import Derived.Test.YtlafnkcmdnfcpaaCha
import Derived.WalkLawsBesides
import Derived.Deep.QuietTactic
import Derived.BigQuiet
namespace Go.Proofs.Ytlafnkcmdnfcpaa
open Go Go.RowKit

/-- bytes lie in block b from place o on -/
def BytesAt (w : World) (b o : Nat) (l : List UInt8) : Prop := ∀ i, i < l.length → w.cell? ⟨b, o + i, none⟩ = some (.int .u8 (u8 (l.getD i 0)))
theorem BytesAt.keeps {S : Nat → Prop} {w w' : World} {b o : Nat} {l : List UInt8} (h : BytesAt w b o l) (hk : Keeps S w w') (hs : ¬ S b) : BytesAt w' b o l :=
  fun i hi => hk.cellAt (h i hi) hs
theorem BytesAt.drewN {w : World} {b o n : Nat} {l : List UInt8} (h : BytesAt w b o l) : BytesAt (w.drewN n) b o l := h
theorem BytesAt.sub {w : World} {b o : Nat} {l : List UInt8} (h : BytesAt w b o l) (k n : Nat) : BytesAt w b (o + k) ((l.drop k).take n) := by
  intro i hi
  simp only [List.length_take, List.length_drop] at hi
  have e := h (k + i) (by omega)
  rw [Nat.add_assoc, e]
  congr 3
  simp [List.getD, List.getElem?_drop, show i < n from by omega]

set_option maxRecDepth 100000 in
theorem le_Uint32_c (b o n c : Nat) (l : List UInt8) (w : World) (hl : l.length = 4) (hn : (4 : Int) ≤ n) (hb : BytesAt w b o l) :
    Calls Try.prog 69 #[.agg #[], .slice (some ⟨b, o, none⟩) n c] w fun e w' =>
      e = .returned (.int .u32 (u32 (Byt.le32 (l.getD 0 0) (l.getD 1 0) (l.getD 2 0) (l.getD 3 0)))) ∧ Fresh w w' := by
  have c0 := hb 0 (by omega)
  have c1 := hb 1 (by omega)
  have c2 := hb 2 (by omega)
  have c3 := hb 3 (by omega)
  clear hb hl
  generalize l.getD 0 0 = x0 at *
  generalize l.getD 1 0 = x1 at *
  generalize l.getD 2 0 = x2 at *
  generalize l.getD 3 0 = x3 at *
  have hlt := World.block_lt_of_cell? w _ c0
  simp only [Nat.add_zero] at c0 hlt
  go_enter Try.func69, Try.ntmps69
  go_wp2
  go_quiet (fail)
  go_wp2
  go_ret
  exact ⟨rfl, ((Keeps.refl _ w).alloc _).drewN _⟩

set_option maxRecDepth 100000 in
theorem word_c (b o n c at_ : Nat) (l : List UInt8) (w : World) (hl : at_ + 4 ≤ l.length) (hn : (l.length : Int) ≤ n) (hbig : (n : Int) ≤ 140737488351232) (hb : BytesAt w b o l) :
    Calls Try.prog 82 #[.slice (some ⟨b, o, none⟩) n c, .int .i64 at_] w fun e w' =>
      e = .returned (.int .u32 (u32 (Byt.le32 (l.getD at_ 0) (l.getD (at_ + 1) 0) (l.getD (at_ + 2) 0) (l.getD (at_ + 3) 0)))) ∧ Fresh w w' := by
  have c0 := hb at_ (by omega)
  have c1 := hb (at_ + 1) (by omega)
  have c2 := hb (at_ + 2) (by omega)
  have c3 := hb (at_ + 3) (by omega)
  have hlen : (at_ : Int) + 4 ≤ n := by omega
  clear hb hl hn
  generalize l.getD at_ 0 = x0 at *
  generalize l.getD (at_ + 1) 0 = x1 at *
  generalize l.getD (at_ + 2) 0 = x2 at *
  generalize l.getD (at_ + 3) 0 = x3 at *
  go_enter Try.func82, Try.ntmps82
  go_wp2
  go_quiet (fail)
  go_wp2
  go_ret
  exact ⟨rfl, (Keeps.refl _ w).drewN _⟩

/-- the word of four bytes at a place -/
def wd (l : List UInt8) (at_ : Nat) : UInt32 := Byt.le32 (l.getD at_ 0) (l.getD (at_ + 1) 0) (l.getD (at_ + 2) 0) (l.getD (at_ + 3) 0)
theorem word_at (b o n c at_ : Nat) (A : Int) (hA : (at_ : Int) = A) (l : List UInt8) (w : World) (hl : at_ + 4 ≤ l.length) (hn : (l.length : Int) ≤ n) (hbig : (n : Int) ≤ 140737488351232) (hb : BytesAt w b o l) :
    Calls Try.prog 82 #[.slice (some ⟨b, o, none⟩) n c, .int .i64 A] w fun e w' => e = .returned (.int .u32 (u32 (wd l at_))) ∧ Fresh w w' := by
  subst hA
  exact word_c b o n c at_ l w hl hn hbig hb

/-- the four bytes of a word put into bytes -/
def put4 (L : List UInt8) (o : Nat) (x : UInt32) : List UInt8 := (((L.set o (Byt.by0 x)).set (o + 1) (Byt.by1 x)).set (o + 2) (Byt.by2 x)).set (o + 3) (Byt.by3 x)
theorem put4_len (L : List UInt8) (o : Nat) (x : UInt32) : (put4 L o x).length = L.length := by simp [put4]
set_option maxRecDepth 100000 in
theorem le_PutUint32_c (b o n c : Nat) (T : TypeId) (L : List UInt8) (x : UInt32) (w : World) (hl : o + 4 ≤ L.length) (hn : (4 : Int) ≤ n) (hb : w.heap[b]? = some (.cells (cells8 L) T (0, 0))) :
    Calls Try.prog 80 #[.agg #[], .slice (some ⟨b, o, none⟩) n c, .int .u32 (u32 x)] w fun e w' =>
      e = .returned (.tuple #[]) ∧ w'.heap[b]? = some (.cells (cells8 (put4 L o x)) T (0, 0)) ∧ Keeps (fun q => q = b) w w' := by
  have c0 : w.cell? ⟨b, o, none⟩ = some (.int .u8 (u8 (L.getD o 0))) := by rw [cell_block hb]; exact cells8_get (by omega)
  have c1 : w.cell? ⟨b, o + 1, none⟩ = some (.int .u8 (u8 (L.getD (o + 1) 0))) := by rw [cell_block hb]; exact cells8_get (by omega)
  have c2 : w.cell? ⟨b, o + 2, none⟩ = some (.int .u8 (u8 (L.getD (o + 2) 0))) := by rw [cell_block hb]; exact cells8_get (by omega)
  have c3 : w.cell? ⟨b, o + 3, none⟩ = some (.int .u8 (u8 (L.getD (o + 3) 0))) := by rw [cell_block hb]; exact cells8_get (by omega)
  have fz : ∀ i, w.frozen? ⟨b, i, none⟩ = false := free_block hb
  have hlt : b < w.heap.size := lt_of_block hb
  have HB := Lib.hid hb
  clear hb hl
  generalize L.getD o 0 = x0 at *
  generalize L.getD (o + 1) 0 = x1 at *
  generalize L.getD (o + 2) 0 = x2 at *
  generalize L.getD (o + 3) 0 = x3 at *
  go_enter Try.func80, Try.ntmps80
  go_wp2
  go_end0
  refine ⟨rfl, ?_, ?_⟩
  · have e1 := block_set (i := o) (v := .int .u8 (u8 (Byt.by0 x))) HB.out
    rw [cells8_set] at e1
    have e2 := block_set (i := o + 1) (v := .int .u8 (u8 (Byt.by1 x))) e1
    rw [cells8_set] at e2
    have e3 := block_set (i := o + 2) (v := .int .u8 (u8 (Byt.by2 x))) e2
    rw [cells8_set] at e3
    have e4 := block_set (i := o + 3) (v := .int .u8 (u8 (Byt.by3 x))) e3
    rw [cells8_set] at e4
    exact block_alloc e4
  · exact (((((Keeps.refl _ w).own _).own _).own _).own _).alloc _
end Go.Proofs.Ytlafnkcmdnfcpaa
