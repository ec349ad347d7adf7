/-
  The memory of a cipher and of bytes that it puts out; the contract of xorKeyStreamBlocksGeneric for both.
-/
import Derived.Test.YtlafnkcmdnfcpaaCip
import Derived.Test.YtlafnkcmdnfcpaaBlkF
namespace Go.Proofs.Ytlafnkcmdnfcpaa
open Go Go.RowKit
attribute [local irreducible] Cha.iter Cha.rounds Cha.dbl Cha.qr
abbrev TC : TypeId := 96
/-- the words of the first round that are kept -/
def CK.pre (K : CK) : List UInt32 := [(Cha.qr 0x3320646e K.c5 K.c9 K.c13).a, (Cha.qr 0x3320646e K.c5 K.c9 K.c13).b, (Cha.qr 0x3320646e K.c5 K.c9 K.c13).c, (Cha.qr 0x3320646e K.c5 K.c9 K.c13).d, (Cha.qr 0x79622d32 K.c6 K.c10 K.c14).a, (Cha.qr 0x79622d32 K.c6 K.c10 K.c14).b, (Cha.qr 0x79622d32 K.c6 K.c10 K.c14).c, (Cha.qr 0x79622d32 K.c6 K.c10 K.c14).d, (Cha.qr 0x6b206574 K.c7 K.c11 K.c15).a, (Cha.qr 0x6b206574 K.c7 K.c11 K.c15).b, (Cha.qr 0x6b206574 K.c7 K.c11 K.c15).c, (Cha.qr 0x6b206574 K.c7 K.c11 K.c15).d]
/-- a cipher lies in block b -/
def CipB (w : World) (b : Nat) (K : CK) (c : UInt32) (buf : List UInt8) (len : Nat) (ovf pre : Bool) (p : List UInt32) : Prop := w.heap[b]? = some (.cells (crow K c buf len ovf pre p).toArray TC (0, 0))
section
variable {w : World} {b : Nat} {K : CK} {c : UInt32} {buf : List UInt8} {len : Nat} {ovf pre : Bool} {p : List UInt32}
theorem CipB.cell (h : CipB w b K c buf len ovf pre p) (i : Nat) : w.cell? ⟨b, i, none⟩ = (crow K c buf len ovf pre p)[i]? := by
  rw [cell_block h, List.getElem?_toArray]
theorem CipB.free (h : CipB w b K c buf len ovf pre p) (i : Nat) : w.frozen? ⟨b, i, none⟩ = false := free_block h i
theorem CipB.lt (h : CipB w b K c buf len ovf pre p) : b < w.heap.size := lt_of_block h
theorem CipB.set (h : CipB w b K c buf len ovf pre p) (i : Nat) (v : Value) : (w.setCell ⟨b, i, none⟩ v).heap[b]? = some (.cells ((crow K c buf len ovf pre p).set i v).toArray TC (0, 0)) := by
  rw [← List.setIfInBounds_toArray]; exact block_set h
theorem CipB.set8 (h : CipB w b K c buf len ovf pre p) (c' : UInt32) : CipB (w.setCell ⟨b, 8, none⟩ (.int .u32 (u32 c'))) b K c' buf len ovf pre p := h.set 8 _
theorem CipB.setbuf (h : CipB w b K c buf len ovf pre p) {i : Nat} (hi : i < buf.length) (x : UInt8) : CipB (w.setCell ⟨b, 12 + i, none⟩ (.int .u8 (u8 x))) b K c (buf.set i x) len ovf pre p := by
  have := h.set (12 + i) (.int .u8 (u8 x))
  rw [crow_setbuf hi] at this
  exact this
theorem CipB.set76 (h : CipB w b K c buf len ovf pre p) (hb : buf.length = 64) (n : Nat) : CipB (w.setCell ⟨b, 76, none⟩ (.int .i64 (n : Int))) b K c buf n ovf pre p := by
  have := h.set 76 (.int .i64 (n : Int))
  rw [crow_set76 hb] at this
  exact this
theorem CipB.set77 (h : CipB w b K c buf len ovf pre p) (hb : buf.length = 64) (o : Bool) : CipB (w.setCell ⟨b, 77, none⟩ (.bool o)) b K c buf len o pre p := by
  have := h.set 77 (.bool o)
  rw [crow_set77 hb] at this
  exact this
theorem CipB.set78 (h : CipB w b K c buf len ovf pre p) (hb : buf.length = 64) (o : Bool) : CipB (w.setCell ⟨b, 78, none⟩ (.bool o)) b K c buf len ovf o p := by
  have := h.set 78 (.bool o)
  rw [crow_set78 hb] at this
  exact this
theorem CipB.setp (h : CipB w b K c buf len ovf pre p) (hb : buf.length = 64) (i : Nat) (x : UInt32) : CipB (w.setCell ⟨b, 79 + i, none⟩ (.int .u32 (u32 x))) b K c buf len ovf pre (p.set i x) := by
  have := h.set (79 + i) (.int .u32 (u32 x))
  rw [crow_setp hb] at this
  exact this
theorem CipB.keeps {S : Nat → Prop} {w' : World} (h : CipB w b K c buf len ovf pre p) (hk : Keeps S w w') (hs : ¬ S b) : CipB w' b K c buf len ovf pre p := hk.at h hs
theorem CipB.h (h : CipB w b K c buf len ovf pre p) : HCells w b K.c4 K.c5 K.c6 K.c7 K.c8 K.c9 K.c10 K.c11 K.c13 K.c14 K.c15 c := by
  refine ⟨⟨?_, ?_, ?_, ?_, ?_, ?_, ?_, ?_⟩, ?_, ?_, ?_, ?_⟩ <;> (rw [h.cell]; rfl)
theorem CipB.pcell (h : CipB w b K c buf len ovf pre p) (hb : buf.length = 64) {i : Nat} (hi : i < p.length) : w.cell? ⟨b, 79 + i, none⟩ = some (.int .u32 (u32 (p.getD i 0))) := by
  rw [h.cell, crow_p hb hi]
theorem CipB.ps (h : CipB w b K c buf len ovf pre K.pre) (hb : buf.length = 64) (c' : UInt32) : PCells w b 0x61707865 0x3320646e 0x79622d32 0x6b206574 K.c4 K.c5 K.c6 K.c7 K.c8 K.c9 K.c10 K.c11 c' K.c13 K.c14 K.c15 := by
  have g : ∀ i, i < 12 → w.cell? ⟨b, 79 + i, none⟩ = some (.int .u32 (u32 (K.pre.getD i 0))) := fun i hi => h.pcell hb hi
  exact ⟨g 0 (by decide), g 1 (by decide), g 2 (by decide), g 3 (by decide), g 4 (by decide), g 5 (by decide), g 6 (by decide), g 7 (by decide), g 8 (by decide), g 9 (by decide), g 10 (by decide), g 11 (by decide)⟩
theorem CipB.pw (h : CipB w b K c buf len ovf pre p) (hb : buf.length = 64) (hp : p.length = 12) : CipB (PW w b K.c4 K.c5 K.c6 K.c7 K.c8 K.c9 K.c10 K.c11 K.c13 K.c14 K.c15) b K c buf len ovf true K.pre := by
  match p, hp with
  | [a0, a1, a2, a3, a4, a5, a6, a7, a8, a9, a10, a11], _ =>
    have h0 := h.setp hb 0 (Cha.qr 0x3320646e K.c5 K.c9 K.c13).a
    have h1 := h0.setp hb 1 (Cha.qr 0x3320646e K.c5 K.c9 K.c13).b
    have h2 := h1.setp hb 2 (Cha.qr 0x3320646e K.c5 K.c9 K.c13).c
    have h3 := h2.setp hb 3 (Cha.qr 0x3320646e K.c5 K.c9 K.c13).d
    have h4 := h3.setp hb 4 (Cha.qr 0x79622d32 K.c6 K.c10 K.c14).a
    have h5 := h4.setp hb 5 (Cha.qr 0x79622d32 K.c6 K.c10 K.c14).b
    have h6 := h5.setp hb 6 (Cha.qr 0x79622d32 K.c6 K.c10 K.c14).c
    have h7 := h6.setp hb 7 (Cha.qr 0x79622d32 K.c6 K.c10 K.c14).d
    have h8 := h7.setp hb 8 (Cha.qr 0x6b206574 K.c7 K.c11 K.c15).a
    have h9 := h8.setp hb 9 (Cha.qr 0x6b206574 K.c7 K.c11 K.c15).b
    have h10 := h9.setp hb 10 (Cha.qr 0x6b206574 K.c7 K.c11 K.c15).c
    have h11 := h10.setp hb 11 (Cha.qr 0x6b206574 K.c7 K.c11 K.c15).d
    exact h11.set78 hb true
end
theorem PW.keeps {a w : World} {b : Nat} (h : Keeps (fun q => q = b) a w) (c4 c5 c6 c7 c8 c9 c10 c11 c13 c14 c15 : UInt32) : Keeps (fun q => q = b) a (PW w b c4 c5 c6 c7 c8 c9 c10 c11 c13 c14 c15) := by
  unfold PW
  exact (((((((((((((h.own _).own _).own _).own _).own _).own _).own _).own _).own _).own _).own _).own _).own _)
/-- bytes l lie in block bd behind the cells hd and ahead of the cells tl -/
def DstB (w : World) (bd : Nat) (hd tl : List Value) (l : List UInt8) : Prop := w.heap[bd]? = some (.cells (hd ++ (vals8 l ++ tl)).toArray 5 (0, 0))
section
variable {w : World} {bd : Nat} {hd tl : List Value} {l : List UInt8}
theorem DstB.cell (h : DstB w bd hd tl l) {i : Nat} (hi : i < l.length) : w.cell? ⟨bd, hd.length + i, none⟩ = some (.int .u8 (u8 (l.getD i 0))) := by
  rw [cell_block h, List.getElem?_toArray, List.getElem?_append_right (by omega), List.getElem?_append_left (by rw [vals8_len]; omega), ← vals8_get hi]
  congr 1
  omega
theorem DstB.free (h : DstB w bd hd tl l) (i : Nat) : w.frozen? ⟨bd, i, none⟩ = false := free_block h i
theorem DstB.lt (h : DstB w bd hd tl l) : bd < w.heap.size := lt_of_block h
theorem DstB.set (h : DstB w bd hd tl l) {i : Nat} (hi : i < l.length) (x : UInt8) : DstB (w.setCell ⟨bd, hd.length + i, none⟩ (.int .u8 (u8 x))) bd hd tl (l.set i x) := by
  have e := block_set (i := hd.length + i) (v := .int .u8 (u8 x)) h
  rw [List.setIfInBounds_toArray, List.set_append_right _ _ (by omega), List.set_append_left _ _ (by rw [vals8_len]; omega), show hd.length + i - hd.length = i by omega] at e
  unfold DstB
  rw [show vals8 (l.set i x) = (vals8 l).set i (.int .u8 (u8 x)) by simp [vals8, List.map_set]]
  exact e
theorem DstB.keeps {S : Nat → Prop} {w' : World} (h : DstB w bd hd tl l) (hk : Keeps S w w') (hs : ¬ S bd) : DstB w' bd hd tl l := hk.at h hs
theorem DstB.split (h : DstB w bd hd tl l) (k : Nat) : DstB w bd (hd ++ vals8 (l.take k)) tl (l.drop k) := by
  unfold DstB at h ⊢
  rw [h, List.append_assoc, ← List.append_assoc (vals8 (l.take k)), ← vals8_append, List.take_append_drop]
end
/-- bytes elsewhere, and a cipher -/
def MD (w0 : World) (b bd : Nat) (K : CK) (buf : List UInt8) (len : Nat) (ovf : Bool) (hd tl : List Value) (l : List UInt8) (c : UInt32) (w : World) : Prop :=
  DstB w bd hd tl l ∧ CipB w b K c buf len ovf true K.pre ∧ Keeps (fun q => q = b ∨ q = bd) w0 w
theorem MD.isBuf {w0 : World} {b bd : Nat} {K : CK} {buf : List UInt8} {len : Nat} {ovf : Bool} {hd tl : List Value} (hne : b ≠ bd) (hb : buf.length = 64) : Buf (MD w0 b bd K buf len ovf hd tl) K b bd hd.length where
  drewN := fun l c w n h => ⟨h.1, h.2.1, h.2.2.drewN n⟩
  get := fun l c w i h hi => h.1.cell hi
  free := fun l c w i h => h.1.free i
  set := fun l c w i x h hi => ⟨h.1.set hi x, block_set_other h.2.1 hne, h.2.2.setCell (Or.inl (Or.inr rfl)) _⟩
  ctr := fun l c w h => by rw [h.2.1.cell]; rfl
  ctrFree := fun l c w h => h.2.1.free 8
  setCtr := fun l c c' w h => ⟨block_set_other h.1 (Ne.symm hne), h.2.1.set8 c', h.2.2.setCell (Or.inl (Or.inl rfl)) _⟩
  pcells := fun l c c' w h => h.2.1.ps hb c'
/-- bytes in the cipher's own room -/
def MB (w0 : World) (b : Nat) (K : CK) (len : Nat) (ovf : Bool) (l : List UInt8) (c : UInt32) (w : World) : Prop :=
  l.length = 64 ∧ CipB w b K c l len ovf true K.pre ∧ Keeps (fun q => q = b) w0 w
theorem MB.isBuf {w0 : World} {b : Nat} {K : CK} {len : Nat} {ovf : Bool} : Buf (MB w0 b K len ovf) K b b 12 where
  drewN := fun l c w n h => ⟨h.1, h.2.1, h.2.2.drewN n⟩
  get := fun l c w i h hi => by rw [h.2.1.cell, crow_buf hi]
  free := fun l c w i h => h.2.1.free i
  set := fun l c w i x h hi => ⟨by rw [List.length_set]; exact h.1, h.2.1.setbuf hi x, h.2.2.own _⟩
  ctr := fun l c w h => by rw [h.2.1.cell]; rfl
  ctrFree := fun l c w h => h.2.1.free 8
  setCtr := fun l c c' w h => ⟨h.1, h.2.1.set8 c', h.2.2.own _⟩
  pcells := fun l c c' w h => h.2.1.ps h.1 c'
/-- xorKeyStreamBlocksGeneric -/
theorem blocksG_c (M : List UInt8 → UInt32 → World → Prop) (K : CK) (N b bd od cd bs os cs : Nat) (D s : List UInt8) (c : UInt32) (buf : List UInt8) (len : Nat) (ovf pre : Bool) (p : List UInt32) (w : World) (n : Nat) (hn : n = 64 * N)
    (hc : CipB w b K c buf len ovf pre p) (hb : buf.length = 64) (hp : p.length = 12) (H : Buf M K b bd od) (hS : Src M D s bd od bs os)
    (h1 : pre = true → M D c w) (h2 : pre = false → M D c (PW w b K.c4 K.c5 K.c6 K.c7 K.c8 K.c9 K.c10 K.c11 K.c13 K.c14 K.c15))
    (hs : s.length = 64 * N) (hD : 64 * N ≤ D.length) (hcd : 64 * N ≤ cd) (hcs : 64 * N ≤ cs) (hmx : 64 * N ≤ 140737488355328) :
    Calls Try.prog 71 #[.pointer (some ⟨b, 0, none⟩), .slice (some ⟨bd, od, none⟩) n cd, .slice (some ⟨bs, os, none⟩) n cs] w fun e w' =>
      e = .returned (.tuple #[]) ∧ M (upd D s (K.from c) (64 * N)) (c + UInt32.ofNat N) w' := by
  subst hn
  have HB := H.blocks hS c hs hD
  cases pre with
  | true =>
    have hpre : w.cell? ⟨b, 78, none⟩ = some (.bool true) := by rw [hc.cell, crow_78 hb]
    refine blocks_done _ N b bd od cd bs os cs K.c4 K.c5 K.c6 K.c7 K.c8 K.c9 K.c10 K.c11 K.c13 K.c14 K.c15 c w hc.h hpre HB ?_ hcd hcs hmx
    simp only [Nat.mul_zero, upd_zero]
    have := h1 rfl
    simpa using this
  | false =>
    have hpre : w.cell? ⟨b, 78, none⟩ = some (.bool false) := by rw [hc.cell, crow_78 hb]
    refine blocks_first _ N b bd od cd bs os cs K.c4 K.c5 K.c6 K.c7 K.c8 K.c9 K.c10 K.c11 K.c13 K.c14 K.c15 c w _ _ _ _ _ _ _ _ _ _ _ _ hc.h hpre hc.free (hc.pcell (i := 0) hb (by omega)) (hc.pcell (i := 1) hb (by omega)) (hc.pcell (i := 2) hb (by omega)) (hc.pcell (i := 3) hb (by omega)) (hc.pcell (i := 4) hb (by omega)) (hc.pcell (i := 5) hb (by omega)) (hc.pcell (i := 6) hb (by omega)) (hc.pcell (i := 7) hb (by omega)) (hc.pcell (i := 8) hb (by omega)) (hc.pcell (i := 9) hb (by omega)) (hc.pcell (i := 10) hb (by omega)) (hc.pcell (i := 11) hb (by omega)) HB ?_ hcd hcs hmx
    simp only [Nat.mul_zero, upd_zero]
    have := h2 rfl
    simpa using this
/-- xorKeyStreamBlocks -/
theorem blocksX_c (M : List UInt8 → UInt32 → World → Prop) (K : CK) (N b bd od cd bs os cs : Nat) (D s : List UInt8) (c : UInt32) (buf : List UInt8) (len : Nat) (ovf pre : Bool) (p : List UInt32) (w : World) (n : Nat) (hn : n = 64 * N)
    (hc : CipB w b K c buf len ovf pre p) (hb : buf.length = 64) (hp : p.length = 12) (H : Buf M K b bd od) (hS : Src M D s bd od bs os)
    (h1 : pre = true → M D c w) (h2 : pre = false → M D c (PW w b K.c4 K.c5 K.c6 K.c7 K.c8 K.c9 K.c10 K.c11 K.c13 K.c14 K.c15))
    (hs : s.length = 64 * N) (hD : 64 * N ≤ D.length) (hcd : 64 * N ≤ cd) (hcs : 64 * N ≤ cs) (hmx : 64 * N ≤ 140737488355328) :
    Calls Try.prog 70 #[.pointer (some ⟨b, 0, none⟩), .slice (some ⟨bd, od, none⟩) n cd, .slice (some ⟨bs, os, none⟩) n cs] w fun e w' =>
      e = .returned (.tuple #[]) ∧ M (upd D s (K.from c) (64 * N)) (c + UInt32.ofNat N) w' := by
  have HG := Lib.hid (blocksG_c M K N b bd od cd bs os cs D s c buf len ovf pre p w n hn hc hb hp H hS h1 h2 hs hD hcd hcs hmx)
  clear hc hb hp H hS h1 h2 hs hD hcd hcs hmx hn
  go_enter Try.func70, Try.ntmps70
  go_wp2_with fail
  refine HG.out.mono ?_
  rintro e w1 ⟨rfl, hm⟩
  have HM := Lib.hid hm
  clear hm
  go_wp2_with fail
  go_end0
  exact ⟨rfl, HM.out⟩
end Go.Proofs.Ytlafnkcmdnfcpaa
