/-
  Contract: macGeneric.Sum.
-/
import Derived.Test.YtlafnkcmdnfcpaaUpd
import Derived.Test.YtlafnkcmdnfcpaaFin
import Derived.Test.YtlafnkcmdnfcpaaMacSt
namespace Go.Proofs.Ytlafnkcmdnfcpaa
open Go Go.RowKit
theorem gBuf {b : Nat} {T : TypeId} {h0 h1 h2 r0 r1 s0 s1 : UInt64} {buf : List UInt8} {off k : Nat} {fin : Bool} {w w' : World} (hb : w.heap[b]? = some (.cells (macCs h0 h1 h2 r0 r1 s0 s1 buf off fin).toArray T (0, 0))) (hbl : buf.length = 16) (hk : k ≤ 16) (hf : Fresh w w') :
    SlB w' (.slice (some ⟨b, 7, none⟩) k 16) (buf.take k) := by
  have hl : (buf.take k).length = k := by rw [List.length_take]; omega
  have := SlB.of (w := w') (b := b) (o := 7) (c := 16) (l := buf.take k) (by omega) (by decide) (fun i hi => by
    rw [cell_block (hf.at hb), macCs_buf hbl i (by omega)]
    simp [List.getD, show i < k by omega])
  rwa [hl] at this
attribute [local irreducible] u64 outB chunks
set_option maxRecDepth 100000 in
set_option maxHeartbeats 1000000 in
theorem gSum_c (b bo : Nat) (T To : TypeId) (L buf : List UInt8) (off : Nat) (fin : Bool) (h0 h1 h2 r0 r1 s0 s1 : UInt64) (w : World)
    (hb : w.heap[b]? = some (.cells (macCs h0 h1 h2 r0 r1 s0 s1 buf off fin).toArray T (0, 0))) (hbl : buf.length = 16) (hof : off < 16) (hh : h2.toNat ≤ 5) (hr0 : r0.toNat < 1152921504606846976) (hr1 : r1.toNat < 1152921504606846976)
    (hbo : w.heap[bo]? = some (.cells (cells8 L) To (0, 0))) (hL : L.length = 16) :
    Calls Try.prog 74 #[.pointer (some ⟨b, 0, none⟩), .pointer (some ⟨bo, 0, none⟩)] w fun e w' => e = .returned (.tuple #[]) ∧ Keeps (fun q => q = bo) w w' ∧ ∃ g0 g1 g2 : UInt64,
      w'.heap[bo]? = some (.cells (cells8 (outB g0 g1 g2 s0 s1)) To (0, 0)) ∧ g2.toNat ≤ 5 ∧
      Poly.val3 g0.toNat g1.toNat g2.toNat = Poly.runH (r0.toNat + r1.toNat * 18446744073709551616) (Poly.val3 h0.toNat h1.toNat h2.toNat) (chunks (buf.take off)) := by
  have c0 : w.cell? ⟨b, 0, none⟩ = some (.int .u64 (u64 h0)) := by rw [cell_block hb]; rfl
  have c1 : w.cell? ⟨b, 1, none⟩ = some (.int .u64 (u64 h1)) := by rw [cell_block hb]; rfl
  have c2 : w.cell? ⟨b, 2, none⟩ = some (.int .u64 (u64 h2)) := by rw [cell_block hb]; rfl
  have c3 : w.cell? ⟨b, 3, none⟩ = some (.int .u64 (u64 r0)) := by rw [cell_block hb]; rfl
  have c4 : w.cell? ⟨b, 4, none⟩ = some (.int .u64 (u64 r1)) := by rw [cell_block hb]; rfl
  have c5 : w.cell? ⟨b, 5, none⟩ = some (.int .u64 (u64 s0)) := by rw [cell_block hb]; rfl
  have c6 : w.cell? ⟨b, 6, none⟩ = some (.int .u64 (u64 s1)) := by rw [cell_block hb]; rfl
  have c23 : w.cell? ⟨b, 23, none⟩ = some (.int .i64 (off : Int)) := by rw [cell_block hb]; exact macCs_off hbl
  have hlt : b < w.heap.size := lt_of_block hb
  have HB := Lib.hid hb
  have HBO := Lib.hid hbo
  have HL := Lib.hid hL
  have HH := Lib.hid hh
  have HR0 := Lib.hid hr0
  have HR1 := Lib.hid hr1
  have HBL := Lib.hid hbl
  clear hb hbo hL hh hr0 hr1 hbl
  go_enter Try.func74, Try.ntmps74
  by_cases ho : 0 < off
  · have i0 : (0 : Int) < off := by omega
    have i16 : (off : Int) ≤ 16 := by omega
    go_wp2_with fail
    refine wp_region_tailD 8 (by kernel_rfl) (by kernel_rfl) ?_
    simp only [List.take_succ_cons, List.take_zero, List.drop_succ_cons, List.drop_zero]
    repeat (quiet_step (fail))
    refine wpQuiet_nil ?_
    rintro _ ⟨m0, rfl⟩
    go_wp2_with fail
    have HF0 : Hid (Fresh w ((w.alloc (Obj.cells #[Value.int IntKind.u64 (u64 h0), Value.int IntKind.u64 (u64 h1), Value.int IntKind.u64 (u64 h2), Value.int IntKind.u64 (u64 r0), Value.int IntKind.u64 (u64 r1), Value.int IntKind.u64 (u64 s0), Value.int IntKind.u64 (u64 s1)] 123)).drewN m0)) := Lib.hid (((Keeps.refl _ w).alloc _).drewN m0)
    refine (update_c w.heap.size 123 _ _ (buf.take off) h0 h1 h2 r0 r1 _ (block_drewN (heap_alloc_new w _)) rfl rfl rfl rfl rfl HH.out HR0.out HR1.out (gBuf HB.out HBL.out (by omega) HF0.out)).mono ?_
    rintro e w1 ⟨rfl, g0, g1, g2, hg, hk, hg2, hrun⟩
    have HG := Lib.hid hg
    have HG2 := Lib.hid hg2
    have HRUN := Lib.hid hrun
    have HF1 : Hid (Fresh w w1) := Lib.hid (HF0.out.then hk (fun q hq e => by omega))
    clear hg hk hg2 hrun
    have HBO1 := Lib.hid (HF1.out.at HBO.out)
    go_wp2_with fail
    refine (finalize_c bo w.heap.size To L g0 g1 g2 s0 s1 _ HBO1.out HL.out (by rw [cell_block HG.out]; rfl) (by rw [cell_block HG.out]; rfl) (by rw [cell_block HG.out]; rfl) (by rw [cell_block HG.out]; rfl) (by rw [cell_block HG.out]; rfl)).mono ?_
    rintro e w2 ⟨rfl, ho2, hk2⟩
    have HO2 := Lib.hid ho2
    have HK2 : Hid (Keeps (fun q => q = bo) w w2) := Lib.hid ((Fresh.to HF1.out).trans hk2)
    clear ho2 hk2
    go_wp2_with fail
    go_end0
    exact ⟨rfl, HK2.out, g0, g1, g2, HO2.out, HG2.out, HRUN.out⟩
  · obtain rfl : off = 0 := by omega
    go_wp2_with fail
    have HF1 : Hid (Fresh w (w.alloc (Obj.cells #[Value.int IntKind.u64 (u64 h0), Value.int IntKind.u64 (u64 h1), Value.int IntKind.u64 (u64 h2), Value.int IntKind.u64 (u64 r0), Value.int IntKind.u64 (u64 r1), Value.int IntKind.u64 (u64 s0), Value.int IntKind.u64 (u64 s1)] 123))) := Lib.hid ((Keeps.refl _ w).alloc _)
    have hg := heap_alloc_new w (Obj.cells #[Value.int IntKind.u64 (u64 h0), Value.int IntKind.u64 (u64 h1), Value.int IntKind.u64 (u64 h2), Value.int IntKind.u64 (u64 r0), Value.int IntKind.u64 (u64 r1), Value.int IntKind.u64 (u64 s0), Value.int IntKind.u64 (u64 s1)] 123)
    have HG := Lib.hid hg
    clear hg
    refine (finalize_c bo w.heap.size To L h0 h1 h2 s0 s1 _ (HF1.out.at HBO.out) HL.out (by rw [cell_block HG.out]; rfl) (by rw [cell_block HG.out]; rfl) (by rw [cell_block HG.out]; rfl) (by rw [cell_block HG.out]; rfl) (by rw [cell_block HG.out]; rfl)).mono ?_
    rintro e w2 ⟨rfl, ho2, hk2⟩
    have HO2 := Lib.hid ho2
    have HK2 : Hid (Keeps (fun q => q = bo) w w2) := Lib.hid ((Fresh.to HF1.out).trans hk2)
    clear ho2 hk2
    go_wp2_with fail
    go_end0
    refine ⟨rfl, HK2.out, h0, h1, h2, HO2.out, HH.out, ?_⟩
    rw [List.take_zero, chunks_nil, runH_nil]
end Go.Proofs.Ytlafnkcmdnfcpaa
