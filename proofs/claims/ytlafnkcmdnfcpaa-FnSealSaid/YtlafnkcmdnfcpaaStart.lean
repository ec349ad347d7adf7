/-
  Contract: spec.start.
-/
import Derived.Test.YtlafnkcmdnfcpaaRounds
import Derived.Test.YtlafnkcmdnfcpaaLe32
namespace Go.Proofs.Ytlafnkcmdnfcpaa
open Go Go.RowKit
/-- the state behind k words of the key, and behind k words of the last sixteen bytes -/
def stK (key : List UInt8) : Nat → List UInt32
  | 0 => [0x61707865, 0x3320646e, 0x79622d32, 0x6b206574, 0, 0, 0, 0, 0, 0, 0, 0, 0, 0, 0, 0]
  | k + 1 => (stK key k).set (4 + k) (wd key (4 * k))
def stL (key last : List UInt8) : Nat → List UInt32
  | 0 => stK key 8
  | k + 1 => (stL key last k).set (12 + k) (wd last (4 * k))
def start (key last : List UInt8) : List UInt32 := stL key last 4
theorem stK_len (key : List UInt8) (k : Nat) : (stK key k).length = 16 := by
  induction k with
  | zero => rfl
  | succ k ih => simp [stK, ih]
theorem stL_len (key last : List UInt8) (k : Nat) : (stL key last k).length = 16 := by
  induction k with
  | zero => exact stK_len key 8
  | succ k ih => simp [stL, ih]
theorem start_lit (key last : List UInt8) : start key last = [0x61707865, 0x3320646e, 0x79622d32, 0x6b206574, wd key 0, wd key 4, wd key 8, wd key 12, wd key 16, wd key 20, wd key 24, wd key 28, wd last 0, wd last 4, wd last 8, wd last 12] := rfl
theorem start_len (key last : List UInt8) : (start key last).length = 16 := stL_len key last 4
/-- what the loops of start keep -/
def StartRel (w : World) (bk ok bl ol : Nat) (key last : List UInt8) (top : Nat) (S : Nat → List UInt32) (i : Value) (wr : World) : Prop :=
  ∃ k : Nat, k ≤ top ∧ i = .int .i64 k ∧ wr.heap[w.heap.size + 1]? = some (.cells (cells32 (S k)) 108 (0, 0)) ∧ Room wr w.heap.size 108 16 ∧ Fresh w wr ∧ BytesAt wr bk ok key ∧ BytesAt wr bl ol last
/-- one word is put into the state -/
theorem start_step {w wr w1 : World} {bk ok bl ol : Nat} {key last : List UInt8} {l : List UInt32} {p : Nat} {x : UInt32}
    (hb : wr.heap[w.heap.size + 1]? = some (.cells (cells32 l) 108 (0, 0))) (hr : Room wr w.heap.size 108 16) (hf : Fresh w wr) (b1 : BytesAt wr bk ok key) (b2 : BytesAt wr bl ol last)
    (h1 : Fresh wr w1) (n1 : ¬ bk = w.heap.size + 1) (n2 : ¬ bl = w.heap.size + 1) :
    (w1.setCell ⟨w.heap.size + 1, p, none⟩ (.int .u32 (u32 x))).heap[w.heap.size + 1]? = some (.cells (cells32 (l.set p x)) 108 (0, 0)) ∧ Room (w1.setCell ⟨w.heap.size + 1, p, none⟩ (.int .u32 (u32 x))) w.heap.size 108 16 ∧
    Fresh w (w1.setCell ⟨w.heap.size + 1, p, none⟩ (.int .u32 (u32 x))) ∧ BytesAt (w1.setCell ⟨w.heap.size + 1, p, none⟩ (.int .u32 (u32 x))) bk ok key ∧ BytesAt (w1.setCell ⟨w.heap.size + 1, p, none⟩ (.int .u32 (u32 x))) bl ol last := by
  have K : Keeps (fun q => q = w.heap.size + 1) wr (w1.setCell ⟨w.heap.size + 1, p, none⟩ (.int .u32 (u32 x))) := (Fresh.to h1).own _
  refine ⟨?_, hr.keeps K (by omega), hf.then K (by intro q hq; omega), b1.keeps K n1, b2.keeps K n2⟩
  rw [← cells32_set]
  exact block_set (h1.at hb)
set_option maxHeartbeats 2000000 in
theorem start_c (bk ok nk ck bl ol nl cl : Nat) (key last : List UInt8) (w : World) (hk : key.length = 32) (hl : last.length = 16) (hnk : nk = 32) (hnl : nl = 16) (h1 : BytesAt w bk ok key) (h2 : BytesAt w bl ol last) :
    Calls Try.prog 62 #[.slice (some ⟨bk, ok, none⟩) nk ck, .slice (some ⟨bl, ol, none⟩) nl cl] w fun e w' => e = .returned (.agg (cells32 (start key last))) ∧ Fresh w w' := by
  have q1 : bk < w.heap.size := World.block_lt_of_cell? w _ (h1 0 (by omega))
  have q2 : bl < w.heap.size := World.block_lt_of_cell? w _ (h2 0 (by omega))
  have HK := Lib.hid hk
  have HL := Lib.hid hl
  have H1 := Lib.hid h1
  have H2 := Lib.hid h2
  subst hnk hnl
  clear hk hl h1 h2
  go_enter Try.func62, Try.ntmps62
  go_wp2
  go_loopw [9] (fun i wr => StartRel w bk ok bl ol key last 8 (stK key) i wr) (fun i _ => 8 - (intOf i).toNat)
  case atStart =>
    have K := ((Keeps.refl (fun _ => False) w).alloc (.cells #[Value.int IntKind.u32 0, Value.int IntKind.u32 0, Value.int IntKind.u32 0, Value.int IntKind.u32 0, Value.int IntKind.u32 0, Value.int IntKind.u32 0, Value.int IntKind.u32 0, Value.int IntKind.u32 0, Value.int IntKind.u32 0, Value.int IntKind.u32 0, Value.int IntKind.u32 0, Value.int IntKind.u32 0, Value.int IntKind.u32 0, Value.int IntKind.u32 0, Value.int IntKind.u32 0, Value.int IntKind.u32 0] 108)).alloc (.cells #[Value.int IntKind.u32 1634760805, Value.int IntKind.u32 857760878, Value.int IntKind.u32 2036477234, Value.int IntKind.u32 1797285236, Value.int IntKind.u32 0, Value.int IntKind.u32 0, Value.int IntKind.u32 0, Value.int IntKind.u32 0, Value.int IntKind.u32 0, Value.int IntKind.u32 0, Value.int IntKind.u32 0, Value.int IntKind.u32 0, Value.int IntKind.u32 0, Value.int IntKind.u32 0, Value.int IntKind.u32 0, Value.int IntKind.u32 0] 108)
    exact ⟨0, by omega, rfl, heap_alloc2_new w _ _, Room.of (heap_alloc2_old w _ _) rfl, K, H1.out.keeps K (fun x => x), H2.out.keeps K (fun x => x)⟩
  case round =>
    obtain ⟨k, hk, rfl, hb, hr, hf, b1, b2⟩ := hrel
    have HB := Lib.hid hb
    have HR := Lib.hid hr
    have HF := Lib.hid hf
    have B1 := Lib.hid b1
    have B2 := Lib.hid b2
    clear hb hr hf b1 b2
    by_cases hlt : k < 8
    · go_wp2_with fail
      refine (word_at bk ok 32 ck (4 * k) _ (by omega) key _ (by rw [HK.out]; omega) (by rw [HK.out]; decide) (by decide) B1.out).mono ?_
      rintro e w1 ⟨rfl, hf1⟩
      have HF1 := Lib.hid hf1
      have hb1 := hf1.at HB.out
      have cc : w1.cell? ⟨w.heap.size + 1, 4 + k, none⟩ = some (.int .u32 (u32 ((stK key k).getD (4 + k) 0))) := by rw [cell_block hb1]; exact cells32_get (by rw [stK_len]; omega)
      have fz := free_block hb1 (4 + k)
      clear hf1 hb1
      have hi0 : (4 : Int) + k < 16 := by omega
      have ht : ((4 : Int) + k).toNat = 4 + k := by omega
      go_wp2
      go_roundw
      case rel =>
        obtain ⟨r1, r2, r3, r4, r5⟩ := start_step (p := 4 + k) (x := wd key (4 * k)) HB.out HR.out HF.out B1.out B2.out HF1.out (by omega) (by omega)
        exact ⟨k + 1, by omega, by go_num, r1, r2, r3, r4, r5⟩
      case measure => simp [intOf]; omega
    · have K8 := Lib.hid (show k = 8 by omega)
      obtain ⟨wo, rfl⟩ : ∃ wo : World, wo = wr := ⟨_, rfl⟩
      go_wp2
      go_loopw [20] (fun i wr => StartRel w bk ok bl ol key last 4 (stL key last) i wr) (fun i _ => 4 - (intOf i).toNat)
      case atStart =>
        have hb := HB.out
        rw [K8.out] at hb
        exact ⟨0, by omega, rfl, hb, HR.out, HF.out, B1.out, B2.out⟩
      case round =>
        clear HB HR HF B1 B2 K8 hk hlt
        obtain ⟨k, hk, rfl, hb, hr, hf, b1, b2⟩ := hrel
        have HB := Lib.hid hb
        have HR := Lib.hid hr
        have HF := Lib.hid hf
        have B1 := Lib.hid b1
        have B2 := Lib.hid b2
        clear hb hr hf b1 b2
        by_cases hlt : k < 4
        · go_wp2_with fail
          refine (word_at bl ol 16 cl (4 * k) _ (by omega) last _ (by rw [HL.out]; omega) (by rw [HL.out]; decide) (by decide) B2.out).mono ?_
          rintro e w1 ⟨rfl, hf1⟩
          have HF1 := Lib.hid hf1
          have hb1 := hf1.at HB.out
          have cc : w1.cell? ⟨w.heap.size + 1, 12 + k, none⟩ = some (.int .u32 (u32 ((stL key last k).getD (12 + k) 0))) := by rw [cell_block hb1]; exact cells32_get (by rw [stL_len]; omega)
          have fz := free_block hb1 (12 + k)
          clear hf1 hb1
          have hi0 : (12 : Int) + k < 16 := by omega
          have ht : ((12 : Int) + k).toNat = 12 + k := by omega
          go_wp2
          go_roundw
          case rel =>
            obtain ⟨r1, r2, r3, r4, r5⟩ := start_step (p := 12 + k) (x := wd last (4 * k)) HB.out HR.out HF.out B1.out B2.out HF1.out (by omega) (by omega)
            exact ⟨k + 1, by omega, by go_num, r1, r2, r3, r4, r5⟩
          case measure => simp [intOf]; omega
        · have K4 := Lib.hid (show k = 4 by omega)
          have hb4 := HB.out
          rw [K4.out] at hb4
          have HB4 := Lib.hid hb4
          clear hb4
          obtain ⟨old, hos, hb2⟩ := HR.out
          have HB2 := Lib.hid hb2
          clear hb2
          have HI := Lib.hid (stL_len key last 4)
          go_wp2_with (first
            | (refine wpList_load_row rfl 108 (.tmp 5) rfl (w.heap.size + 1) rfl 108 (cells32 (stL key last 4)) (0, 0) _ HB4.out Try.underlying108 rfl ?_ ?_; (rw [cells32_size, HI.out]; exact info16))
            | (refine wpList_store_row rfl 108 (.tmp 4) (.tmp 31) rfl w.heap.size (cells32 (stL key last 4)) rfl rfl 108 old HB2.out ?_ ?_ (cells32_one _) ?_; (rw [cells32_size, HI.out]; exact info16); (rw [cells32_size, HI.out]; exact hos)))
          refine bodyPost_ret (results_cell_row (g := w.heap.size) rfl _ _ 108 (cells32 (stL key last 4)) (0, 0) _ rfl (row_heap HB2.out) Try.underlying108 rfl ?_) rfl ?_
          · rw [cells32_size, HI.out]; exact info16
          · exact ⟨rfl, HF.out.setRow (Or.inr (by omega)) _⟩
attribute [irreducible] start stK stL
end Go.Proofs.Ytlafnkcmdnfcpaa
