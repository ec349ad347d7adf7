/-
  Contract: poly1305.updateGeneric is Horner's rule over the blocks of the message, with the cheap reduction.
-/
import Derived.Test.YtlafnkcmdnfcpaaUpdPlain
import Derived.Test.YtlafnkcmdnfcpaaOrd
import Derived.Test.YtlafnkcmdnfcpaaStr
import Derived.Deep.CutRange
namespace Go.Proofs.Ytlafnkcmdnfcpaa
open Go Go.RowKit
theorem add128_z (a c d : UInt64) (w : World) (hz : adB 0 d (adB a c false) = false) :
    Calls Try.prog 92 #[.agg #[.int .u64 (u64 a), .int .u64 0], pr c d] w fun e w' => e = .returned (pr (adW a c false) (adW 0 d (adB a c false))) ∧ w' = ((w.alloc (prO a 0)).alloc (prO c d)).alloc (prO (adW a c false) (adW 0 d (adB a c false))) :=
  add128_c a 0 c d w hz
theorem andM (x : UInt64) : bits .and .u64 (u64 x) 18446744073709551612 = u64 (x &&& 18446744073709551612) := bits_and64 x 18446744073709551612
theorem SlB.empty {w : World} {v : Value} {l : List UInt8} (h : SlB w v l) (h0 : l = []) : ∃ p c, v = .slice p 0 c := by
  subst h0
  rcases h with ⟨rfl, -⟩ | ⟨ad, c, rfl, -⟩
  · exact ⟨_, _, rfl⟩
  · exact ⟨_, _, rfl⟩
theorem u64_nil : u64 0 = 0 := rfl
attribute [local irreducible] u64 adW adB mhi mlo sh2 bW bw w64 padded
set_option maxRecDepth 100000 in
set_option maxHeartbeats 4000000 in
theorem update_c (b : Nat) (T : TypeId) (cs : Array Value) (v : Value) (l : List UInt8) (h0 h1 h2 r0 r1 : UInt64) (w : World)
    (hb : w.heap[b]? = some (.cells cs T (0, 0))) (e0 : cs[0]? = some (.int .u64 (u64 h0))) (e1 : cs[1]? = some (.int .u64 (u64 h1))) (e2 : cs[2]? = some (.int .u64 (u64 h2)))
    (e3 : cs[3]? = some (.int .u64 (u64 r0))) (e4 : cs[4]? = some (.int .u64 (u64 r1))) (hh : h2.toNat ≤ 5) (hr0 : r0.toNat < 1152921504606846976) (hr1 : r1.toNat < 1152921504606846976) (hs : SlB w v l) :
    Calls Try.prog 85 #[.pointer (some ⟨b, 0, none⟩), v] w fun e w' => e = .returned (.tuple #[]) ∧ ∃ g0 g1 g2 : UInt64,
      w'.heap[b]? = some (.cells (((cs.setIfInBounds 0 (.int .u64 (u64 g0))).setIfInBounds 1 (.int .u64 (u64 g1))).setIfInBounds 2 (.int .u64 (u64 g2))) T (0, 0)) ∧ Keeps (fun q => q = b) w w' ∧ g2.toNat ≤ 5 ∧
      Poly.val3 g0.toNat g1.toNat g2.toNat = Poly.runH (r0.toNat + r1.toNat * 18446744073709551616) (Poly.val3 h0.toNat h1.toNat h2.toNat) (chunks l) := by
  have c0 : w.cell? ⟨b, 0, none⟩ = some (.int .u64 (u64 h0)) := by rw [cell_block hb]; exact e0
  have c1 : w.cell? ⟨b, 1, none⟩ = some (.int .u64 (u64 h1)) := by rw [cell_block hb]; exact e1
  have c2 : w.cell? ⟨b, 2, none⟩ = some (.int .u64 (u64 h2)) := by rw [cell_block hb]; exact e2
  have c3 : w.cell? ⟨b, 3, none⟩ = some (.int .u64 (u64 r0)) := by rw [cell_block hb]; exact e3
  have c4 : w.cell? ⟨b, 4, none⟩ = some (.int .u64 (u64 r1)) := by rw [cell_block hb]; exact e4
  have HB := Lib.hid hb
  have HH := Lib.hid hh
  have HS := Lib.hid hs
  have HR0 := Lib.hid hr0
  have HR1 := Lib.hid hr1
  clear hb e0 e1 e2 e3 e4 hh hs hr0 hr1
  go_enter Try.func85, Try.ntmps85
  go_wp2
  go_quiet (fail)
  go_wp2
  go_quiet (fail)
  go_wp2
  go_loopw [1, 4, 5, 6] (fun v1 v4 v5 v6 wr => UpdRel w (r0.toNat + r1.toNat * 18446744073709551616) (Poly.runH (r0.toNat + r1.toNat * 18446744073709551616) (Poly.val3 h0.toNat h1.toNat h2.toNat) (chunks l)) v1 v4 v5 v6 wr) (fun v1 _ _ _ _ => lenOf v1)
  case atStart => exact ⟨l, h0, h1, h2, HS.out.fresh (((Keeps.refl _ w).drewN _).drewN _), rfl, rfl, rfl, HH.out, rfl, ((Keeps.refl _ w).drewN _).drewN _⟩
  case round =>
    have C0 := Lib.hid c0
    have C1 := Lib.hid c1
    have C2 := Lib.hid c2
    clear c0 c1 c2 c3 c4 HH HS
    obtain ⟨rest, x0, x1, x2, hs, rfl, rfl, rfl, hx2, hrun, hf⟩ := hrel
    have HRUN := Lib.hid hrun
    have HF := Lib.hid hf
    have HX2 := Lib.hid hx2
    clear hrun hf hx2
    by_cases hpos : 0 < rest.length
    · have i0 : (0 : Int) < rest.length := by omega
      obtain ⟨bm, om, cm, rfl, hlc, hmx, hbl, hc⟩ := hs.form hpos
      have HC := Lib.hid (show BytesIn wr bm om rest from hc)
      have HS := Lib.hid hs
      clear hs hc
      go_upto_if 57 with fail
      go_cut [1, 4, 5, 6, 9, 10] from 52 to 216 (fun v1 v4 v5 v6 _ _ wx => MidRel w (r0.toNat + r1.toNat * 18446744073709551616) (Poly.runH (r0.toNat + r1.toNat * 18446744073709551616) (Poly.val3 h0.toNat h1.toNat h2.toNat) (chunks l)) rest.length v1 v4 v5 v6 wx)
      case first =>
        by_cases hlt : 16 ≤ rest.length
        · have i16 : (16 : Int) ≤ rest.length := by omega
          have f8 : (8 : Int) ≤ cm := by omega
          have g0 : ¬ cm = 0 := by omega
          have f16 : (16 : Int) ≤ cm := by omega
          have g8 : ¬ cm = 8 := by omega
          go_wp2_with fail
          refine wp_region_ord (fun _ => True) [(0, true), (1, true), (2, true), (3, true), (4, false), (5, true), (6, true), (7, true), (8, true), (9, true), (10, true)] (by kernel_rfl) (by kernel_rfl) trivial ?_
          iterate 4 (refine ord_quiet rfl (fun K hK => ?_); go_simp; refine hK _ ?_; clear hK K)
          refine ord_loud rfl (fun K hK => ?_)
          go_wp2_with fail
          refine (le_Uint64_c bm om 8 _ (rest.take 8) _ (by rw [List.length_take]; omega) (by decide) (((HC.out.keeps ((Keeps.refl (fun _ => False) wr).drew) (fun x => x)).sub 0 8))).mono ?_
          rintro e w1 ⟨rfl, m1, hw1⟩
          have HW1 : Hid (Fresh wr w1) := Lib.hid (by rw [hw1]; exact (((Keeps.refl _ wr).drew).alloc _).drewN _)
          clear hw1
          go_wp2_with fail
          refine hK _ _ trivial ?_
          clear hK K
          refine ord_quiet rfl (fun K hK => ?_); go_simp
          refine ⟨_, fun w' => call_Add64_0 _ _ w', hK _ ?_⟩
          clear hK K
          iterate 5 (refine ord_quiet rfl (fun K hK => ?_); go_simp; refine hK _ ?_; clear hK K)
          refine ord_last ?_
          go_wp2_with fail
          refine wp_region_ord (fun _ => True) [(0, true), (1, true), (2, true), (3, true), (5, true), (4, false), (6, true), (7, true), (8, true), (9, true), (10, true), (11, true)] (by kernel_rfl) (by kernel_rfl) trivial ?_
          iterate 5 (refine ord_quiet rfl (fun K hK => ?_); go_simp; refine hK _ ?_; clear hK K)
          refine ord_loud rfl (fun K hK => ?_)
          go_wp2_with fail
          refine (le_Uint64_c bm (om + 8) 8 _ ((rest.drop 8).take 8) _ (by rw [List.length_take, List.length_drop]; omega) (by decide) ((HC.out.keeps HW1.out.drew (fun x => x)).sub 8 8)).mono ?_
          rintro e w2 ⟨rfl, m2, hw2⟩
          have HW2 : Hid (Fresh wr w2) := Lib.hid (by rw [hw2]; exact ((HW1.out.drew).alloc _).drewN _)
          clear hw2
          go_wp2_with fail
          refine hK _ _ trivial ?_
          clear hK K
          refine ord_quiet rfl (fun K hK => ?_); go_simp
          refine ⟨_, fun w' => call_Add64 _ _ _ w', hK _ ?_⟩
          clear hK K
          iterate 5 (refine ord_quiet rfl (fun K hK => ?_); go_simp; refine hK _ ?_; clear hK K)
          refine ord_last ?_
          go_wp2_with fail
          · go_meet
            case rel => exact mid_full hlt HX2.out HRUN.out (HF.out.then HW2.out (fun _ _ h => h)) (by
              rw [show rest.drop 16 = [] from List.drop_eq_nil_of_le (by omega), show rest.length - 16 = 0 from by omega]
              exact SlB.none_of (Nat.zero_le _)) rfl rfl rfl
          · go_meet
            case rel => exact mid_full hlt HX2.out HRUN.out (HF.out.then HW2.out (fun _ _ h => h)) (SlB.dropped 16 hlt hlc hmx HC.out HW2.out) rfl rfl rfl
        · have i16 : ¬ (16 : Int) ≤ rest.length := by omega
          have n16 : rest.length < 16 := by omega
          have j16 : (rest.length : Int) < 16 := by omega
          have j0 : (0 : Int) ≤ rest.length := by omega
          have hfit : 0 + min rest.length 16 ≤ (vals8 (List.replicate 16 0)).length := by rw [vals8_len, List.length_replicate]; omega
          go_wp2_with (refine wpList_copyB rfl (.tmp 83) (.tmp 84) 24 24 rfl 5 (by kernel_rfl) (by kernel_rfl) wr.heap.size 0 16 16 _ rest rfl rfl (HS.out.fresh ((Keeps.refl _ wr).alloc _)) (vals8 (List.replicate 16 0)) 27 (heap_alloc_new wr _) hfit ?_; intro wb HG HK; have HG' := Lib.hid (buf_block n16 HG.out); have cb := buf_cell n16 HG'.out; have fb : wb.frozen? ⟨wr.heap.size, rest.length, none⟩ = false := free_block HG'.out _; clear HG)
          have HW0 : Hid (Fresh wr (wb.setCell ⟨wr.heap.size, rest.length, none⟩ (.int .u8 1))) := Lib.hid (Fresh.then ((Keeps.refl _ wr).alloc _) (HK.out.setCell (Or.inl rfl) _) (fun q hq e => by omega))
          have HP := Lib.hid (buf_set n16 HG'.out)
          clear cb fb HG' HK
          refine wp_region_ord (fun _ => True) [(0, true), (1, true), (2, true), (3, false), (4, true), (5, true), (6, true), (7, true), (8, true), (9, true)] (by kernel_rfl) (by kernel_rfl) trivial ?_
          iterate 3 (refine ord_quiet rfl (fun K hK => ?_); go_simp; refine hK _ ?_; clear hK K)
          refine ord_loud rfl (fun K hK => ?_)
          go_wp2_with fail
          refine (le_Uint64_c wr.heap.size 0 8 _ ((padded rest).take 8) _ (by rw [List.length_take, padded_length rest n16]; omega) (by decide) (((HP.out.keeps ((Keeps.refl (fun _ => False) _).drew) (fun x => x)).sub 0 8))).mono ?_
          rintro e w1 ⟨rfl, m1, hw1⟩
          have HW1 : Hid (Fresh (wb.setCell ⟨wr.heap.size, rest.length, none⟩ (.int .u8 1)) w1) := Lib.hid (by rw [hw1]; exact (((Keeps.refl _ _).drew).alloc _).drewN _)
          clear hw1
          go_wp2_with fail
          refine hK _ _ trivial ?_
          clear hK K
          refine ord_quiet rfl (fun K hK => ?_); go_simp
          refine ⟨_, fun w' => call_Add64_0 _ _ w', hK _ ?_⟩
          clear hK K
          iterate 5 (refine ord_quiet rfl (fun K hK => ?_); go_simp; refine hK _ ?_; clear hK K)
          refine ord_last ?_
          go_wp2_with fail
          refine wp_region_ord (fun _ => True) [(0, true), (1, true), (2, true), (4, true), (3, false), (5, true), (6, true), (7, true), (8, true), (9, true), (10, true)] (by kernel_rfl) (by kernel_rfl) trivial ?_
          iterate 4 (refine ord_quiet rfl (fun K hK => ?_); go_simp; refine hK _ ?_; clear hK K)
          refine ord_loud rfl (fun K hK => ?_)
          go_wp2_with fail
          refine (le_Uint64_c wr.heap.size 8 8 _ (((padded rest).drop 8).take 8) _ (by rw [List.length_take, List.length_drop, padded_length rest n16]; omega) (by decide) ((HP.out.keeps HW1.out.drew (fun x => x)).sub 8 8)).mono ?_
          rintro e w2 ⟨rfl, m2, hw2⟩
          have HW2 : Hid (Fresh wr w2) := Lib.hid (by rw [hw2]; exact (((HW0.out.then HW1.out (fun _ _ h => h)).drew).alloc _).drewN _)
          clear hw2
          go_wp2_with fail
          refine hK _ _ trivial ?_
          clear hK K
          refine ord_quiet rfl (fun K hK => ?_); go_simp
          refine ⟨_, fun w' => call_Add64 _ _ _ w', hK _ ?_⟩
          clear hK K
          iterate 5 (refine ord_quiet rfl (fun K hK => ?_); go_simp; refine hK _ ?_; clear hK K)
          refine ord_last ?_
          go_wp2_with fail
          go_meet
          case rel => exact mid_part hpos n16 HX2.out HRUN.out (HF.out.then HW2.out (fun _ _ h => h)) (SlB.nil _) rfl rfl rfl
      case rest =>
        clear HRUN HF HX2 HC HS HB hpos i0 hlc hmx hbl
        obtain ⟨rest', y0, y1, y2, hs', hlen, rfl, rfl, rfl, hy2, hrun, hf⟩ := hcut
        have z0 : Go.Proofs.Ytlafnkcmdnfcpaa.u64 (mhi y2 r0) = 0 := by rw [mhi_small y2 r0 hy2 HR0.out]; exact u64_nil
        have z1 : Go.Proofs.Ytlafnkcmdnfcpaa.u64 (mhi y2 r1) = 0 := by rw [mhi_small y2 r1 hy2 HR1.out]; exact u64_nil
        have q1 := (add128_prod y1 y0 r0 r1 HR0.out HR1.out).1
        have q2 : adB 0 (mhi y1 r1) (adB (mlo y2 r0) (mlo y1 r1) false) = false := by have h := (add128_prod y2 y1 r0 r1 HR0.out HR1.out).1; rwa [mhi_small y2 r0 hy2 HR0.out] at h
        have HS' := Lib.hid hs'
        have HRUN' := Lib.hid hrun
        have HY2 := Lib.hid hy2
        have HF' := Lib.hid hf
        have Q1 := Lib.hid q1
        have Q2 := Lib.hid q2
        clear hs' hrun hy2 hf q1 q2
        go_upto_region 28 with (first | (go_at_call 91; refine (mul64_c _ _ _).mono ?_; rintro e w' ⟨rfl, rfl⟩) | (go_at_call 92; refine (add128_c (mlo y1 r0) (mhi y1 r0) (mlo y0 r1) (mhi y0 r1) _ Q1.out).mono ?_; rintro e w' ⟨rfl, rfl⟩))
        go_wp2_with (first | (go_at_call 92; refine (add128_z (mlo y2 r0) (mlo y1 r1) (mhi y1 r1) _ Q2.out).mono ?_; rintro e w' ⟨rfl, rfl⟩) | (go_at_call 93; refine (shiftRightBy2_c _ _ _).mono ?_; rintro e w' ⟨rfl, rfl⟩) | rw [call_Add64_0] | rw [call_Add64] | rw [and3] | rw [andM])
        refine ⟨mupd_next HS'.out HY2.out HRUN'.out HF'.out ?fr HR0.out HR1.out _ _ _ _ _ _ _ _ _ _ _ _ _ _ _ _ _ _ _ _ _ rfl rfl rfl rfl rfl rfl rfl rfl rfl rfl rfl rfl rfl rfl rfl rfl rfl rfl rfl rfl rfl, ?_⟩
        case fr => (repeat refine Keeps.alloc ?_ _); exact Keeps.refl _ _
        rw [HS'.out.lenOf]
        exact hlen
    · obtain rfl : rest = [] := List.eq_nil_of_length_eq_zero (by omega)
      obtain ⟨p1, q1, rfl⟩ := hs.empty rfl
      have hb1 := HF.out.at HB.out
      have fz : ∀ i, wr.frozen? ⟨b, i, none⟩ = false := free_block hb1
      have hlt : b < wr.heap.size := lt_of_block hb1
      have e0 : wr.cell? ⟨b, 0, none⟩ = some (.int .u64 (Go.Proofs.Ytlafnkcmdnfcpaa.u64 h0)) := HF.out.cellAt C0.out (fun x => x)
      have e1 : wr.cell? ⟨b, 1, none⟩ = some (.int .u64 (Go.Proofs.Ytlafnkcmdnfcpaa.u64 h1)) := HF.out.cellAt C1.out (fun x => x)
      have e2 : wr.cell? ⟨b, 2, none⟩ = some (.int .u64 (Go.Proofs.Ytlafnkcmdnfcpaa.u64 h2)) := HF.out.cellAt C2.out (fun x => x)
      have HB1 := Lib.hid hb1
      clear hb1 C0 C1 C2 HB hpos hs
      go_wp2_with fail
      go_region
      go_end0
      refine ⟨rfl, x0, x1, x2, block_set (block_set (block_set HB1.out)), ((((Fresh.to HF.out).own _).own _).own _).drew, HX2.out, ?_⟩
      rw [← HRUN.out, chunks_nil, runH_nil]
end Go.Proofs.Ytlafnkcmdnfcpaa
