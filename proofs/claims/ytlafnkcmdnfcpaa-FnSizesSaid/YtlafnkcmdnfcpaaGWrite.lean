/-
  Contract: macGeneric.Write.
-/
import Derived.Test.YtlafnkcmdnfcpaaGSum
import Derived.Test.YtlafnkcmdnfcpaaWrPlain
import Derived.Test.YtlafnkcmdnfcpaaCopy2
namespace Go.Proofs.Ytlafnkcmdnfcpaa
open Go Go.RowKit
section
variable {h0 h1 h2 r0 r1 s0 s1 : UInt64} {buf : List UInt8} {off : Nat} {fin : Bool}
theorem macCs_0 : (macCs h0 h1 h2 r0 r1 s0 s1 buf off fin).toArray[0]? = some (.int .u64 (u64 h0)) := rfl
theorem macCs_1 : (macCs h0 h1 h2 r0 r1 s0 s1 buf off fin).toArray[1]? = some (.int .u64 (u64 h1)) := rfl
theorem macCs_2 : (macCs h0 h1 h2 r0 r1 s0 s1 buf off fin).toArray[2]? = some (.int .u64 (u64 h2)) := rfl
theorem macCs_3 : (macCs h0 h1 h2 r0 r1 s0 s1 buf off fin).toArray[3]? = some (.int .u64 (u64 r0)) := rfl
theorem macCs_4 : (macCs h0 h1 h2 r0 r1 s0 s1 buf off fin).toArray[4]? = some (.int .u64 (u64 r1)) := rfl
end
theorem gBufAll {b : Nat} {T : TypeId} {h0 h1 h2 r0 r1 s0 s1 : UInt64} {buf : List UInt8} {off : Nat} {fin : Bool} {w w' : World} (hb : w.heap[b]? = some (.cells (macCs h0 h1 h2 r0 r1 s0 s1 buf off fin).toArray T (0, 0))) (hbl : buf.length = 16) (hf : Fresh w w') :
    SlB w' (.slice (some ⟨b, 7, none⟩) 16 16) buf := by
  have := gBuf (k := 16) hb hbl (Nat.le_refl _) hf
  rwa [List.take_of_length_le (by omega)] at this
/-- a slice cut from its front -/
theorem SlB.front {w w' : World} {bm om cm n : Nat} {m : List UInt8} (hs : SlB w (.slice (some ⟨bm, om, none⟩) m.length cm) m) {S : Nat → Prop} (hk : Keeps S w w') (hS : ¬ S bm) (hn : n ≤ m.length) (h0 : 0 < m.length) :
    SlB w' (.slice (some ⟨bm, om + n, none⟩) (m.length - n) (cm - n)) (m.drop n) := by
  obtain ⟨b', o', c', e, h1, h2, h3, h4⟩ := hs.form h0
  cases e
  have hl : (m.drop n).length = m.length - n := List.length_drop
  have := SlB.of (w := w') (b := bm) (o := om + n) (c := cm - n) (l := m.drop n) (by omega) (by omega) (fun i hi => by
    rw [Nat.add_assoc, hk.cellAt (h4 (n + i) (by omega)) hS]
    simp [List.getD, List.getElem?_drop])
  rwa [hl] at this
attribute [local irreducible] u64 chunks splice macCs
set_option maxRecDepth 100000 in
set_option maxHeartbeats 2000000 in
theorem gWrite_c (b : Nat) (T : TypeId) (l m : List UInt8) (fin : Bool) (r0 r1 s0 s1 : UInt64) (v : Value) (w : World) (hr0 : r0.toNat < 1152921504606846976) (hr1 : r1.toNat < 1152921504606846976)
    (hmac : Mac T r0 r1 s0 s1 w b l fin) (hs : SlB w v m) (hv : 0 < m.length → v.ownBlock ≠ some b) :
    Calls Try.prog 73 #[.pointer (some ⟨b, 0, none⟩), v] w fun e w' =>
      e = .returned (.tuple #[.int .i64 (m.length : Int), .nilIface]) ∧ Mac T r0 r1 s0 s1 w' b (l ++ m) fin ∧ Keeps (fun q => q = b) w w' := by
  obtain ⟨h0, h1, h2, buf, hbl, hh, hb, hbuf, hval⟩ := hmac
  obtain ⟨off, hoff⟩ : ∃ off, off = l.length % 16 := ⟨_, rfl⟩
  rw [← hoff] at hb hbuf
  have hof16 : off < 16 := by omega
  have c23 : w.cell? ⟨b, 23, none⟩ = some (.int .i64 (off : Int)) := by rw [cell_block hb]; exact macCs_off hbl
  have hlt : b < w.heap.size := lt_of_block hb
  have HB := Lib.hid hb
  have HH := Lib.hid hh
  have HR0 := Lib.hid hr0
  have HR1 := Lib.hid hr1
  have HBL := Lib.hid hbl
  have HBUF := Lib.hid hbuf
  have HVAL := Lib.hid hval
  have HOFF := Lib.hid hoff
  have HS := Lib.hid hs
  have HV := Lib.hid hv
  have HFZ := Lib.hid (free_block hb 23)
  clear hb hh hr0 hr1 hbl hbuf hval hoff hs hv
  obtain ⟨sp, sc, rfl⟩ := HS.out.shape
  go_enter Try.func73, Try.ntmps73
  go_upto_if 15 with fail
  go_cut [1, 7] from 9 (fun v1 _ wx => MidW T r0 r1 s0 s1 b fin w (l ++ m) (fun _ => True) v1 wx)
  case first =>
    by_cases ho : 0 < off
    · have i0 : (0 : Int) < off := by omega
      have i00 : (0 : Int) ≤ off := by omega
      have i16 : (off : Int) ≤ 16 := by omega
      have p16 : ¬ 16 = off := by omega
      have n1 : min m.length (16 - off) ≤ 16 - off := Nat.min_le_right _ _
      go_wp2_with fail
      refine wp_region_ord (fun w' => w'.cell? ⟨b, 23, none⟩ = some (.int .i64 (off : Int))) [(0, true), (1, true), (2, true), (3, true), (4, true), (5, true), (6, true), (7, true), (8, true), (9, false), (10, true)] (by kernel_rfl) (by kernel_rfl) c23 ?_
      iterate 6 (refine ord_quiet rfl (fun K hK => ?_); go_simp; refine hK _ ?_; clear hK K)
      refine ord_load (.int .i64 (off : Int)) rfl (by rfl) (fun w' hw' => by go_simp) ?_
      iterate 2 (refine ord_quiet rfl (fun K hK => ?_); go_simp; refine hK _ ?_; clear hK K)
      refine ord_loud rfl (fun K hK => ?_)
      refine wpList_copyB rfl (.tmp 23) (.tmp 24) 24 24 rfl 5 (by kernel_rfl) (by kernel_rfl) b (7 + off) (16 - off) (16 - off) _ m rfl rfl (HS.out.fresh (Keeps.refl _ w).drew) (macCs h0 h1 h2 r0 r1 s0 s1 buf off fin) T HB.out (by rw [macCs_length HBL.out]; omega) ?_
      intro w1 HG HK
      have HG1 := Lib.hid (show w1.heap[b]? = some (.cells (macCs h0 h1 h2 r0 r1 s0 s1 (splice buf off (m.take (16 - off))) off fin).toArray T (0, 0)) from by rw [← macCs_splice HBL.out off (m.take (16 - off)) (by rw [List.length_take]; omega)]; exact HG.out)
      have HBL1 := Lib.hid (show (splice buf off (m.take (16 - off))).length = 16 from by rw [length_splice _ _ _ (by rw [List.length_take, HBL.out]; omega)]; exact HBL.out)
      have HK1 : Hid (Keeps (fun q => q = b) w w1) := Lib.hid (((Keeps.refl _ w).drew).trans HK.out)
      have d23 : w1.cell? ⟨b, 23, none⟩ = some (.int .i64 (off : Int)) := by rw [cell_block HG1.out]; exact macCs_off HBL1.out
      have f23 : w1.frozen? ⟨b, 23, none⟩ = false := free_block HG1.out 23
      have hlt1 : b < w1.heap.size := lt_of_block HG1.out
      clear HG HK c23 hlt
      go_wp2_with fail
      refine hK _ _ d23 ?_
      clear hK K
      refine ord_quiet rfl (fun K hK => ?_); go_simp; refine hK _ ?_; clear hK K
      refine ord_last ?_
      obtain ⟨n, hn⟩ : ∃ n, n = min m.length (16 - off) := ⟨_, rfl⟩
      rw [← hn]
      have hn1 : n ≤ 16 - off := by omega
      have hn2 : n ≤ m.length := by omega
      by_cases hful : off + n < 16
      · have i1 : (off : Int) + n < 16 := by omega
        have HN := Lib.hid (show n = m.length by omega)
        clear hn n1
        go_wp2_with fail
        go_ret2
        have hn := HN.out
        have ht : m.take (16 - off) = m := List.take_of_length_le (by omega)
        refine ⟨rfl, Mac.kept HBL.out HH.out (by rw [← HOFF.out]; omega) ?_ (by rw [← HOFF.out]; exact HBUF.out) HVAL.out, HK1.out.own _⟩
        rw [← HOFF.out, ← hn]
        have := block_set (i := 23) (v := .int .i64 ((off + n : Nat) : Int)) HG1.out
        rw [macCs_set_off HBL1.out, ht] at this
        rw [Int.natCast_add] at this
        exact this
      · have i1 : ¬ (off : Int) + n < 16 := by omega
        have HN := Lib.hid (show off + n = 16 by omega)
        have HT : Hid (m.take (16 - off) = m.take n) := Lib.hid (by congr 1; omega)
        have hm0 : 0 < m.length := by omega
        clear hn n1
        obtain ⟨bm, om, cm, hsf, hlc, hmx, hbm, -⟩ := HS.out.form hm0
        obtain ⟨rfl, rfl⟩ : sp = some ⟨bm, om, none⟩ ∧ sc = cm := by injection hsf with a1 a2 a3; exact ⟨a1, a3⟩
        clear hsf
        have hvb : ¬ bm = b := fun e => HV.out hm0 (congrArg some e)
        have j1 : (n : Int) ≤ m.length := by omega
        have j2 : (n : Int) ≤ sc := by omega
        have j0 : (0 : Int) ≤ n := by omega
        have HG2 : Hid ((w1.setCell ⟨b, 23, none⟩ (.int .i64 0)).heap[b]? = some (.cells (macCs h0 h1 h2 r0 r1 s0 s1 (splice buf off (m.take n)) 0 fin).toArray T (0, 0))) := Lib.hid (by
          have := block_set (i := 23) (v := .int .i64 ((0 : Nat) : Int)) HG1.out
          rw [macCs_set_off HBL1.out, HT.out] at this
          exact this)
        have HBL2 : Hid ((splice buf off (m.take n)).length = 16) := Lib.hid (by rw [← HT.out]; exact HBL1.out)
        go_wp2_with fail
        · refine wp_region_tailD 7 (by kernel_rfl) (by kernel_rfl) ?_
          simp only [List.take_succ_cons, List.take_zero, List.drop_succ_cons, List.drop_zero]
          repeat (quiet_step (fail))
          refine wpQuiet_nil ?_
          rintro _ ⟨m0, rfl⟩
          go_wp2_with fail
          have hS := HG2.out
          refine (update_c b T _ _ (splice buf off (m.take n)) h0 h1 h2 r0 r1 _ (block_drewN HG2.out) macCs_0 macCs_1 macCs_2 macCs_3 macCs_4 HH.out HR0.out HR1.out (gBufAll HG2.out HBL2.out ((Keeps.refl _ _).drewN _))).mono ?_
          rintro e w2 ⟨rfl, g0, g1, g2, hg, hk, hg2, hrun⟩
          rw [macCs_set_h] at hg
          have HG3 := Lib.hid hg
          have HGG2 := Lib.hid hg2
          have HRUN := Lib.hid hrun
          have HK2 : Hid (Keeps (fun q => q = b) w w2) := Lib.hid (((HK1.out.own _).drewN m0).trans hk)
          clear hg hk hg2 hrun hS
          go_wp2_with fail
          go_meet
          case rel =>
            have hn := HN.out
            refine ⟨l ++ m.take n, m.drop n, ?_, ?_, trivial, Mac.filled HBL.out HGG2.out (by rw [List.length_take, ← HOFF.out]; omega) (by rw [← HOFF.out]; exact HG3.out) (by rw [← HOFF.out]; exact HBUF.out) HVAL.out (by rw [← HOFF.out]; exact HRUN.out), ?_, fun _ e => hvb (Option.some.inj e), HK2.out⟩
            · have := HOFF.out
              rw [List.length_append, List.length_take]; omega
            · rw [List.append_assoc, List.take_append_drop]
            · rw [List.drop_eq_nil_of_le (show m.length ≤ n by omega), show m.length - n = 0 from by omega]; exact SlB.none_of (Nat.zero_le _)
        · refine wp_region_tailD 7 (by kernel_rfl) (by kernel_rfl) ?_
          simp only [List.take_succ_cons, List.take_zero, List.drop_succ_cons, List.drop_zero]
          repeat (quiet_step (fail))
          refine wpQuiet_nil ?_
          rintro _ ⟨m0, rfl⟩
          go_wp2_with fail
          have hS := HG2.out
          refine (update_c b T _ _ (splice buf off (m.take n)) h0 h1 h2 r0 r1 _ (block_drewN HG2.out) macCs_0 macCs_1 macCs_2 macCs_3 macCs_4 HH.out HR0.out HR1.out (gBufAll HG2.out HBL2.out ((Keeps.refl _ _).drewN _))).mono ?_
          rintro e w2 ⟨rfl, g0, g1, g2, hg, hk, hg2, hrun⟩
          rw [macCs_set_h] at hg
          have HG3 := Lib.hid hg
          have HGG2 := Lib.hid hg2
          have HRUN := Lib.hid hrun
          have HK2 : Hid (Keeps (fun q => q = b) w w2) := Lib.hid (((HK1.out.own _).drewN m0).trans hk)
          clear hg hk hg2 hrun hS
          go_wp2_with fail
          go_meet
          case rel =>
            have hn := HN.out
            refine ⟨l ++ m.take n, m.drop n, ?_, ?_, trivial, Mac.filled HBL.out HGG2.out (by rw [List.length_take, ← HOFF.out]; omega) (by rw [← HOFF.out]; exact HG3.out) (by rw [← HOFF.out]; exact HBUF.out) HVAL.out (by rw [← HOFF.out]; exact HRUN.out), ?_, fun _ e => hvb (Option.some.inj e), HK2.out⟩
            · have := HOFF.out
              rw [List.length_append, List.length_take]; omega
            · rw [List.append_assoc, List.take_append_drop]
            · exact SlB.front HS.out HK2.out hvb hn2 hm0
    · obtain rfl : off = 0 := by omega
      go_wp2_with fail
      go_meet
      case rel => exact ⟨l, m, HOFF.out.symm, rfl, trivial, ⟨h0, h1, h2, buf, HBL.out, HH.out, by rw [← HOFF.out]; exact HB.out, by rw [← HOFF.out]; exact HBUF.out, HVAL.out⟩, HS.out, HV.out, Keeps.refl _ w⟩
  case rest =>
    clear HB HH HBL HBUF HVAL HOFF HS HFZ HV c23 hlt hof16
    obtain ⟨l1, m1, hl1, hlm, -, hmac, hs1, hv1, hk1⟩ := hcut
    have HL1 := Lib.hid hl1
    have HLM := Lib.hid hlm
    have HMAC := Lib.hid hmac
    have HS1 := Lib.hid hs1
    have HV1 := Lib.hid hv1
    have HK1 := Lib.hid hk1
    clear hl1 hlm hmac hs1 hv1 hk1
    obtain ⟨p1, q1, rfl⟩ := HS1.out.shape
    obtain ⟨k, hk⟩ : ∃ k, k = m1.length / 16 * 16 := ⟨_, rfl⟩
    have hkm : (m1.length : Int) - (m1.length : Int) % 16 = k := by omega
    have hkt : (m1.length : Int) - Int.tmod (m1.length : Int) 16 = k := by rw [Int.tmod_eq_emod_of_nonneg (by omega)]; exact hkm
    have HKE := Lib.hid hk
    clear hk
    have hmx : m1.length ≤ maxLen := by
      rcases HS1.out with ⟨-, e⟩ | ⟨ad, c, e, h1, h2, -⟩
      · rw [e]; exact Nat.zero_le _
      · omega
    have hw64 : wrap64 (k : Int) = k := by
      have := HKE.out
      simp only [maxLen] at hmx
      unfold wrap64; omega
    go_upto_if 63 with fail
    go_cut [1, 8] from 9 (fun v1 _ wx => MidW T r0 r1 s0 s1 b fin w (l ++ m) (fun m2 => m2.length < 16) v1 wx)
    case first =>
      by_cases hp : 0 < k
      · have i0 : (0 : Int) < k := by omega
        have hm0 : 0 < m1.length := by have := HKE.out; omega
        have hkl : k ≤ m1.length := by have := HKE.out; omega
        obtain ⟨bm, om, cm, hsf, hlc, hmx2, hbm, hbytes⟩ := HS1.out.form hm0
        obtain ⟨rfl, rfl⟩ : p1 = some ⟨bm, om, none⟩ ∧ q1 = cm := by injection hsf with a1 a2 a3; exact ⟨a1, a3⟩
        clear hsf
        have HBY := Lib.hid (show BytesIn wc bm om m1 from hbytes)
        have hvb : ¬ bm = b := fun e => HV1.out hm0 (congrArg some e)
        have j1 : (k : Int) ≤ m1.length := by omega
        have j2 : (k : Int) ≤ q1 := by omega
        have j0 : (0 : Int) ≤ k := by omega
        clear hbytes
        go_wp2_with fail
        refine wp_region_tailD 6 (by kernel_rfl) (by kernel_rfl) ?_
        simp only [List.take_succ_cons, List.take_zero, List.drop_succ_cons, List.drop_zero]
        repeat (quiet_step (fail))
        refine wpQuiet_nil ?_
        rintro _ ⟨m0, rfl⟩
        go_wp2_with fail
        obtain ⟨h0, h1, h2, buf, hbl, hh, hb, -, hval⟩ := HMAC.out
        rw [HL1.out] at hb
        have HB := Lib.hid hb
        have HBL := Lib.hid hbl
        have HVAL := Lib.hid hval
        have hl2 : (m1.take k).length = k := by rw [List.length_take]; omega
        have hsl := SlB.of (w := wc.drewN m0) (b := bm) (o := om) (c := q1) (l := m1.take k) (by omega) hmx2 (fun i hi => by
          have := HBY.out i (by omega)
          rw [World.cell?_drewN, this]
          simp [List.getD, show i < k by omega])
        rw [hl2] at hsl
        refine (update_c b T _ _ (m1.take k) h0 h1 h2 r0 r1 _ (block_drewN hb) macCs_0 macCs_1 macCs_2 macCs_3 macCs_4 hh HR0.out HR1.out hsl).mono ?_
        clear hb hbl hval hh hsl hl2
        rintro e w2 ⟨rfl, g0, g1, g2, hg, hk, hg2, hrun⟩
        rw [macCs_set_h] at hg
        have HG3 := Lib.hid hg
        have HGG2 := Lib.hid hg2
        have HRUN := Lib.hid hrun
        have HK2 : Hid (Keeps (fun q => q = b) w w2) := Lib.hid ((HK1.out.drewN m0).trans hk)
        have HK3 : Hid (Keeps (fun q => q = b) wc w2) := Lib.hid (((Keeps.refl _ wc).drewN m0).trans hk)
        clear hg hk hg2 hrun
        go_wp2_with fail
        · go_meet
          case rel =>
            have hke := HKE.out
            refine ⟨l1 ++ m1.take k, m1.drop k, ?_, ?_, ?_, Mac.whole HBL.out HGG2.out HL1.out (by rw [List.length_take]; omega) HG3.out HVAL.out HRUN.out, ?_, fun _ e => hvb (Option.some.inj e), HK2.out⟩
            · have := HL1.out
              rw [List.length_append, List.length_take]; omega
            · rw [List.append_assoc, List.take_append_drop]; exact HLM.out
            · show (m1.drop k).length < 16
              rw [List.length_drop]; omega
            · rw [List.drop_eq_nil_of_le (show m1.length ≤ k by omega), show m1.length - k = 0 from by omega]; exact SlB.none_of (Nat.zero_le _)
        · go_meet
          case rel =>
            have hke := HKE.out
            refine ⟨l1 ++ m1.take k, m1.drop k, ?_, ?_, ?_, Mac.whole HBL.out HGG2.out HL1.out (by rw [List.length_take]; omega) HG3.out HVAL.out HRUN.out, ?_, fun _ e => hvb (Option.some.inj e), HK2.out⟩
            · have := HL1.out
              rw [List.length_append, List.length_take]; omega
            · rw [List.append_assoc, List.take_append_drop]; exact HLM.out
            · show (m1.drop k).length < 16
              rw [List.length_drop]; omega
            · exact SlB.front HS1.out HK3.out hvb hkl hm0
      · obtain rfl : k = 0 := by omega
        go_wp2_with fail
        go_meet
        case rel => exact ⟨l1, m1, HL1.out, HLM.out, by have := HKE.out; omega, HMAC.out, HS1.out, HV1.out, HK1.out⟩
    case rest =>
      clear HL1 HLM HMAC HS1 HV1 HK1 HKE hkm hkt hw64 hmx
      obtain ⟨l2, m2, hl2, hlm, hlen, hmac, hs2, hv2, hk2⟩ := hcut
      have hlen' : m2.length < 16 := hlen
      obtain ⟨h0, h1, h2, buf, hbl, hh, hb, hbuf, hval⟩ := hmac
      have hb0 := hb
      rw [hl2] at hb0
      have c23 : wc.cell? ⟨b, 23, none⟩ = some (.int .i64 0) := by rw [cell_block hb0]; exact macCs_off hbl
      have hltc : b < wc.heap.size := lt_of_block hb0
      have HB := Lib.hid hb0
      have HBL := Lib.hid hbl
      have HH := Lib.hid hh
      have HBUF := Lib.hid hbuf
      have HVAL := Lib.hid hval
      have HL2 := Lib.hid hl2
      have HLM := Lib.hid hlm
      have HS2 := Lib.hid hs2
      have HK2 := Lib.hid hk2
      clear hb hb0 hbl hh hbuf hval hl2 hlm hs2 hk2 hv2 hlen
      obtain ⟨p2, q2, rfl⟩ := HS2.out.shape
      by_cases hp : 0 < m2.length
      · have i0 : (0 : Int) < m2.length := by omega
        go_wp2_with fail
        go_region_law (refine step_copyB rfl (.tmp 88) (.tmp 89) 24 24 rfl 5 (by kernel_rfl) (by kernel_rfl) b 7 16 16 _ m2 rfl rfl (HS2.out.fresh (Keeps.refl _ wc).drew) (macCs h0 h1 h2 r0 r1 s0 s1 buf 0 fin) T (show wc.drew.heap[b]? = _ from HB.out) (by rw [macCs_length HBL.out]; omega) ?_; intro w1 HG HK; have HT : Hid (m2.take 16 = m2) := Lib.hid (List.take_of_length_le (by omega)); have HG1 := Lib.hid (show w1.heap[b]? = some (.cells (macCs h0 h1 h2 r0 r1 s0 s1 (splice buf 0 m2) 0 fin).toArray T (0, 0)) from by rw [← macCs_splice HBL.out 0 m2 (by omega), ← HT.out]; exact HG.out); have HBL1 := Lib.hid (show (splice buf 0 m2).length = 16 from by rw [length_splice _ _ _ (by rw [HBL.out]; omega)]; exact HBL.out); have HK1 : Hid (Keeps (fun q => q = b) w w1) := Lib.hid ((HK2.out.drew).trans HK.out); have d23 : w1.cell? ⟨b, 23, none⟩ = some (.int .i64 0) := (by rw [cell_block HG1.out]; exact macCs_off HBL1.out); have f23 : w1.frozen? ⟨b, 23, none⟩ = false := free_block HG1.out 23; have hlt1 : b < w1.heap.size := lt_of_block HG1.out; have HMIN : min m2.length 16 = m2.length := (by omega); clear HG HK; rw [HMIN]; clear HMIN)
        all_goals
          go_wp2_with fail
          go_ret2
          refine ⟨rfl, ?_, HK1.out.own _⟩
          rw [← HLM.out]
          refine Mac.kept HBL.out HH.out (by rw [HL2.out]; omega) ?_ HBUF.out HVAL.out
          rw [HL2.out, Nat.zero_add, show IntKind.i64.wrap (m2.length : Int) = m2.length from by rw [IntKind.wrap_i64]; omega]
          have := block_set (i := 23) (v := .int .i64 (m2.length : Int)) HG1.out
          rw [macCs_set_off HBL1.out] at this
          exact this
      · obtain rfl : m2 = [] := List.eq_nil_of_length_eq_zero (by omega)
        go_wp2_with fail
        go_ret2
        refine ⟨rfl, ?_, HK2.out⟩
        rw [← HLM.out, List.append_nil]
        exact ⟨h0, h1, h2, buf, HBL.out, HH.out, by rw [HL2.out]; exact HB.out, HBUF.out, HVAL.out⟩
end Go.Proofs.Ytlafnkcmdnfcpaa
