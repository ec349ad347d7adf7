/-
  Contract: poly1305.initialize.
-/
import Derived.Test.YtdkhpehniciijaaMulW
import Derived.Test.YtdkhpehniciijaaLe64
import Derived.Test.YtdkhpehniciijaaOrd
namespace Go.Proofs.Ytdkhpehniciijaa
open Go Go.RowKit
theorem andR0 (x : UInt64) : bits .and .u64 (u64 x) 1152921487695413247 = u64 (x &&& 1152921487695413247) := bits_and64 x 1152921487695413247
theorem andR1 (x : UInt64) : bits .and .u64 (u64 x) 1152921487695413244 = u64 (x &&& 1152921487695413244) := bits_and64 x 1152921487695413244
attribute [local irreducible] u64 w64
set_option maxRecDepth 100000 in
set_option maxHeartbeats 1000000 in
theorem initialize_c (bk b : Nat) (T : TypeId) (cs : Array Value) (key : List UInt8) (x3 x4 x5 x6 : UInt64) (w : World) (hb : w.heap[b]? = some (.cells cs T (0, 0))) (hk : BytesIn w bk 0 key) (hl : key.length = 32) (hne : bk ≠ b)
    (e3 : cs[3]? = some (.int .u64 (u64 x3))) (e4 : cs[4]? = some (.int .u64 (u64 x4))) (e5 : cs[5]? = some (.int .u64 (u64 x5))) (e6 : cs[6]? = some (.int .u64 (u64 x6))) :
    Calls Try.prog 40 #[.pointer (some ⟨bk, 0, none⟩), .pointer (some ⟨b, 0, none⟩)] w fun e w' =>
      e = .returned (.tuple #[]) ∧ w'.heap[b]? = some (.cells ((((cs.setIfInBounds 3 (.int .u64 (u64 (w64 (key.take 8) &&& 1152921487695413247)))).setIfInBounds 4 (.int .u64 (u64 (w64 ((key.drop 8).take 8) &&& 1152921487695413244)))).setIfInBounds 5 (.int .u64 (u64 (w64 ((key.drop 16).take 8))))).setIfInBounds 6 (.int .u64 (u64 (w64 ((key.drop 24).take 8))))) T (0, 0)) ∧ Keeps (fun q => q = b) w w' := by
  have C3 := Lib.hid e3
  have C4 := Lib.hid e4
  have C5 := Lib.hid e5
  have C6 := Lib.hid e6
  have HB := Lib.hid hb
  have HK := Lib.hid hk
  have HL := Lib.hid hl
  have HN := Lib.hid hne
  have L0 : (key.take 8).length = 8 := by rw [List.length_take]; omega
  have L1 : ((key.drop 8).take 8).length = 8 := by rw [List.length_take, List.length_drop]; omega
  have L2 : ((key.drop 16).take 8).length = 8 := by rw [List.length_take, List.length_drop]; omega
  have L3 : ((key.drop 24).take 8).length = 8 := by rw [List.length_take, List.length_drop]; omega
  clear hb hk hl hne e3 e4 e5 e6
  go_enter Try.func40, Try.ntmps40
  go_wp2_with fail
  refine wp_region_ord (fun _ => True) [(0, true), (1, true), (2, true), (3, true), (4, true), (7, true), (8, true), (5, false), (6, true), (9, true), (10, false)] (by kernel_rfl) (by kernel_rfl) trivial ?_
  iterate 7 (refine ord_quiet rfl (fun K hK => ?_); go_simp; refine hK _ ?_; clear hK K)
  refine ord_loud rfl (fun K hK => ?_)
  go_wp2_with fail
  refine (le_Uint64_c bk 0 8 _ (key.take 8) _ L0 (by decide) ((HK.out.keeps ((Keeps.refl (fun q => q = b) w).drew) HN.out).sub 0 8)).mono ?_
  rintro e v0 ⟨rfl, m0, hw0⟩
  have HF0 : Hid (Keeps (fun q => q = b) w v0) := Lib.hid (by rw [hw0]; exact (((Keeps.refl (fun q => q = b) w).drew).alloc _).drewN _)
  have HB0 : Hid (v0.heap[b]? = some (.cells _ T (0, 0))) := Lib.hid (by rw [hw0]; exact block_drewN (block_alloc (show w.drew.heap[b]? = some _ from HB.out)))
  have c0 : v0.cell? ⟨b, 3, none⟩ = some (.int .u64 (u64 x3)) := by
    rw [cell_block HB0.out]
    exact C3.out
  have f0 : v0.frozen? ⟨b, 3, none⟩ = false := free_block HB0.out _
  clear hw0
  go_wp2_with fail
  refine hK _ _ trivial ?_
  clear hK K
  refine ord_quiet rfl (fun K hK => ?_); go_simp; rw [andR0]; refine hK _ ?_; clear hK K
  refine ord_quiet rfl (fun K hK => ?_); go_simp; refine hK _ ?_; clear hK K
  refine ord_loud rfl (fun K hK => ?_)
  go_wp2_with fail
  refine hK _ _ trivial ?_
  clear hK K
  refine ord_last ?_
  have HS0 := Lib.hid (block_set (i := 3) (v := .int .u64 (u64 (w64 (key.take 8) &&& 1152921487695413247))) HB0.out)
  have HE0 : Hid (Keeps (fun q => q = b) w (v0.setCell ⟨b, 3, none⟩ (.int .u64 (u64 (w64 (key.take 8) &&& 1152921487695413247))))) := Lib.hid (HF0.out.own _)
  clear c0 f0 HB0 HF0
  go_wp2_with fail
  refine wp_region_ord (fun _ => True) [(0, true), (1, true), (2, true), (3, true), (4, true), (7, true), (8, true), (5, false), (6, true), (9, true), (10, false)] (by kernel_rfl) (by kernel_rfl) trivial ?_
  iterate 7 (refine ord_quiet rfl (fun K hK => ?_); go_simp; refine hK _ ?_; clear hK K)
  refine ord_loud rfl (fun K hK => ?_)
  go_wp2_with fail
  refine (le_Uint64_c bk 8 8 _ ((key.drop 8).take 8) _ L1 (by decide) ((HK.out.keeps (HE0.out.drew) HN.out).sub 8 8)).mono ?_
  rintro e v1 ⟨rfl, m1, hw1⟩
  have HF1 : Hid (Keeps (fun q => q = b) w v1) := Lib.hid (by rw [hw1]; exact ((HE0.out.drew).alloc _).drewN _)
  have HB1 : Hid (v1.heap[b]? = some (.cells _ T (0, 0))) := Lib.hid (by rw [hw1]; exact block_drewN (block_alloc (show (v0.setCell ⟨b, 3, none⟩ (.int .u64 (u64 (w64 (key.take 8) &&& 1152921487695413247)))).drew.heap[b]? = some _ from HS0.out)))
  have c1 : v1.cell? ⟨b, 4, none⟩ = some (.int .u64 (u64 x4)) := by
    rw [cell_block HB1.out]
    simp only [Array.getElem?_setIfInBounds_ne (show 3 ≠ 4 by decide)]; exact C4.out
  have f1 : v1.frozen? ⟨b, 4, none⟩ = false := free_block HB1.out _
  clear hw1
  go_wp2_with fail
  refine hK _ _ trivial ?_
  clear hK K
  refine ord_quiet rfl (fun K hK => ?_); go_simp; rw [andR1]; refine hK _ ?_; clear hK K
  refine ord_quiet rfl (fun K hK => ?_); go_simp; refine hK _ ?_; clear hK K
  refine ord_loud rfl (fun K hK => ?_)
  go_wp2_with fail
  refine hK _ _ trivial ?_
  clear hK K
  refine ord_last ?_
  have HS1 := Lib.hid (block_set (i := 4) (v := .int .u64 (u64 (w64 ((key.drop 8).take 8) &&& 1152921487695413244))) HB1.out)
  have HE1 : Hid (Keeps (fun q => q = b) w (v1.setCell ⟨b, 4, none⟩ (.int .u64 (u64 (w64 ((key.drop 8).take 8) &&& 1152921487695413244))))) := Lib.hid (HF1.out.own _)
  clear c1 f1 HB1 HF1
  go_wp2_with fail
  refine wp_region_ord (fun _ => True) [(0, true), (1, true), (2, true), (3, true), (4, true), (6, true), (7, true), (5, false), (8, true), (9, false)] (by kernel_rfl) (by kernel_rfl) trivial ?_
  iterate 7 (refine ord_quiet rfl (fun K hK => ?_); go_simp; refine hK _ ?_; clear hK K)
  refine ord_loud rfl (fun K hK => ?_)
  go_wp2_with fail
  refine (le_Uint64_c bk 16 8 _ ((key.drop 16).take 8) _ L2 (by decide) ((HK.out.keeps (HE1.out.drew) HN.out).sub 16 8)).mono ?_
  rintro e v2 ⟨rfl, m2, hw2⟩
  have HF2 : Hid (Keeps (fun q => q = b) w v2) := Lib.hid (by rw [hw2]; exact ((HE1.out.drew).alloc _).drewN _)
  have HB2 : Hid (v2.heap[b]? = some (.cells _ T (0, 0))) := Lib.hid (by rw [hw2]; exact block_drewN (block_alloc (show (v1.setCell ⟨b, 4, none⟩ (.int .u64 (u64 (w64 ((key.drop 8).take 8) &&& 1152921487695413244)))).drew.heap[b]? = some _ from HS1.out)))
  have c2 : v2.cell? ⟨b, 5, none⟩ = some (.int .u64 (u64 x5)) := by
    rw [cell_block HB2.out]
    simp only [Array.getElem?_setIfInBounds_ne (show 4 ≠ 5 by decide), Array.getElem?_setIfInBounds_ne (show 3 ≠ 5 by decide)]; exact C5.out
  have f2 : v2.frozen? ⟨b, 5, none⟩ = false := free_block HB2.out _
  clear hw2
  go_wp2_with fail
  refine hK _ _ trivial ?_
  clear hK K
  refine ord_quiet rfl (fun K hK => ?_); go_simp; refine hK _ ?_; clear hK K
  refine ord_loud rfl (fun K hK => ?_)
  go_wp2_with fail
  refine hK _ _ trivial ?_
  clear hK K
  refine ord_last ?_
  have HS2 := Lib.hid (block_set (i := 5) (v := .int .u64 (u64 (w64 ((key.drop 16).take 8)))) HB2.out)
  have HE2 : Hid (Keeps (fun q => q = b) w (v2.setCell ⟨b, 5, none⟩ (.int .u64 (u64 (w64 ((key.drop 16).take 8)))))) := Lib.hid (HF2.out.own _)
  clear c2 f2 HB2 HF2
  go_wp2_with fail
  refine wp_region_ord (fun _ => True) [(0, true), (1, true), (2, true), (3, true), (4, true), (6, true), (7, true), (5, false), (8, true), (9, false)] (by kernel_rfl) (by kernel_rfl) trivial ?_
  iterate 7 (refine ord_quiet rfl (fun K hK => ?_); go_simp; refine hK _ ?_; clear hK K)
  refine ord_loud rfl (fun K hK => ?_)
  go_wp2_with fail
  refine (le_Uint64_c bk 24 8 _ ((key.drop 24).take 8) _ L3 (by decide) ((HK.out.keeps (HE2.out.drew) HN.out).sub 24 8)).mono ?_
  rintro e v3 ⟨rfl, m3, hw3⟩
  have HF3 : Hid (Keeps (fun q => q = b) w v3) := Lib.hid (by rw [hw3]; exact ((HE2.out.drew).alloc _).drewN _)
  have HB3 : Hid (v3.heap[b]? = some (.cells _ T (0, 0))) := Lib.hid (by rw [hw3]; exact block_drewN (block_alloc (show (v2.setCell ⟨b, 5, none⟩ (.int .u64 (u64 (w64 ((key.drop 16).take 8))))).drew.heap[b]? = some _ from HS2.out)))
  have c3 : v3.cell? ⟨b, 6, none⟩ = some (.int .u64 (u64 x6)) := by
    rw [cell_block HB3.out]
    simp only [Array.getElem?_setIfInBounds_ne (show 5 ≠ 6 by decide), Array.getElem?_setIfInBounds_ne (show 3 ≠ 6 by decide), Array.getElem?_setIfInBounds_ne (show 4 ≠ 6 by decide)]; exact C6.out
  have f3 : v3.frozen? ⟨b, 6, none⟩ = false := free_block HB3.out _
  clear hw3
  go_wp2_with fail
  refine hK _ _ trivial ?_
  clear hK K
  refine ord_quiet rfl (fun K hK => ?_); go_simp; refine hK _ ?_; clear hK K
  refine ord_loud rfl (fun K hK => ?_)
  go_wp2_with fail
  refine hK _ _ trivial ?_
  clear hK K
  refine ord_last ?_
  have HS3 := Lib.hid (block_set (i := 6) (v := .int .u64 (u64 (w64 ((key.drop 24).take 8)))) HB3.out)
  have HE3 : Hid (Keeps (fun q => q = b) w (v3.setCell ⟨b, 6, none⟩ (.int .u64 (u64 (w64 ((key.drop 24).take 8)))))) := Lib.hid (HF3.out.own _)
  clear c3 f3 HB3 HF3
  go_wp2_with fail
  go_end0
  exact ⟨rfl, HS3.out, HE3.out⟩
end Go.Proofs.Ytdkhpehniciijaa
