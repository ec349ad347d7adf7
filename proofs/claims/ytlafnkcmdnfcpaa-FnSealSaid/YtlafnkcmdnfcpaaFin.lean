/-
  Contract: poly1305.finalize.
-/
import Derived.Test.YtlafnkcmdnfcpaaMulW
import Derived.Test.YtlafnkcmdnfcpaaLe64
import Derived.Test.YtlafnkcmdnfcpaaOrd
namespace Go.Proofs.Ytlafnkcmdnfcpaa
open Go Go.RowKit
theorem call_SubP0 (x : UInt64) (w : World) :
    (callFunc 94 #[.int .u64 (u64 x), .int .u64 18446744073709551611, .int .u64 0]).run Try.prog w = .ok (.value (.tuple #[.int .u64 (u64 (sbW x 18446744073709551611 false)), .int .u64 (bw (sbB x 18446744073709551611 false))])) w := call_Sub64 x 18446744073709551611 false w
theorem call_SubP1 (x : UInt64) (b : Bool) (w : World) :
    (callFunc 94 #[.int .u64 (u64 x), .int .u64 18446744073709551615, .int .u64 (bw b)]).run Try.prog w = .ok (.value (.tuple #[.int .u64 (u64 (sbW x 18446744073709551615 b)), .int .u64 (bw (sbB x 18446744073709551615 b))])) w := call_Sub64 x 18446744073709551615 b w
theorem call_SubP2 (x : UInt64) (b : Bool) (w : World) :
    (callFunc 94 #[.int .u64 (u64 x), .int .u64 3, .int .u64 (bw b)]).run Try.prog w = .ok (.value (.tuple #[.int .u64 (u64 (sbW x 3 b)), .int .u64 (bw (sbB x 3 b))])) w := call_Sub64 x 3 b w
/-- does h minus the prime fall below nought? -/
def finB (h0 h1 h2 : UInt64) : Bool := sbB h2 3 (sbB h1 18446744073709551615 (sbB h0 18446744073709551611 false))
/-- what select64 yields -/
def selW (b : Bool) (x y : UInt64) : UInt64 := if b then x else y
theorem select64_s (b : Bool) (x y : UInt64) (w : World) :
    Calls Try.prog 95 #[.int .u64 (bw b), .int .u64 (u64 x), .int .u64 (u64 y)] w fun e w' => e = .returned (.int .u64 (u64 (selW b x y))) ∧ w' = w := select64_c b x y w
def fin0 (h0 h1 h2 : UInt64) : UInt64 := selW (finB h0 h1 h2) h0 (sbW h0 18446744073709551611 false)
def fin1 (h0 h1 h2 : UInt64) : UInt64 := selW (finB h0 h1 h2) h1 (sbW h1 18446744073709551615 (sbB h0 18446744073709551611 false))
/-- both words of the authenticator -/
def out0 (h0 h1 h2 s0 : UInt64) : UInt64 := adW (fin0 h0 h1 h2) s0 false
def out1 (h0 h1 h2 s0 s1 : UInt64) : UInt64 := adW (fin1 h0 h1 h2) s1 (adB (fin0 h0 h1 h2) s0 false)
def outB (h0 h1 h2 s0 s1 : UInt64) : List UInt8 := by64 (out0 h0 h1 h2 s0) ++ by64 (out1 h0 h1 h2 s0 s1)
theorem put8_both (L : List UInt8) (x y : UInt64) (h : L.length = 16) : put8 (put8 L 0 x) 8 y = by64 x ++ by64 y := by
  match L, h with
  | [_, _, _, _, _, _, _, _, _, _, _, _, _, _, _, _], _ => rfl
attribute [local irreducible] u64 adW adB sbW sbB bW bw selW
set_option maxRecDepth 100000 in
set_option maxHeartbeats 1000000 in
theorem finalize_c (bo bs : Nat) (T : TypeId) (L : List UInt8) (h0 h1 h2 s0 s1 : UInt64) (w : World) (hbo : w.heap[bo]? = some (.cells (cells8 L) T (0, 0))) (hL : L.length = 16)
    (c0 : w.cell? ⟨bs, 0, none⟩ = some (.int .u64 (u64 h0))) (c1 : w.cell? ⟨bs, 1, none⟩ = some (.int .u64 (u64 h1))) (c2 : w.cell? ⟨bs, 2, none⟩ = some (.int .u64 (u64 h2)))
    (c5 : w.cell? ⟨bs, 5, none⟩ = some (.int .u64 (u64 s0))) (c6 : w.cell? ⟨bs, 6, none⟩ = some (.int .u64 (u64 s1))) :
    Calls Try.prog 86 #[.pointer (some ⟨bo, 0, none⟩), .pointer (some ⟨bs, 0, none⟩), .pointer (some ⟨bs, 5, none⟩)] w fun e w' =>
      e = .returned (.tuple #[]) ∧ w'.heap[bo]? = some (.cells (cells8 (outB h0 h1 h2 s0 s1)) T (0, 0)) ∧ Keeps (fun q => q = bo) w w' := by
  have HB := Lib.hid hbo
  have HL := Lib.hid hL
  have hlt : bs < w.heap.size := World.block_lt_of_cell? w _ c0
  clear hbo hL
  go_enter Try.func86, Try.ntmps86
  go_wp2
  go_quiet (fail)
  go_wp2_with (first | (go_at_call 95; refine (select64_s _ _ _ _).mono ?_; rintro e w' ⟨rfl, rfl⟩) | rw [call_SubP0] | rw [call_SubP1] | rw [call_SubP2] | rw [call_Add64_0] | rw [call_Add64])
  refine wp_region_ord (fun _ => True) [(0, true), (1, true), (2, true), (3, true), (4, true), (5, false)] (by kernel_rfl) (by kernel_rfl) trivial ?_
  iterate 5 (refine ord_quiet rfl (fun K hK => ?_); go_simp; refine hK _ ?_; clear hK K)
  refine ord_loud rfl (fun K hK => ?_)
  go_wp2_with fail
  refine (le_PutUint64_c bo 0 8 _ T L _ _ (by rw [HL.out]; decide) (by decide) (by rw [World.heap_drewN]; exact HB.out)).mono ?_
  rintro e w1 ⟨rfl, hb1, hk1⟩
  have HB1 := Lib.hid hb1
  have HK1 : Hid (Keeps (fun q => q = bo) w w1) := Lib.hid (((Keeps.refl _ w).drewN _).trans hk1)
  clear hb1 hk1
  go_wp2_with fail
  refine hK _ _ trivial ?_
  clear hK K
  refine ord_last ?_
  go_wp2_with fail
  refine wp_region_ord (fun _ => True) [(0, true), (1, true), (2, true), (3, true), (4, true), (5, false)] (by kernel_rfl) (by kernel_rfl) trivial ?_
  iterate 5 (refine ord_quiet rfl (fun K hK => ?_); go_simp; refine hK _ ?_; clear hK K)
  refine ord_loud rfl (fun K hK => ?_)
  go_wp2_with fail
  refine (le_PutUint64_c bo 8 8 _ T _ _ _ ?len (by decide) (show w1.drew.heap[bo]? = _ from HB1.out)).mono ?_
  case len => unfold put8; simp only [List.length_set]; rw [HL.out]; decide
  rintro e w2 ⟨rfl, hb2, hk2⟩
  rw [put8_both _ _ _ HL.out] at hb2
  have HB2 := Lib.hid hb2
  have HK2 : Hid (Keeps (fun q => q = bo) w w2) := Lib.hid ((HK1.out.drew).trans hk2)
  clear hb2 hk2
  go_wp2_with fail
  refine hK _ _ trivial ?_
  clear hK K
  refine ord_last ?_
  go_wp2_with fail
  go_end0
  exact ⟨rfl, HB2.out, HK2.out⟩
end Go.Proofs.Ytlafnkcmdnfcpaa
