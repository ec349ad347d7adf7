/-
  The walk of laws.FnDerive: it returns true for every two slices of bytes, and writes nothing old.
-/
import Derived.Test.YtaapglpnofmmlaaDerive2
import Derived.Test.YtaapglpnofmmlaaStr
namespace Go.Proofs.Ytaapglpnofmmlaa
open Go Go.RowKit
attribute [local irreducible] Cha.iter Cha.rounds Cha.dbl Cha.qr
/-- true is returned, nothing old is written -/
def RetTrue (w : World) (e : Ending) (w' : World) : Prop := e = .returned (.bool true) ∧ Fresh w w'
theorem fnDerive_bad (a1 a2 : Option Addr) (c1 c2 : Nat) (l1 l2 : List UInt8) (w : World) (h1 : SlB w (.slice a1 l1.length c1) l1) (h2 : SlB w (.slice a2 l2.length c2) l2) (b1 : l1.length ≤ 140737488351232) (b2 : l2.length ≤ 140737488351232) (h : ¬ l1.length = 32 ∨ ¬ l2.length = 16) :
    Calls Try.prog 3 #[.slice a1 l1.length c1, .slice a2 l2.length c2] w (RetTrue w) := by
  have HD := Lib.hid (derive_bad (.slice a1 l1.length c1) (.slice a2 l2.length c2) l1 l2 w h1 h2 b1 b2 h)
  clear h1 h2
  by_cases hk : l1.length = 32
  · have hb1 : ((l1.length : Int) != 32) = false := by rw [hk]; rfl
    have hb2 : ((l2.length : Int) != 16) = true := by rw [bne_iff_ne]; omega
    have HK := Lib.hid hk
    clear hk h
    go_enter Try.func3, Try.ntmps3
    go_wp2_with fail
    refine HD.out.mono ?_
    rintro e w1 ⟨rfl, hf1⟩
    go_wp2
    go_ret
    exact ⟨rfl, hf1⟩
  · have hb1 : ((l1.length : Int) != 32) = true := by rw [bne_iff_ne]; omega
    clear h
    go_enter Try.func3, Try.ntmps3
    go_wp2_with fail
    refine HD.out.mono ?_
    rintro e w1 ⟨rfl, hf1⟩
    go_wp2
    go_ret
    exact ⟨rfl, hf1⟩
set_option maxHeartbeats 1000000 in
theorem fnDerive_good (bk ok ck bn on cn : Nat) (l1 l2 : List UInt8) (w : World) (hk : l1.length = 32) (hn : l2.length = 16) (h1 : BytesAt w bk ok l1) (h2 : BytesAt w bn on l2)
    (s1 : SlB w (.slice (some ⟨bk, ok, none⟩) 32 ck) l1) (s2 : SlB w (.slice (some ⟨bn, on, none⟩) 16 cn) l2) :
    Calls Try.prog 3 #[.slice (some ⟨bk, ok, none⟩) 32 ck, .slice (some ⟨bn, on, none⟩) 16 cn] w (RetTrue w) := by
  have HD := Lib.hid (derive_good _ _ l1 l2 w s1 s2 hk hn)
  have HH := Lib.hid (fun w' => hash_c bk ok 32 ck bn on 16 cn l1 l2 w' hk hn rfl rfl)
  have H1 := Lib.hid h1
  have H2 := Lib.hid h2
  clear h1 h2 s1 s2 hk hn
  go_enter Try.func3, Try.ntmps3
  go_wp2_with fail
  refine HD.out.mono ?_
  rintro e w1 ⟨v, rfl, ho, hf⟩
  have HO := Lib.hid ho
  have HF := Lib.hid hf
  clear ho hf HD
  go_wp2_with fail
  refine wp_region_ord (fun w' => SlB w' v (hashL l1 l2)) [(0, true), (1, true), (2, true), (4, true), (5, true), (3, true), (6, false), (7, false), (8, true), (9, true), (10, false)] (by kernel_rfl) (by kernel_rfl) (HO.out.sl.fresh (Keeps.refl _ w1).drew) ?_
  iterate 5
    refine ord_quiet rfl (fun K hK => ?_)
    go_simp
    refine hK _ ?_
    clear hK K
  refine ord_load (.string (strB (hashL l1 l2))) rfl rfl ?_ ?_
  · intro w' hw'
    have hr := run_strB w' v _ hw'
    go_simp
  simp only [Act.put, List.setIfInBounds_toArray]
  refine ord_loud rfl (fun K hK => ?_)
  go_wp2_with fail
  refine (HH.out _ (H1.out.keeps HF.out.drew (fun x => x)) (H2.out.keeps HF.out.drew (fun x => x))).mono ?_
  rintro e w2 ⟨v2, rfl, ho2, hf2⟩
  have HF2 := Lib.hid hf2
  have hr2 := run_strB w2 v2 _ ho2.sl
  clear ho2 hf2
  go_wp2_with fail
  have hS := (HO.out.sl.fresh (Keeps.refl _ w1).drew).fresh HF2.out
  refine hK _ _ hS ?_
  clear hK K
  have HS := Lib.hid hS
  clear hS
  refine ord_loud rfl (fun K hK => ?_)
  go_wp2_with fail
  refine hK _ _ HS.out ?_
  clear hK K
  iterate 2
    refine ord_quiet rfl (fun K hK => ?_)
    go_simp
    refine hK _ ?_
    clear hK K
  refine ord_loud rfl (fun K hK => ?_)
  go_wp2_with fail
  refine hK _ _ HS.out ?_
  clear hK K
  refine ord_last ?_
  go_wp2
  go_ret
  exact ⟨rfl, (HF.out.drew).trans HF2.out⟩
end Go.Proofs.Ytaapglpnofmmlaa
