/-
  The walk of laws.FnLengths.
-/
import Derived.Test.YtdkhpehniciijaaFnFront
import Derived.Test.YtdkhpehniciijaaFnClamp
namespace Go.Proofs.Ytdkhpehniciijaa
open Go Go.RowKit
attribute [local irreducible] tagK
theorem two_le' : 2 ≤ maxLen := by decide
theorem rem16 (x : UInt8) : (u8 x).tmod 16 = ((x.toNat % 16 : Nat) : Int) := by
  unfold u8
  rw [Int.tmod_eq_emod_of_nonneg (by omega)]
  omega
theorem take_ne (t : List UInt8) (k : Nat) (h : t.length = 16) (hk : k < 16) : decide (t.take k = t) = false := by
  apply decide_eq_false
  intro e
  have := congrArg List.length e
  rw [List.length_take, h] at this
  omega
theorem more_eq (t more : List UInt8) : decide (t ++ more = t) = decide (more.length = 0) := by
  by_cases h : more = []
  · subst h; simp
  · have : more.length ≠ 0 := fun e => h (List.eq_nil_of_length_eq_zero e)
    simp [h, this]
set_option maxRecDepth 100000 in
set_option maxHeartbeats 2000000 in
theorem fnLengths_c (key m more : List UInt8) (x : UInt8) (vm vf : Value) (w : World) (hl : key.length = 32) (hs : SlB w vm m) (hf : SlB w vf more) (hml : m.length ≤ 140737488351232) (hfl : more.length ≤ 140737488351232) :
    Calls Try.prog 13 #[.agg (cells8 key), vm, .int .u8 (u8 x), vf] w fun e w' => e = .returned (.bool true) ∧ Fresh w w' := by
  have HL := Lib.hid hl
  have H1 := cells8_one key
  have HKS := Lib.hid (show (cells8 key).size = 32 by rw [cells8_size, hl])
  have HTS := Lib.hid (show (cells8 (tagK key m)).size = 16 by rw [cells8_size, tagK_length])
  obtain ⟨pf, cf, rfl⟩ := hf.slice
  have HS := Lib.hid hs
  have HV := Lib.hid hf
  have HML := Lib.hid hml
  have HFL := Lib.hid hfl
  clear hl hs hf hml hfl
  obtain ⟨k, hk⟩ : ∃ k, k = x.toNat % 16 := ⟨_, rfl⟩
  have hk16 : k < 16 := by omega
  have hr := rem16 x
  rw [← hk] at hr
  have hw64 : IntKind.i64.wrap (u8 x) = u8 x := by
    have h1 : 0 ≤ u8 x ∧ u8 x ≤ 255 := by unfold u8; have := x.toNat_lt; omega
    rw [IntKind.wrap_i64]
    omega
  have hk0 : (k : Int) ≤ 16 := by omega
  have hk1 : ¬ ((k : Int) < 0) := by omega
  clear hk
  go_enter Try.func13, Try.ntmps13
  go_wp2_with (refine wpList_load_row rfl 22 (.tmp 4) rfl w.heap.size rfl 22 (cells8 key) (0, 0) _ (heap_alloc_new w _) Try.underlying22 rfl ?_ ?_; (rw [HKS.out]; exact info32B))
  have HF1 : Hid (Fresh w (w.alloc (.cells (cells8 key) 22))) := Lib.hid ((Keeps.refl _ w).alloc _)
  have HB1 := Lib.hid (heap_alloc_new w (.cells (cells8 key) 22))
  refine (Tag_c vm m key _ (HS.out.fresh HF1.out) HL.out).mono ?_
  rintro e w2 ⟨rfl, hf⟩
  have HF2 : Hid (Fresh w w2) := Lib.hid (HF1.out.trans hf)
  have HB2 := Lib.hid (hf.at HB1.out)
  clear hf HF1 HB1
  go_wp2_with (refine wpList_store_row rfl 25 (.tmp 9) (.tmp 14) rfl w2.heap.size (cells8 (tagK key m)) rfl rfl 25 _ (heap_alloc_new w2 _) ?_ ?_ (cells8_one _) ?_; (rw [HTS.out]; exact info16B); (rw [HTS.out]; rfl))
  have HB4 := Lib.hid (row_heap (cs := cells8 (tagK key m)) (heap_alloc_new w2 (.cells (cells8 (List.replicate 16 0)) 25)))
  have HF4 : Hid (Fresh w2 ((w2.alloc (.cells (cells8 (List.replicate 16 0)) 25)).setRow w2.heap.size (cells8 (tagK key m)))) := Lib.hid (((Keeps.refl _ w2).alloc _).setRow (Or.inr (Nat.le_refl _)) _)
  rw [cells8_zeros16] at HB4 HF4
  generalize ((w2.alloc _).setRow w2.heap.size (cells8 (tagK key m))) = w4 at HB4 HF4 ⊢
  simp only [Act.put]
  have HBK := Lib.hid (HF4.out.at HB2.out)
  have HF5 : Hid (Fresh w w4.drew) := Lib.hid (HF2.out.trans HF4.out).drew
  refine wp_region_ord (fun w' => w'.heap[w.heap.size]? = some (.cells (cells8 key) 22 (0, 0))) [(0, true), (1, true), (2, true), (3, true), (4, true), (5, true), (6, true), (8, true), (10, true), (7, false), (9, false), (11, false), (12, true), (13, false), (14, false), (15, true), (16, true), (17, true), (18, true), (19, true)] (by kernel_rfl) (by kernel_rfl) HBK.out ?_
  refine ord_load (.agg (cells8 key)) rfl (by rfl) (fun w' hw' => exec_load_row _ _ rfl w.heap.size rfl _ _ _ hw' Try.underlying22 rfl (by rw [HKS.out]; exact info32B)) ?_
  iterate 8 (refine ord_quiet rfl (fun K hK => ?_); go_simp; refine hK _ ?_; clear hK K)
  refine ord_loud rfl (fun K hK => ?_)
  go_wp2_with fail
  obtain ⟨w5, hw5⟩ : ∃ w5, w5 = (w4.alloc (.cells #[] 5)).drew := ⟨_, rfl⟩
  have HX5 : Hid (Fresh w4 w5) := Lib.hid (by rw [hw5]; exact ((Keeps.refl _ w4).alloc _).drew)
  have HO5 : Hid (OwnB 5 w5 w4.heap.size (.slice (some ⟨w4.heap.size, 0, none⟩) 0 0) []) := Lib.hid (by
    rw [hw5]
    exact World.ownsRow_lit w4 #[] 0 (Nat.le_refl _) (by decide) rfl)
  have hsz5 : w4.heap.size ≤ w5.heap.size := HX5.out.size
  rw [← hw5]
  clear hw5
  refine hK _ _ (HX5.out.at HBK.out) ?_
  clear hK K
  refine ord_loud rfl (fun K hK => ?_)
  refine wpList_appB rfl (.tmp 23) (.tmp 24) rfl w4.heap.size _ _ [] (tagK key m) rfl rfl HO5.out (SlB.all16 (HX5.out.at HB4.out) (tagK_length _ _)) (by rw [tagK_length, List.length_nil]; decide) hsz5 ?_
  rintro v6 w6 ⟨hO6, hK6, -⟩
  rw [List.nil_append] at hO6
  have HX6 : Hid (Fresh w4 w6) := Lib.hid (Fresh.then HX5.out hK6 (fun q hq e => by omega))
  have HO6 : Hid (OwnB 5 w6 w4.heap.size v6 (tagK key m)) := Lib.hid hO6
  have hsz6 : w4.heap.size ≤ w6.heap.size := HX6.out.size
  clear hO6 hK6
  go_wp2_with fail
  refine hK _ _ (HX6.out.at HBK.out) ?_
  clear hK K
  refine ord_loud rfl (fun K hK => ?_)
  refine wpList_appB rfl (.tmp 25) (.tmp 26) rfl w4.heap.size _ _ (tagK key m) more rfl rfl HO6.out (HV.out.fresh ((HF2.out.trans HF4.out).trans HX6.out)) (by have := HFL.out; rw [tagK_length]; omega) hsz6 ?_
  rintro v7 w7 ⟨hO7, hK7, -⟩
  have HX7 : Hid (Fresh w4 w7) := Lib.hid (Fresh.then HX6.out hK7 (fun q hq e => by omega))
  have HS7 : Hid (SlB w7 v7 (tagK key m ++ more)) := Lib.hid hO7.sl
  obtain ⟨pv, cv, hvv⟩ := hO7.sl.slice
  obtain ⟨nv, hnv⟩ : ∃ n, n = (tagK key m ++ more).length := ⟨_, rfl⟩
  rw [← hnv] at hvv
  subst hvv
  clear hnv hO7 hK7
  go_wp2_with fail
  refine hK _ _ (HX7.out.at HBK.out) ?_
  clear hK K
  refine ord_quiet rfl (fun K hK => ?_); go_simp; refine hK _ ?_; clear hK K
  refine ord_loud rfl (fun K hK => ?_)
  go_wp2_with fail
  have HF8 : Hid (Fresh w7 (w7.alloc (.cells #[.int .i64 2, Value.slice (some ⟨w2.heap.size, 0, none⟩) k 16, .int .i64 2, .slice pv nv cv] TCl))) := Lib.hid ((Keeps.refl _ w7).alloc _)
  have HB8 := Lib.hid (heap_alloc_new w7 (.cells #[.int .i64 2, Value.slice (some ⟨w2.heap.size, 0, none⟩) k 16, .int .i64 2, .slice pv nv cv] TCl))
  generalize (w7.alloc (.cells #[.int .i64 2, Value.slice (some ⟨w2.heap.size, 0, none⟩) k 16, .int .i64 2, .slice pv nv cv] TCl)) = w8 at HF8 HB8 ⊢
  have HX8 : Hid (Fresh w4 w8) := Lib.hid (HX7.out.trans HF8.out)
  have HFW : Hid (Fresh w w8) := Lib.hid ((HF2.out.trans HF4.out).trans HX8.out)
  refine hK _ _ (HX8.out.at HBK.out) ?_
  clear hK K
  have HT8 : Hid (SlB w8 (.slice (some ⟨w2.heap.size, 0, none⟩) k 16) ((tagK key m).take k)) := Lib.hid (by
    have := SlB.pre (k := k) (HX8.out.at HB4.out) (by rw [tagK_length]; omega) (by rw [tagK_length]; decide)
    rw [tagK_length] at this
    exact this)
  refine ord_loud rfl (fun K hK => ?_)
  go_wp2_with fail
  refine (told_c key m [(.slice (some ⟨w2.heap.size, 0, none⟩) k 16, ⟨2, (tagK key m).take k⟩), (.slice pv nv cv, ⟨2, tagK key m ++ more⟩)] vm _ w8 HL.out (HS.out.fresh HFW.out) (by have := HML.out; omega) (CallsL.lit [(.slice (some ⟨w2.heap.size, 0, none⟩) k 16, ⟨2, (tagK key m).take k⟩), (.slice pv nv cv, ⟨2, tagK key m ++ more⟩)] HB8.out rfl two_le' (by
    intro q hq
    simp only [List.mem_cons, List.not_mem_nil, or_false] at hq
    rcases hq with rfl | rfl
    · exact HT8.out
    · exact HS7.out.fresh HF8.out)) (by simp) (by simp) (by
    intro q hq
    simp only [List.mem_cons, List.not_mem_nil, or_false] at hq
    rcases hq with rfl | rfl
    · show ((tagK key m).take k).length ≤ _
      rw [List.length_take]; omega
    · have := HFL.out
      show (tagK key m ++ more).length ≤ _
      rw [List.length_append, tagK_length]
      omega) rfl).mono ?_
  rintro e w9 ⟨v, ps, rfl, ha, hp, hf⟩
  have hp' : ps.map (·.2) = [⟨[], 0, decide ((tagK key m).take k = tagK key m), false⟩, ⟨[], 0, decide (tagK key m ++ more = tagK key m), false⟩] := hp
  rw [take_ne _ _ (tagK_length _ _) hk16, more_eq] at hp'
  obtain ⟨v0, ps1, rfl, hp0⟩ := ans_cons hp'
  obtain ⟨v1, ps2, rfl, hp1⟩ := ans_cons hp0
  obtain rfl := ans_nil hp1
  obtain ⟨g, o, c, rfl, -, -, hlie⟩ := ha.form (by simp)
  obtain ⟨-, -, x0, -⟩ := AnsL.at (i := 0) hlie rfl
  obtain ⟨-, -, x1, -⟩ := AnsL.at (i := 1) hlie rfl
  simp only [Nat.zero_mul, Nat.add_zero, Nat.add_assoc, Nat.reduceMul, Nat.reduceAdd] at x0 x1
  have HF9 := Lib.hid (HFW.out.trans hf)
  have HBK9 := Lib.hid (hf.at (HX8.out.at HBK.out))
  clear hp hp' hp0 hp1 ha hlie hf
  simp only [List.length_cons, List.length_nil]
  go_wp2_with fail
  refine hK _ _ HBK9.out ?_
  clear hK K
  iterate 5 (refine ord_quiet rfl (fun K hK => ?_); go_simp; refine hK _ ?_; clear hK K)
  refine ord_last ?_
  have hnot : ∀ (x : Bool) (w : World), (Op.unary .not (.bool x)).run Try.prog w = .ok (.bool (!x)) w := fun _ _ => rfl
  by_cases hm0 : more.length = 0
  · rw [decide_eq_true hm0] at x1
    rw [hm0]
    go_wp2_with fail
    go_ret
    exact ⟨rfl, HF9.out⟩
  · rw [decide_eq_false hm0] at x1
    have hm1 : ((more.length : Int) == 0) = false := by simp; intro e; exact hm0 (by rw [e]; rfl)
    clear hm0
    go_wp2_with fail
    go_ret
    exact ⟨rfl, HF9.out⟩
end Go.Proofs.Ytdkhpehniciijaa
