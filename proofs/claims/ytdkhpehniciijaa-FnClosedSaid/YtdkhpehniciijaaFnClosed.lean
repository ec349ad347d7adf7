/-
  The walk of laws.FnClosed.
-/
import Derived.Test.YtdkhpehniciijaaFnFront
namespace Go.Proofs.Ytdkhpehniciijaa
open Go Go.RowKit
attribute [local irreducible] tagK
theorem two_le : 2 ≤ maxLen := by decide
set_option maxRecDepth 100000 in
set_option maxHeartbeats 2000000 in
theorem fnClosed_c (key m more : List UInt8) (vm vf : Value) (w : World) (hl : key.length = 32) (hs : SlB w vm m) (hf : SlB w vf more) (hml : m.length ≤ 140737488351232) (hfl : more.length ≤ 140737488351232) :
    Calls Try.prog 9 #[.agg (cells8 key), vm, vf] w fun e w' => e = .returned (.bool true) ∧ Fresh w w' := by
  have HL := Lib.hid hl
  have H1 := cells8_one key
  have HKS := Lib.hid (show (cells8 key).size = 32 by rw [cells8_size, hl])
  have HS := Lib.hid hs
  have HV := Lib.hid hf
  have HML := Lib.hid hml
  have HFL := Lib.hid hfl
  clear hl hs hf hml hfl
  go_enter Try.func9, Try.ntmps9
  have HF1 : Hid (Fresh w ((w.alloc (.cells (cells8 key) 22)).alloc (.cells #[.int .u8 1] 5))) := Lib.hid (((Keeps.refl _ w).alloc _).alloc _)
  have HB1 := Lib.hid (heap_alloc2_old w (.cells (cells8 key) 22) (.cells #[.int .u8 1] 5))
  have HO1 : Hid (OwnB 5 ((w.alloc (.cells (cells8 key) 22)).alloc (.cells #[.int .u8 1] 5)) (w.heap.size + 1) (.slice (some ⟨w.heap.size + 1, 0, none⟩) 1 1) [1]) := Lib.hid (by
    have := World.ownsRow_lit (base := w.heap.size + 1) (e := 5) (size := 1) (w.alloc (.cells (cells8 key) 22)) #[Value.int .u8 1] 1 (by simp) (by decide) rfl
    rw [show (w.alloc (.cells (cells8 key) 22)).heap.size = w.heap.size + 1 by simp] at this
    exact this)
  have hsz1 : w.heap.size + 1 ≤ ((w.alloc (.cells (cells8 key) 22)).alloc (.cells #[.int .u8 1] 5)).heap.size := by simp
  have HSZ := Lib.hid hsz1
  clear hsz1
  go_wp2_with (at_builtin; refine wpList_appB rfl (.tmp 11) (.tmp 12) rfl (w.heap.size + 1) _ _ [1] more rfl rfl HO1.out (HV.out.fresh HF1.out) (by have := HFL.out; simp; omega) HSZ.out ?_; intro v2 w2 hA)
  obtain ⟨hO2, hK2, -⟩ := hA
  have HF2 : Hid (Fresh w w2) := Lib.hid (Fresh.then HF1.out hK2 (fun q hq e => by omega))
  have HB2 : Hid (w2.heap[w.heap.size]? = some (.cells (cells8 key) 22 (0, 0))) := Lib.hid (hK2.at HB1.out (by omega))
  have HS2 : Hid (SlB w2 v2 ([1] ++ more)) := Lib.hid hO2.sl
  clear hO2 hK2 HB1 HF1 HO1 HSZ
  have HF3 : Hid (Fresh w2 (w2.alloc (.cells #[.int .i64 1, .int .i64 2] 3))) := Lib.hid ((Keeps.refl _ w2).alloc _)
  have HB3 := Lib.hid (heap_alloc_new w2 (.cells #[.int .i64 1, .int .i64 2] 3))
  generalize (w2.alloc (.cells #[.int .i64 1, .int .i64 2] 3)) = w3 at HF3 HB3 ⊢
  obtain ⟨pv, cv, hvv⟩ := HS2.out.slice
  obtain ⟨nv, hnv⟩ : ∃ n, n = ([1] ++ more).length := ⟨_, rfl⟩
  rw [← hnv] at hvv
  subst hvv
  clear hnv
  go_loopw [16] (fun i wr => ∃ k : Nat, k ≤ 2 ∧ i = .int .i64 k ∧ Fresh w3 wr) (fun i _ => 2 - (intOf i).toNat)
  case atStart => exact ⟨0, by omega, rfl, Keeps.refl _ _⟩
  case round =>
    obtain ⟨k, hk, rfl, hf⟩ := hrel
    have HF := Lib.hid hf
    clear hf
    have HFW : Hid (Fresh w wr) := Lib.hid ((HF2.out.trans HF3.out).trans HF.out)
    have HBW := Lib.hid (HF.out.at (HF3.out.at HB2.out))
    have HSW := Lib.hid (HS2.out.fresh (HF3.out.trans HF.out))
    have HBI := Lib.hid (HF.out.at HB3.out)
    have c0 : wr.cell? ⟨w2.heap.size, 0, none⟩ = some (.int .i64 1) := by rw [cell_block HBI.out]; rfl
    have c1 : wr.cell? ⟨w2.heap.size, 1, none⟩ = some (.int .i64 2) := by rw [cell_block HBI.out]; rfl
    have hk3 : k = 0 ∨ k = 1 ∨ k = 2 := by omega
    rcases hk3 with rfl | rfl | rfl
    · go_wp2_with (refine wpList_load_row rfl 22 (.tmp 3) rfl w.heap.size rfl 22 (cells8 key) (0, 0) _ HBW.out Try.underlying22 rfl ?_ ?_; (rw [HKS.out]; exact info32B))
      have HF5 : Hid (Fresh wr (wr.alloc (.cells #[Value.int .i64 1, .slice none 0 0, .int .i64 0, .slice pv nv cv] TCl))) := Lib.hid ((Keeps.refl _ wr).alloc _)
      have HB5 := Lib.hid (heap_alloc_new wr (.cells #[Value.int .i64 1, .slice none 0 0, .int .i64 0, .slice pv nv cv] TCl))
      generalize (wr.alloc (.cells #[Value.int .i64 1, .slice none 0 0, .int .i64 0, .slice pv nv cv] TCl)) = w5 at HF5 HB5 ⊢
      refine (told_c key m [(.slice none 0 0, ⟨1, []⟩), (.slice pv nv cv, ⟨0, [1] ++ more⟩)] vm _ w5 HL.out (HS.out.fresh (HFW.out.trans HF5.out)) (by have := HML.out; omega) (CallsL.lit [(.slice none 0 0, ⟨1, []⟩), (.slice pv nv cv, ⟨0, [1] ++ more⟩)] HB5.out rfl two_le (by
        intro q hq
        simp only [List.mem_cons, List.not_mem_nil, or_false] at hq
        rcases hq with rfl | rfl
        · exact SlB.nil _
        · exact HSW.out.fresh HF5.out)) (by simp) (by simp) (by
        intro q hq
        simp only [List.mem_cons, List.not_mem_nil, or_false] at hq
        rcases hq with rfl | rfl
        · exact Nat.zero_le _
        · have := HFL.out
          show ([1] ++ more).length ≤ _
          simp
          omega) rfl).mono ?_
      rintro e w6 ⟨v, ps, rfl, ha, hp, hf⟩
      have hp' : ps.map (·.2) = [⟨[] ++ tagK key m, 0, false, false⟩, ⟨[], 0, false, true⟩] := hp
      obtain ⟨v0, ps1, rfl, hp0⟩ := ans_cons hp'
      obtain ⟨v1, ps2, rfl, hp1⟩ := ans_cons hp0
      obtain rfl := ans_nil hp1
      obtain ⟨g, o, c, rfl, -, -, hlie⟩ := ha.form (by simp)
      obtain ⟨-, -, -, x0⟩ := AnsL.at (i := 0) hlie rfl
      obtain ⟨-, -, -, x1⟩ := AnsL.at (i := 1) hlie rfl
      simp only [Nat.zero_mul, Nat.add_zero, Nat.add_assoc, Nat.reduceMul, Nat.reduceAdd] at x0 x1
      have HF6 := Lib.hid ((HF.out.trans HF5.out).trans hf)
      clear hp hp' hp0 hp1 ha hlie hf
      simp only [List.length_cons, List.length_nil]
      have hnot : ∀ (x : Bool) (w : World), (Op.unary .not (.bool x)).run Try.prog w = .ok (.bool (!x)) w := fun _ _ => rfl
      go_wp2_with fail
      go_roundw
      case rel => exact ⟨1, by omega, by go_num, HF6.out⟩
      case measure => simp [intOf]
    · go_wp2_with (refine wpList_load_row rfl 22 (.tmp 3) rfl w.heap.size rfl 22 (cells8 key) (0, 0) _ HBW.out Try.underlying22 rfl ?_ ?_; (rw [HKS.out]; exact info32B))
      have HF5 : Hid (Fresh wr (wr.alloc (.cells #[Value.int .i64 2, .slice none 0 0, .int .i64 0, .slice pv nv cv] TCl))) := Lib.hid ((Keeps.refl _ wr).alloc _)
      have HB5 := Lib.hid (heap_alloc_new wr (.cells #[Value.int .i64 2, .slice none 0 0, .int .i64 0, .slice pv nv cv] TCl))
      generalize (wr.alloc (.cells #[Value.int .i64 2, .slice none 0 0, .int .i64 0, .slice pv nv cv] TCl)) = w5 at HF5 HB5 ⊢
      refine (told_c key m [(.slice none 0 0, ⟨2, []⟩), (.slice pv nv cv, ⟨0, [1] ++ more⟩)] vm _ w5 HL.out (HS.out.fresh (HFW.out.trans HF5.out)) (by have := HML.out; omega) (CallsL.lit [(.slice none 0 0, ⟨2, []⟩), (.slice pv nv cv, ⟨0, [1] ++ more⟩)] HB5.out rfl two_le (by
        intro q hq
        simp only [List.mem_cons, List.not_mem_nil, or_false] at hq
        rcases hq with rfl | rfl
        · exact SlB.nil _
        · exact HSW.out.fresh HF5.out)) (by simp) (by simp) (by
        intro q hq
        simp only [List.mem_cons, List.not_mem_nil, or_false] at hq
        rcases hq with rfl | rfl
        · exact Nat.zero_le _
        · have := HFL.out
          show ([1] ++ more).length ≤ _
          simp
          omega) rfl).mono ?_
      rintro e w6 ⟨v, ps, rfl, ha, hp, hf⟩
      have hp' : ps.map (·.2) = [⟨[], 0, decide ([] = tagK key m), false⟩, ⟨[], 0, false, true⟩] := hp
      obtain ⟨v0, ps1, rfl, hp0⟩ := ans_cons hp'
      obtain ⟨v1, ps2, rfl, hp1⟩ := ans_cons hp0
      obtain rfl := ans_nil hp1
      obtain ⟨g, o, c, rfl, -, -, hlie⟩ := ha.form (by simp)
      obtain ⟨-, -, -, x0⟩ := AnsL.at (i := 0) hlie rfl
      obtain ⟨-, -, -, x1⟩ := AnsL.at (i := 1) hlie rfl
      simp only [Nat.zero_mul, Nat.add_zero, Nat.add_assoc, Nat.reduceMul, Nat.reduceAdd] at x0 x1
      have HF6 := Lib.hid ((HF.out.trans HF5.out).trans hf)
      clear hp hp' hp0 hp1 ha hlie hf
      simp only [List.length_cons, List.length_nil]
      have hnot : ∀ (x : Bool) (w : World), (Op.unary .not (.bool x)).run Try.prog w = .ok (.bool (!x)) w := fun _ _ => rfl
      go_wp2_with fail
      go_roundw
      case rel => exact ⟨2, by omega, by go_num, HF6.out⟩
      case measure => simp [intOf]
    · go_wp2_with fail
      go_ret
      exact ⟨rfl, HFW.out⟩
end Go.Proofs.Ytdkhpehniciijaa
