/-
  Contract: spec.Clamped.
-/
import Derived.Test.YtdkhpehniciijaaApp
import Derived.Test.YtdkhpehniciijaaTag
namespace Go.Proofs.Ytdkhpehniciijaa
open Go Go.RowKit
/-- at these places, one behind the other, f -/
def seqSet (f : UInt8 → UInt8) : List Nat → List UInt8 → List UInt8
  | [], l => l
  | i :: is, l => seqSet f is (l.set i (f (l.getD i 0)))
theorem seqSet_len (f : UInt8 → UInt8) (is : List Nat) : ∀ l : List UInt8, (seqSet f is l).length = l.length := by
  induction is with
  | nil => intro l; rfl
  | cons i is ih => intro l; show (seqSet f is _).length = _; rw [ih, List.length_set]
theorem seqSet_snoc (f : UInt8 → UInt8) (is : List Nat) (i : Nat) : ∀ l : List UInt8, seqSet f (is ++ [i]) l = (seqSet f is l).set i (f ((seqSet f is l).getD i 0)) := by
  induction is with
  | nil => intro l; rfl
  | cons j is ih => intro l; exact ih _
theorem seqSet_nil (f : UInt8 → UInt8) (l : List UInt8) : seqSet f [] l = l := rfl
/-- the clamped bytes -/
def clampL (l : List UInt8) : List UInt8 := seqSet (· &&& 252) [4, 8, 12] (seqSet (· &&& 15) [3, 7, 11, 15] l)
theorem clampL_len (l : List UInt8) : (clampL l).length = l.length := by unfold clampL; rw [seqSet_len, seqSet_len]
theorem OwnB.set {T : TypeId} {w : World} {base g n cap : Nat} {l : List UInt8} (h : OwnB T w base (.slice (some ⟨g, 0, none⟩) n cap) l) (i : Nat) (x : UInt8) :
    OwnB T (w.setCell ⟨g, i, none⟩ (.int .u8 (u8 x))) base (.slice (some ⟨g, 0, none⟩) n cap) (l.set i x) := by
  obtain ⟨h1, h2⟩ := h
  refine ⟨by rw [vals8_len, Nat.mul_one], ?_⟩
  rcases h2 with ⟨hv, _⟩ | ⟨g', cap', cur, hv, hb, hg, e1, e2, e3, e4⟩
  · cases hv
  · injection hv with a1 a2 a3
    cases a1
    subst a3
    rw [List.length_set]
    refine Or.inr ⟨g, cap, cur.setIfInBounds i (.int .u8 (u8 x)), by rw [a2], hb, block_set hg, e1, e2, by rw [Array.size_setIfInBounds]; exact e3, ?_⟩
    rw [Array.toList_setIfInBounds, List.take_set, e4]
    unfold vals8
    rw [List.map_set]
theorem OwnB.free {T : TypeId} {w : World} {base g n cap : Nat} {l : List UInt8} (h : OwnB T w base (.slice (some ⟨g, 0, none⟩) n cap) l) (i : Nat) : w.frozen? ⟨g, i, none⟩ = false := by
  rcases h.2 with ⟨hv, _⟩ | ⟨g', cap', cur, hv, hb, hg, _⟩
  · cases hv
  · cases hv
    exact free_block hg i
theorem OwnB.cell {T : TypeId} {w : World} {base g n cap : Nat} {l : List UInt8} (h : OwnB T w base (.slice (some ⟨g, 0, none⟩) n cap) l) (i : Nat) (hi : i < l.length) : w.cell? ⟨g, i, none⟩ = some (.int .u8 (u8 (l.getD i 0))) := by
  rcases h.sl with ⟨hv, _⟩ | ⟨ad, c, hv, _, _, hc⟩
  · cases hv
  · cases hv
    have := hc i _ (vals8_get hi)
    rwa [Addr.add_lit, Nat.zero_add] at this
theorem and8_15 (x : UInt8) : bits .and .u8 (u8 x) 15 = u8 (x &&& 15) := bits_and8 x 15
theorem and8_252 (x : UInt8) : bits .and .u8 (u8 x) 252 = u8 (x &&& 252) := bits_and8 x 252
/-- the loops of Clamped -/
def ClRel (w : World) (v : Value) (gi : Nat) (f : UInt8 → UInt8) (is : List Nat) (r : List UInt8) (i : Value) (wr : World) : Prop :=
  ∃ k : Nat, k ≤ is.length ∧ i = .int .i64 k ∧ OwnB 5 wr w.heap.size v (seqSet f (is.take k) r) ∧ Fresh w wr ∧ (∀ j, j < is.length → wr.cell? ⟨gi, j, none⟩ = some (.int .i64 (is.getD j 0 : Nat))) ∧ gi < wr.heap.size
def is1 : List Nat := [3, 7, 11, 15]
def is2 : List Nat := [4, 8, 12]
theorem is1_lt (k : Nat) (h : k < 4) : is1.getD k 0 < 16 := by
  match k, h with
  | 0, _ => decide
  | 1, _ => decide
  | 2, _ => decide
  | 3, _ => decide
theorem is2_lt (k : Nat) (h : k < 3) : is2.getD k 0 < 16 := by
  match k, h with
  | 0, _ => decide
  | 1, _ => decide
  | 2, _ => decide
attribute [local irreducible] seqSet
set_option maxRecDepth 100000 in
set_option maxHeartbeats 1000000 in
theorem Clamped_c (v : Value) (r : List UInt8) (w : World) (hs : SlB w v r) (hl : r.length = 16) :
    Calls Try.prog 15 #[v] w (RetB 5 w (clampL r)) := by
  have HS := Lib.hid hs
  have HL := Lib.hid hl
  clear hs hl
  go_enter Try.func15, Try.ntmps15
  go_wp2_with (at_builtin; refine wpList_appB rfl (.tmp 8) (.tmp 9) rfl w.heap.size _ v [] r rfl rfl (World.ownsRow_lit w #[] 0 (Nat.le_refl _) (by decide) rfl) (HS.out.fresh ((Keeps.refl _ w).alloc _)) (by rw [HL.out]; decide) (by simp) ?_; intro v1 w1 hA)
  obtain ⟨hown, hkeep, -⟩ := hA
  rw [List.nil_append] at hown
  obtain ⟨g, cap, rfl, hgb, hgl⟩ := hown.form (by rw [HL.out]; decide)
  have HOWN := Lib.hid hown
  have HF1 : Hid (Fresh w w1) := Lib.hid (Fresh.then ((Keeps.refl _ w).alloc _) hkeep (fun q hq e => by omega))
  have HGB := Lib.hid hgb
  have HGN : Hid (w1.heap.size ≠ g) := Lib.hid (Nat.ne_of_gt hgl)
  clear hown hkeep
  rw [HL.out]
  go_loopw [13] (fun i wr => ClRel w (.slice (some ⟨g, 0, none⟩) 16 cap) w1.heap.size (· &&& 15) is1 r i wr) (fun i _ => 4 - (intOf i).toNat)
  case atStart =>
    refine ⟨0, Nat.zero_le _, rfl, ?_, HF1.out.alloc _, ?_, by simp⟩
    · have h := OwnB.kept HOWN.out ((Keeps.refl (fun _ => False) w1).alloc (.cells #[Value.int IntKind.i64 3, Value.int IntKind.i64 7, Value.int IntKind.i64 11, Value.int IntKind.i64 15] 3)) (fun _ _ h => h)
      rw [HL.out] at h
      rw [List.take_zero, seqSet_nil]
      exact h
    · intro j hj
      rw [World.cell?_alloc_new]
      have hj4 : j < 4 := hj
      match j, hj4 with
      | 0, _ => rfl
      | 1, _ => rfl
      | 2, _ => rfl
      | 3, _ => rfl
  case round =>
    obtain ⟨k, hk, rfl, hown, hf, hidx, hgi⟩ := hrel
    have hk' : k ≤ 4 := hk
    have HOWN := Lib.hid hown
    have HFR := Lib.hid hf
    have HIDX := Lib.hid hidx
    clear hown hf hidx hk
    by_cases hlt : k < 4
    · obtain ⟨j, hj⟩ : ∃ j : Nat, j = is1.getD k 0 := ⟨_, rfl⟩
      have hj16 : j < 16 := by rw [hj]; exact is1_lt k hlt
      have cj : wr.cell? ⟨w1.heap.size, k, none⟩ = some (.int .i64 (j : Int)) := by rw [hj]; exact HIDX.out k hlt
      have HLEN := Lib.hid (seqSet_len (· &&& 15) (is1.take k) r)
      obtain ⟨x, hx⟩ : ∃ x, x = (seqSet (· &&& 15) (is1.take k) r).getD j 0 := ⟨_, rfl⟩
      have cx : wr.cell? ⟨g, j, none⟩ = some (.int .u8 (u8 x)) := by rw [hx]; exact HOWN.out.cell j (by rw [HLEN.out, HL.out]; exact hj16)
      have fx : wr.frozen? ⟨g, j, none⟩ = false := HOWN.out.free j
      have hgw : g < wr.heap.size := World.block_lt_of_cell? wr _ cx
      have HJ := Lib.hid hj
      have HX := Lib.hid hx
      have i1 : (k : Int) < 4 := by omega
      have i2 : (j : Int) < 16 := by omega
      have i3 : (0 : Int) ≤ j := by omega
      have i4 : (0 : Int) ≤ k := by omega
      have i5 : (j : Int) < 16 ∧ (0 : Int) ≤ j := ⟨i2, i3⟩
      clear hj hx i5
      go_wp2_with (rw [and8_15])
      go_roundw
      case rel =>
        refine ⟨k + 1, hlt, by go_num, ?_, HFR.out.setCell (Or.inr HGB.out) _, fun q hq => ?_, by simpa using hgi⟩
        · have hs : is1.take (k + 1) = is1.take k ++ [j] := by rw [List.take_succ_eq_append_getElem (show k < is1.length from hlt), HJ.out]; simp [List.getD, show k < is1.length from hlt]
          rw [hs, seqSet_snoc, ← HX.out]
          exact HOWN.out.set j _
        · rw [World.cell?_setCell_other _ _ _ _ (fun e => HGN.out (congrArg Addr.block e).symm)]
          exact HIDX.out q hq
      case measure => simp [intOf]; omega
    · have K4 := Lib.hid (show k = 4 by omega)
      obtain ⟨w2, hw2⟩ : ∃ w2, w2 = wr := ⟨_, rfl⟩
      subst hw2
      have HR : Hid (OwnB 5 w2 w.heap.size (.slice (some ⟨g, 0, none⟩) 16 cap) (seqSet (· &&& 15) is1 r)) := Lib.hid (by have h := HOWN.out; rw [K4.out] at h; exact h)
      obtain ⟨r1, hr1⟩ : ∃ r1, r1 = seqSet (· &&& 15) is1 r := ⟨_, rfl⟩
      have HR1 : Hid (r1.length = 16) := Lib.hid (by rw [hr1, seqSet_len]; exact HL.out)
      rw [← hr1] at HR
      have HRE := Lib.hid hr1
      have hgl2 : g < w2.heap.size := World.block_lt_of_cell? w2 _ (HR.out.cell 0 (by rw [HR1.out]; decide))
      have HGN : Hid (w2.heap.size ≠ g) := Lib.hid (Nat.ne_of_gt hgl2)
      have HFW := HFR
      clear HOWN HFR HIDX hr1 hgi HS
      go_wp2_with fail
      go_loopw [26] (fun i wr => ClRel w (.slice (some ⟨g, 0, none⟩) 16 cap) w2.heap.size (· &&& 252) is2 r1 i wr) (fun i _ => 3 - (intOf i).toNat)
      case atStart =>
        refine ⟨0, Nat.zero_le _, rfl, ?_, HFW.out.alloc _, ?_, by simp⟩
        · rw [List.take_zero, seqSet_nil]
          exact OwnB.kept HR.out ((Keeps.refl (fun _ => False) w2).alloc _) (fun _ _ h => h)
        · intro j hj
          rw [World.cell?_alloc_new]
          have hj4 : j < 3 := hj
          match j, hj4 with
          | 0, _ => rfl
          | 1, _ => rfl
          | 2, _ => rfl
      case round =>
        obtain ⟨k, hk, rfl, hown, hf, hidx, hgi⟩ := hrel
        have hk' : k ≤ 3 := hk
        have HOWN := Lib.hid hown
        have HFR := Lib.hid hf
        have HIDX := Lib.hid hidx
        clear hown hf hidx hk
        by_cases hlt : k < 3
        · obtain ⟨j, hj⟩ : ∃ j : Nat, j = is2.getD k 0 := ⟨_, rfl⟩
          have hj16 : j < 16 := by rw [hj]; exact is2_lt k hlt
          have cj : wr.cell? ⟨w2.heap.size, k, none⟩ = some (.int .i64 (j : Int)) := by rw [hj]; exact HIDX.out k hlt
          have HLEN := Lib.hid (seqSet_len (· &&& 252) (is2.take k) r1)
          obtain ⟨x, hx⟩ : ∃ x, x = (seqSet (· &&& 252) (is2.take k) r1).getD j 0 := ⟨_, rfl⟩
          have cx : wr.cell? ⟨g, j, none⟩ = some (.int .u8 (u8 x)) := by rw [hx]; exact HOWN.out.cell j (by rw [HLEN.out, HR1.out]; exact hj16)
          have fx : wr.frozen? ⟨g, j, none⟩ = false := HOWN.out.free j
          have hgw : g < wr.heap.size := World.block_lt_of_cell? wr _ cx
          have HJ := Lib.hid hj
          have HX := Lib.hid hx
          have i1 : (k : Int) < 3 := by omega
          have i2 : (j : Int) < 16 := by omega
          have i3 : (0 : Int) ≤ j := by omega
          have i4 : (0 : Int) ≤ k := by omega
          have i5 : (j : Int) < 16 ∧ (0 : Int) ≤ j := ⟨i2, i3⟩
          clear hj hx i5
          go_wp2_with (rw [and8_252])
          go_roundw
          case rel =>
            refine ⟨k + 1, hlt, by go_num, ?_, HFR.out.setCell (Or.inr HGB.out) _, fun q hq => ?_, by simpa using hgi⟩
            · have hs : is2.take (k + 1) = is2.take k ++ [j] := by rw [List.take_succ_eq_append_getElem (show k < is2.length from hlt), HJ.out]; simp [List.getD, show k < is2.length from hlt]
              rw [hs, seqSet_snoc, ← HX.out]
              exact HOWN.out.set j _
            · rw [World.cell?_setCell_other _ _ _ _ (fun e => HGN.out (congrArg Addr.block e).symm)]
              exact HIDX.out q hq
          case measure => simp [intOf]; omega
        · have K3 := Lib.hid (show k = 3 by omega)
          go_wp2_with fail
          go_ret
          have h := HOWN.out
          rw [K3.out] at h
          refine ⟨_, rfl, ?_, HFR.out⟩
          unfold clampL
          rw [HRE.out] at h
          exact h
end Go.Proofs.Ytdkhpehniciijaa
