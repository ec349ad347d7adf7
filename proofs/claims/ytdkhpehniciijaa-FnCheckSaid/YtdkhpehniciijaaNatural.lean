/-
  Contracts: spec.natural, spec.plus.
-/
import Derived.Test.YtdkhpehniciijaaInts
namespace Go.Proofs.Ytdkhpehniciijaa
open Go Go.RowKit
/-- what is returned reads as these digits; nothing old is written -/
def RetI (w : World) (l : List Nat) (e : Ending) (w' : World) : Prop := ∃ v, e = .returned v ∧ SlI w' v l ∧ Fresh w w'
def NatRel (w : World) (l : List UInt8) (v i : Value) (wr : World) : Prop :=
  ∃ k : Nat, k ≤ l.length ∧ i = .int .i64 k ∧ OwnI wr w.heap.size v ((l.take k).map UInt8.toNat) ∧ Fresh w wr
theorem small_bytes8 (l : List UInt8) : Dig.Small (l.map UInt8.toNat) := by
  intro d hd
  obtain ⟨x, -, rfl⟩ := List.mem_map.1 hd
  exact x.toNat_lt
set_option maxRecDepth 100000 in
set_option maxHeartbeats 1000000 in
theorem natural_c (vb : Value) (l : List UInt8) (w : World) (hs : SlB w vb l) (hl : l.length ≤ 100000) :
    Calls Try.prog 25 #[vb] w (RetI w (Dig.dig (Dig.val (l.map UInt8.toNat)))) := by
  have HS := Lib.hid hs
  obtain ⟨p, c, rfl⟩ : ∃ p c, vb = .slice p l.length c := by
    rcases hs with ⟨rfl, rfl⟩ | ⟨ad, c, rfl, -⟩
    · exact ⟨_, _, rfl⟩
    · exact ⟨_, _, rfl⟩
  clear hs
  go_enter Try.func25, Try.ntmps25
  go_wp2_with fail
  go_loopw [3, 9] (fun v i wr => NatRel w l v i wr) (fun _ i _ => l.length - (intOf i).toNat)
  case atStart => exact ⟨0, Nat.zero_le _, rfl, World.ownsRow_lit w #[] 0 (Nat.le_refl _) (by decide) rfl, (Keeps.refl _ w).alloc _⟩
  case round =>
    obtain ⟨k, hk, rfl, hown, hf⟩ := hrel
    have HOWN := Lib.hid hown
    have HF := Lib.hid hf
    clear hown hf
    by_cases hlt : k < l.length
    · obtain ⟨b, o, cc, e, -, -, hbl, hc⟩ := HS.out.form (by omega)
      obtain ⟨rfl, rfl⟩ : p = some ⟨b, o, none⟩ ∧ c = cc := by injection e with a1 a2 a3; exact ⟨a1, a3⟩
      clear e
      obtain ⟨x, hx⟩ : ∃ x, x = l.getD k 0 := ⟨_, rfl⟩
      have cx : wr.cell? ⟨b, o + k, none⟩ = some (.int .u8 (u8 x)) := by rw [hx]; exact HF.out.cellAt (hc k hlt) (fun x => x)
      have HX := Lib.hid hx
      have i1 : (k : Int) < l.length := by omega
      have x0 := u8_nonneg x
      have x1 := u8_lt x
      have HLT : Hid (((l.take k).map UInt8.toNat).length ≤ 1000000) := Lib.hid (by rw [List.length_map, List.length_take]; exact Nat.le_trans (Nat.min_le_right _ _) (by omega))
      clear hc hx
      go_wp2_with (at_builtin; refine wpList_appI rfl (.tmp 13) (.tmp 16) rfl w.heap.size _ ((l.take k).map UInt8.toNat) x.toNat wr.heap.size rfl rfl (OwnI.kept HOWN.out ((Keeps.refl (fun _ => False) wr).alloc _) (fun _ _ h => h)) (heap_alloc_new wr _) HLT.out (by have := HF.out.size; simp; omega) ?_; intro v' w1 HO HK)
      refine ⟨⟨k + 1, hlt, by go_num, ?_, ?_⟩, by simp [intOf]; omega⟩
      · have e : (l.take (k + 1)).map UInt8.toNat = (l.take k).map UInt8.toNat ++ [x.toNat] := by
          rw [List.take_succ_eq_append_getElem hlt, List.map_append, HX.out]
          simp [List.getD, hlt]
        rw [e]
        exact HO.out
      · exact HF.out.then (((Keeps.refl _ wr).alloc _).trans HK.out) (fun q hq h => by omega)
    · have HK := Lib.hid (show k = l.length by omega)
      go_wp2_with fail
      refine (short_c _ _ wr HOWN.out.sl).mono ?_
      rintro e w1 ⟨v', rfl, hs', rfl⟩
      have HS' := Lib.hid hs'
      clear hs'
      go_wp2_with fail
      go_ret
      refine ⟨_, rfl, ?_, HF.out⟩
      have h := HS'.out
      rw [HK.out, List.take_length, Dig.strip_eq_dig _ (small_bytes8 l)] at h
      exact h
/-- the loop of plus: k digits are made, the carry is q -/
def PlusRel (w : World) (la lb : List Nat) (v q i : Value) (wr : World) : Prop :=
  ∃ (k c : Nat) (r : List Nat), i = .int .i64 k ∧ q = .int .i64 c ∧ c ≤ 1 ∧ k ≤ max la.length lb.length + 1 ∧ r.length = k ∧ Dig.Small r ∧
    Dig.val r + 256 ^ k * c = Dig.val (la.take k) + Dig.val (lb.take k) ∧ (k = max la.length lb.length + 1 → c = 0) ∧ OwnI wr w.heap.size v r ∧ Fresh w wr
theorem val_take_succ (l : List Nat) (k : Nat) (h : k < l.length) : Dig.val (l.take (k + 1)) = Dig.val (l.take k) + 256 ^ k * l.getD k 0 := by
  rw [List.take_succ_eq_append_getElem h, Dig.val_append, List.length_take, Nat.min_eq_left (Nat.le_of_lt h)]
  simp [Dig.val, List.getD, h]
theorem val_take_over (l : List Nat) (k : Nat) (h : l.length ≤ k) : Dig.val (l.take (k + 1)) = Dig.val (l.take k) := by
  rw [List.take_of_length_le h, List.take_of_length_le (by omega)]
theorem val_snoc (r : List Nat) (d : Nat) : Dig.val (r ++ [d]) = Dig.val r + 256 ^ r.length * d := by
  rw [Dig.val_append]; simp [Dig.val]
theorem small_snoc {r : List Nat} {d : Nat} (h : Dig.Small r) (hd : d < 256) : Dig.Small (r ++ [d]) := by
  intro x hx
  rcases List.mem_append.1 hx with hx | hx
  · exact h x hx
  · simp at hx; omega
theorem small_getD {l : List Nat} (h : Dig.Small l) (k : Nat) : l.getD k 0 < 256 := by
  by_cases hk : k < l.length
  · have := h l[k] (List.getElem_mem hk)
    simpa [List.getD, hk] using this
  · simp [List.getD, List.getElem?_eq_none (Nat.le_of_not_lt hk)]
/-- one step of the sum of digits -/
theorem plus_step {la lb r : List Nat} {k c x y : Nat} (hv : Dig.val r + 256 ^ k * c = Dig.val (la.take k) + Dig.val (lb.take k)) (hr : r.length = k)
    (hx : Dig.val (la.take (k + 1)) = Dig.val (la.take k) + 256 ^ k * x) (hy : Dig.val (lb.take (k + 1)) = Dig.val (lb.take k) + 256 ^ k * y) :
    Dig.val (r ++ [(c + x + y) % 256]) + 256 ^ (k + 1) * ((c + x + y) / 256) = Dig.val (la.take (k + 1)) + Dig.val (lb.take (k + 1)) := by
  rw [val_snoc, hr, hx, hy, Nat.pow_succ]
  have hdm := Nat.div_add_mod (c + x + y) 256
  generalize 256 ^ k = P at *
  generalize (c + x + y) / 256 = D at *
  generalize (c + x + y) % 256 = M at *
  have e1 : P * M + P * 256 * D = P * (c + x + y) := by rw [Nat.mul_assoc, ← Nat.mul_add, Nat.add_comm, hdm]
  rw [Nat.mul_add, Nat.mul_add] at e1
  omega
end Go.Proofs.Ytdkhpehniciijaa
