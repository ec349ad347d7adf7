/-
  Laws for XORKeyStream: the room of a cipher is filled with noughts, bytes are copied into it and out of it.
-/
import Derived.Test.YtlafnkcmdnfcpaaCipS
import Derived.Test.YtlafnkcmdnfcpaaCopy
namespace Go.Proofs.Ytlafnkcmdnfcpaa
open Go Go.RowKit
attribute [local irreducible] Cha.iter Cha.rounds Cha.dbl Cha.qr
theorem wrap_u64_u32 (x : UInt32) : IntKind.u64.wrap (u32 x) = u32 x := by
  have := u32_nonneg x; have := u32_lt x; rw [IntKind.wrap_u64]; omega
theorem wrap_u64_inc (x : UInt32) : IntKind.u64.wrap (u32 x + 1) = u32 x + 1 := by
  have := u32_nonneg x; have := u32_lt x; rw [IntKind.wrap_u64]; omega
theorem CipB.setMany {b : Nat} {K : CK} {c : UInt32} {len : Nat} {ovf pre : Bool} {p : List UInt32} : ∀ (l : List UInt8) (w : World) (buf : List UInt8) (k : Nat), CipB w b K c buf len ovf pre p → k + l.length ≤ buf.length →
    CipB (w.setCells b (12 + k) (vals8 l)) b K c (buf.take k ++ (l ++ buf.drop (k + l.length))) len ovf pre p := by
  intro l
  induction l with
  | nil => intro w buf k h _; simpa [vals8, World.setCells] using h
  | cons x l ih =>
    intro w buf k h hk
    simp only [List.length_cons] at hk
    have h1 := h.setbuf (i := k) (by omega) x
    have h2 := ih _ _ (k + 1) h1 (by rw [List.length_set]; omega)
    have e : (buf.set k x).take (k + 1) ++ (l ++ (buf.set k x).drop (k + 1 + l.length)) = buf.take k ++ (x :: l ++ buf.drop (k + (x :: l).length)) := by
      rw [List.take_succ_eq_append_getElem (by rw [List.length_set]; omega), List.take_set_of_le (Nat.le_refl k), List.drop_set_of_lt (by omega)]
      simp [Nat.add_comm, Nat.add_left_comm]
    rw [e] at h2
    exact h2
theorem CipB.setAll {w : World} {b : Nat} {K : CK} {c : UInt32} {buf : List UInt8} {len : Nat} {ovf pre : Bool} {p : List UInt32} (h : CipB w b K c buf len ovf pre p) {l : List UInt8} (hl : l.length = buf.length) : CipB (w.setCells b 12 (vals8 l)) b K c l len ovf pre p := by
  have := CipB.setMany l w buf 0 h (by omega)
  simpa [hl] using this
theorem Keeps.setMany {b : Nat} {a : World} : ∀ (vs : List Value) (o : Nat) (w : World), Keeps (fun q => q = b) a w → Keeps (fun q => q = b) a (w.setCells b o vs) := by
  intro vs
  induction vs with
  | nil => intro o w h; exact h
  | cons v vs ih => intro o w h; exact ih _ _ (h.own _)
theorem info64B : (Try.prog.info? 94).map (·.size) = some 64 := by kernel_rfl
theorem CipB.there {w : World} {b : Nat} {K : CK} {c : UInt32} {buf : List UInt8} {len : Nat} {ovf pre : Bool} {p : List UInt32} (h : CipB w b K c buf len ovf pre p) (hb : buf.length = 64) : w.there b 12 64 := by
  intro j hj
  refine ⟨?_, h.free _⟩
  rw [h.cell, crow_buf (by omega)]
  rfl
/-- s.buf = [64]byte{} -/
theorem wpList_zeroBuf {ops : Array Oper} {rest : List Oper} {o : Oper} {a : Act} {w : World} {Q : Exit → Act → World → Prop} (hgd : o.guard = none) (x y : Operand) (ho : o.op = .store 94 x y)
    {b : Nat} {K : CK} {c : UInt32} {buf : List UInt8} {len : Nat} {ovf pre : Bool} {p : List UInt32} (hx : a.eval x = .pointer (some ⟨b, 12, none⟩)) (hy : a.eval y = .agg (vals8 (List.replicate 64 0)).toArray)
    (hc : CipB w b K c buf len ovf pre p) (hb : buf.length = 64)
    (h : ∀ w', Hid (CipB w' b K c (List.replicate 64 0) len ovf pre p) → Hid (Keeps (fun q => q = b) w w') → wpList Try.prog ops Q rest (a.put o.dst undef) w') : wpList Try.prog ops Q (o :: rest) a w := by
  refine wpList_store_mid hgd 94 x y ho b 12 (vals8 (List.replicate 64 0)).toArray hx hy ?_ ?_ (all_oneCell_toArray (vals8_one _)) ?_
  · rw [show (vals8 (List.replicate 64 0)).toArray.size = 64 by simp [vals8]]; exact hc.there hb
  · rw [show (vals8 (List.replicate 64 0)).toArray.size = 64 by simp [vals8]]; exact info64B
  · exact h _ (Lib.hid (hc.setAll (by simp [hb]))) (Lib.hid (Keeps.setMany _ _ _ (Keeps.refl _ w)))
theorem splice_mid {α : Type} (hd mid tl vs : List α) (h : vs.length ≤ mid.length) : splice (hd ++ (mid ++ tl)) hd.length vs = hd ++ ((vs ++ mid.drop vs.length) ++ tl) := by
  unfold splice
  rw [List.take_left, ← List.drop_drop, List.drop_left, List.drop_append_of_le_length h]
  simp [List.append_assoc]
theorem vals8_drop (l : List UInt8) (k : Nat) : (vals8 l).drop k = vals8 (l.drop k) := by simp [vals8, List.map_drop]
theorem crow_splice {K : CK} {c : UInt32} {buf l : List UInt8} {len : Nat} {ovf pre : Bool} {p : List UInt32} (hl : l.length ≤ buf.length) : splice (crow K c buf len ovf pre p) 12 (vals8 l) = crow K c (l ++ buf.drop l.length) len ovf pre p := by
  unfold crow
  have := splice_mid [Value.int .u32 (u32 K.c4), .int .u32 (u32 K.c5), .int .u32 (u32 K.c6), .int .u32 (u32 K.c7), .int .u32 (u32 K.c8), .int .u32 (u32 K.c9), .int .u32 (u32 K.c10), .int .u32 (u32 K.c11), .int .u32 (u32 c), .int .u32 (u32 K.c13), .int .u32 (u32 K.c14), .int .u32 (u32 K.c15)] (vals8 buf) ([Value.int .i64 (len : Int), .bool ovf, .bool pre] ++ p.map fun x => Value.int .u32 (u32 x)) (vals8 l) (by rw [vals8_len, vals8_len]; exact hl)
  rw [vals8_len, vals8_drop, ← vals8_append] at this
  exact this
theorem dst_splice {hd tl : List Value} {D l : List UInt8} (hl : l.length ≤ D.length) : splice (hd ++ (vals8 D ++ tl)) hd.length (vals8 l) = hd ++ (vals8 (l ++ D.drop l.length) ++ tl) := by
  rw [splice_mid hd (vals8 D) tl (vals8 l) (by rw [vals8_len, vals8_len]; exact hl), vals8_len, vals8_drop, ← vals8_append]
/-- the room behind the last part of a text: the text and the key stream -/
def tailBuf (z : Nat → UInt8) (s : List UInt8) : List UInt8 := upd (s ++ List.replicate (64 - s.length) 0) (s ++ List.replicate (64 - s.length) 0) z 64
section
variable {z : Nat → UInt8} {s : List UInt8}
theorem pad_len (h : s.length ≤ 64) : (s ++ List.replicate (64 - s.length) (0 : UInt8)).length = 64 := by simp; omega
theorem tailBuf_len (h : s.length ≤ 64) : (tailBuf z s).length = 64 := by
  unfold tailBuf; rw [upd_len (by rw [pad_len h]; exact Nat.le_refl _), pad_len h]
theorem tailBuf_get {i : Nat} (hi : i < 64) : (tailBuf z s).getD i 0 = (s ++ List.replicate (64 - s.length) (0 : UInt8)).getD i 0 ^^^ z i := by
  unfold tailBuf upd
  simp only [List.getD]
  rw [List.getElem?_append_left (by simpa using hi)]
  simp [hi]
theorem tailBuf_take (h : s.length ≤ 64) : (tailBuf z s).take s.length = xs z s := by
  apply List.ext_getElem
  · rw [List.length_take, tailBuf_len h, xs_len]; omega
  · intro i h1 h2
    rw [xs_len] at h2
    have e1 := tailBuf_get (z := z) (s := s) (i := i) (by omega)
    have e2 := xs_get z s h2
    rw [List.getElem_take]
    simp only [List.getD, List.getElem?_append_left h2, List.getElem?_eq_getElem h2, Option.getD_some] at e1 e2
    rw [List.getElem?_eq_getElem (by rw [tailBuf_len h]; omega), Option.getD_some] at e1
    rw [List.getElem?_eq_getElem (by rw [xs_len]; exact h2), Option.getD_some] at e2
    rw [e1, e2]
theorem tailBuf_rest (h : s.length ≤ 64) {i : Nat} (h1 : s.length ≤ i) (hi : i < 64) : (tailBuf z s).getD i 0 = z i := by
  rw [tailBuf_get hi]
  simp only [List.getD]
  rw [List.getElem?_append_right h1]
  simp [show i - s.length < 64 - s.length by omega]
end
/-- bytes s at a source: those of the destination itself, or others elsewhere -/
def SrcR (w : World) (bd od bs os : Nat) (D s : List UInt8) : Prop := (bs = bd ∧ os = od ∧ s = D) ∨ (bs ≠ bd ∧ BytesAt w bs os s)
theorem SrcR.bytes {w : World} {bd bs os : Nat} {hd tl : List Value} {D s : List UInt8} (h : SrcR w bd hd.length bs os D s) (hD : DstB w bd hd tl D) : BytesAt w bs os s := by
  rcases h with ⟨rfl, rfl, rfl⟩ | ⟨-, h⟩
  · exact fun i hi => hD.cell hi
  · exact h
/-- what is left of both behind k bytes -/
theorem SrcR.rest {w w' : World} {b bd od bs os k : Nat} {D s : List UInt8} (h : SrcR w bd od bs os D s) (hb : bs ≠ b) (hk : Keeps (fun q => q = b ∨ q = bd) w w') : SrcR w' bd (od + k) bs (os + k) (D.drop k) (s.drop k) := by
  rcases h with ⟨rfl, rfl, rfl⟩ | ⟨hne, h⟩
  · exact Or.inl ⟨rfl, rfl, rfl⟩
  · refine Or.inr ⟨hne, fun i hi => ?_⟩
    rw [List.length_drop] at hi
    have := h (k + i) (by omega)
    rw [Nat.add_assoc, hk.cellAt this (by rintro (e | e); exact hb e; exact hne e)]
    simp [List.getD, List.getElem?_drop]
/-- what XORKeyStream leaves -/
def XR (K : CK) (w : World) (b bd : Nat) (hd tl : List Value) (a : Nat) (s : List UInt8) (w' : World) : Prop :=
  DstB w' bd hd tl (xs (fun i => K.ks (a + i)) s) ∧ CipS K w' b (a + s.length) ∧ Keeps (fun k => k = b ∨ k = bd) w w'
/-- two parts, one behind the other -/
theorem XR.two {K : CK} {w w1 w2 : World} {b bd a k : Nat} {hd tl : List Value} {s : List UInt8} (hk : k ≤ s.length) (h1 : Keeps (fun q => q = b ∨ q = bd) w w1)
    (h2 : XR K w1 b bd (hd ++ vals8 (xs (fun i => K.ks (a + i)) (s.take k))) tl (a + k) (s.drop k) w2) : XR K w b bd hd tl a s w2 := by
  obtain ⟨d, c, e⟩ := h2
  refine ⟨?_, ?_, h1.trans e⟩
  · unfold DstB at d ⊢
    rw [d]
    have := xs_append (fun i => K.ks (a + i)) (s.take k) (s.drop k)
    rw [List.take_append_drop, List.length_take, Nat.min_eq_left hk] at this
    rw [this, vals8_append]
    simp [Nat.add_assoc]
  · rw [List.length_drop] at c
    rw [show a + s.length = a + k + (s.length - k) by omega]
    exact c
end Go.Proofs.Ytlafnkcmdnfcpaa
