/-
  Contracts: poly1305.New, MAC.Write, MAC.Sum (into sixteen bytes of room; onto owned bytes), poly1305.Sum.
-/
import Derived.Test.YtdkhpehniciijaaGWrite
import Derived.Test.YtdkhpehniciijaaInit
import Derived.Test.YtdkhpehniciijaaTagN
import Derived.Test.YtdkhpehniciijaaApp
import Derived.ArgAppend
namespace Go.Proofs.Ytdkhpehniciijaa
open Go Go.RowKit
/-- cells set one behind the other -/
def setMany (cs : Array Value) : Nat → List Value → Array Value
  | _, [] => cs
  | o, v :: vs => setMany (cs.setIfInBounds o v) (o + 1) vs
theorem block_setCells {b : Nat} {T : TypeId} : ∀ (vs : List Value) (o : Nat) (cs : Array Value) (w : World), w.heap[b]? = some (.cells cs T (0, 0)) → (w.setCells b o vs).heap[b]? = some (.cells (setMany cs o vs) T (0, 0)) := by
  intro vs
  induction vs with
  | nil => intro o cs w h; exact h
  | cons v vs ih => intro o cs w h; exact ih (o + 1) _ _ (block_set h)
theorem Keeps.setCells {b : Nat} {a : World} : ∀ (vs : List Value) (o : Nat) (w : World), Keeps (fun q => q = b) a w → Keeps (fun q => q = b) a (w.setCells b o vs) := by
  intro vs
  induction vs with
  | nil => intro o w h; exact h
  | cons v vs ih => intro o w h; exact ih (o + 1) _ (h.own v)
theorem setMany_gen : ∀ (t p L : List UInt8), t.length ≤ L.length → setMany (cells8 (p ++ L)) p.length (vals8 t) = cells8 (p ++ (t ++ L.drop t.length)) := by
  intro t
  induction t with
  | nil => intro p L _; simp [setMany, vals8]
  | cons x t ih =>
    intro p L h
    cases L with
    | nil => simp at h
    | cons y L =>
      show setMany ((cells8 (p ++ y :: L)).setIfInBounds p.length (.int .u8 (u8 x))) (p.length + 1) (vals8 t) = _
      rw [cells8_set, List.set_append_right _ _ (Nat.le_refl _), Nat.sub_self, List.set_cons_zero]
      have := ih (p ++ [x]) L (by simpa using h)
      simpa using this
theorem setMany16 (L t : List UInt8) (hL : L.length = 16) (ht : t.length = 16) : setMany (cells8 L) 0 (vals8 t) = cells8 t := by
  have := setMany_gen t [] L (by omega)
  rw [List.drop_eq_nil_of_le (by omega)] at this
  simpa using this
theorem wpList_app_room {ops : Array Oper} {rest : List Oper} {o : Oper} {a : Act} {w : World} {Q : Exit → Act → World → Prop} (hgd : o.guard = none) (s x : Operand)
    (ho : o.op = .call { callee := .builtin .append, args := #[s, x], argTypes := #[23, 23] }) (bo : Nat) (T : TypeId) (L t : List UInt8) (y : Value)
    (hs : a.eval s = .slice (some ⟨bo, 0, none⟩) 0 16) (hx : a.eval x = y) (hy : SlB w y t) (hL : L.length = 16) (ht : t.length = 16) (hb : w.heap[bo]? = some (.cells (cells8 L) T (0, 0)))
    (h : ∀ w', Hid (w'.heap[bo]? = some (.cells (cells8 t) T (0, 0))) → Hid (Keeps (fun q => q = bo) w w') → wpList Try.prog ops Q rest (a.put o.dst (.slice (some ⟨bo, 0, none⟩) 16 16)) w') : wpList Try.prog ops Q (o :: rest) a w := by
  refine wpList_plain hgd fun K hK => ?_
  obtain ⟨i0, hi, hz0, hz1, hz2⟩ := info_parts infoByte
  rcases hy with ⟨rfl, rfl⟩ | ⟨ad, c, rfl, h1, h2, hc⟩
  · cases ht
  · have hrun := run_append_room_cells (P := Try.prog) w 23 o.type 5 i0 Try.underlying23 hi bo 0 0 16 ad t.length c (vals8 t) (by rw [vals8_len, hz1, Nat.mul_one]) hc (vals8_one t) (by omega)
      (fun j hj => by rw [vals8_len] at hj; rw [Nat.zero_mul, Nat.zero_add, cell_block hb, cells8_get (by omega)]; rfl) (fun j hj => free_block hb _)
    unfold Oper.wp execOp
    simp only [ho, resolve, invoke, builtin, Sem.run_bind, Sem.run_pure, Result.andThen_ok, List.map_toArray, List.map_cons, List.map_nil, hs, hx, hrun]
    rw [Nat.zero_mul, Nat.zero_add, ht]
    refine hK _ _ (h _ (Lib.hid ?_) (Lib.hid (Keeps.setCells _ _ _ (Keeps.refl _ w))))
    rw [block_setCells _ _ _ _ hb, setMany16 L t hL ht]
/-- the number of a MAC's type -/
abbrev TM : TypeId := 79
def clamp0 (key : List UInt8) : UInt64 := w64 (key.take 8) &&& 1152921487695413247
def clamp1 (key : List UInt8) : UInt64 := w64 ((key.drop 8).take 8) &&& 1152921487695413244
def key2 (key : List UInt8) : UInt64 := w64 ((key.drop 16).take 8)
def key3 (key : List UInt8) : UInt64 := w64 ((key.drop 24).take 8)
/-- a MAC of this key -/
def MacK (key : List UInt8) (w : World) (b : Nat) (l : List UInt8) (fin : Bool) : Prop := Mac TM (clamp0 key) (clamp1 key) (key2 key) (key3 key) w b l fin
theorem clamp0_lt (key : List UInt8) : (clamp0 key).toNat < 1152921504606846976 := by
  unfold clamp0
  rw [UInt64.toNat_and]
  exact Nat.lt_of_le_of_lt Nat.and_le_right (by decide)
theorem clamp1_lt (key : List UInt8) : (clamp1 key).toNat < 1152921504606846976 := by
  unfold clamp1
  rw [UInt64.toNat_and]
  exact Nat.lt_of_le_of_lt Nat.and_le_right (by decide)
def keyR (key : List UInt8) : Nat := (clamp0 key).toNat + (clamp1 key).toNat * 18446744073709551616
def keyS (key : List UInt8) : Nat := (key2 key).toNat + (key3 key).toNat * 18446744073709551616
/-- the authenticator of l under this key -/
def tagK (key l : List UInt8) : List UInt8 := tagB (keyR key) (keyS key) l
theorem zeroMac : macCs 0 0 0 0 0 0 0 (List.replicate 16 0) 0 false = [.int .u64 0, .int .u64 0, .int .u64 0, .int .u64 0, .int .u64 0, .int .u64 0, .int .u64 0, .int .u8 0, .int .u8 0, .int .u8 0, .int .u8 0, .int .u8 0, .int .u8 0, .int .u8 0, .int .u8 0, .int .u8 0, .int .u8 0, .int .u8 0, .int .u8 0, .int .u8 0, .int .u8 0, .int .u8 0, .int .u8 0, .int .i64 0, .bool false] := rfl
theorem Mac.fresh {r0 r1 s0 s1 : UInt64} {w : World} {b : Nat} {T : TypeId} (h : w.heap[b]? = some (.cells (macCs 0 0 0 r0 r1 s0 s1 (List.replicate 16 0) 0 false).toArray T (0, 0))) : Mac T r0 r1 s0 s1 w b [] false :=
  ⟨0, 0, 0, List.replicate 16 0, rfl, Nat.zero_le _, h, rfl, rfl⟩
theorem macCs_5 {h0 h1 h2 r0 r1 s0 s1 : UInt64} {buf : List UInt8} {off : Nat} {fin : Bool} : (macCs h0 h1 h2 r0 r1 s0 s1 buf off fin).toArray[5]? = some (.int .u64 (u64 s0)) := rfl
theorem macCs_6 {h0 h1 h2 r0 r1 s0 s1 : UInt64} {buf : List UInt8} {off : Nat} {fin : Bool} : (macCs h0 h1 h2 r0 r1 s0 s1 buf off fin).toArray[6]? = some (.int .u64 (u64 s1)) := rfl
attribute [local irreducible] w64 macCs chunks tagB
set_option maxRecDepth 100000 in
theorem New_c (bk : Nat) (key : List UInt8) (w : World) (hk : BytesIn w bk 0 key) (hl : key.length = 32) (hbk : bk < w.heap.size) :
    Calls Try.prog 31 #[.pointer (some ⟨bk, 0, none⟩)] w fun e w' =>
      e = .returned (.pointer (some ⟨w.heap.size, 0, none⟩)) ∧ MacK key w' w.heap.size [] false ∧ Fresh w w' := by
  have HK := Lib.hid hk
  have HL := Lib.hid hl
  clear hk hl
  go_enter Try.func31, Try.ntmps31
  go_wp2_with fail
  refine (initialize_c bk w.heap.size TM (macCs 0 0 0 0 0 0 0 (List.replicate 16 0) 0 false).toArray key 0 0 0 0 _ (by rw [zeroMac]; exact heap_alloc_new w _) (HK.out.keeps ((Keeps.refl (fun _ => False) w).alloc _) (fun x => x)) HL.out (by omega) macCs_3 macCs_4 macCs_5 macCs_6).mono ?_
  rintro e w1 ⟨rfl, hb, hk⟩
  rw [macCs_set_rs] at hb
  have HB := Lib.hid hb
  have HK1 : Hid (Fresh w w1) := Lib.hid (Fresh.then ((Keeps.refl _ w).alloc _) hk (fun q hq e => by omega))
  clear hb hk
  go_wp2_with fail
  go_ret
  exact ⟨rfl, Mac.fresh HB.out, HK1.out⟩
theorem SlB.lt {w : World} {v : Value} {l : List UInt8} (h : SlB w v l) (h0 : 0 < l.length) (k : Nat) (hk : v.ownBlock = some k) : k < w.heap.size := by
  obtain ⟨b, o, c, rfl, -, -, hb, -⟩ := h.form h0
  cases hk
  exact hb
/-- Write, of a MAC that is still open -/
theorem MWrite_c (b : Nat) (key l m : List UInt8) (v : Value) (w : World) (hmac : MacK key w b l false) (hs : SlB w v m) (hv : 0 < m.length → v.ownBlock ≠ some b) :
    Calls Try.prog 33 #[.pointer (some ⟨b, 0, none⟩), v] w fun e w' =>
      e = .returned (.tuple #[.int .i64 (m.length : Int), .nilIface]) ∧ MacK key w' b (l ++ m) false ∧ Keeps (fun q => q = b) w w' := by
  have c24 : w.cell? ⟨b, 24, none⟩ = some (.bool false) := by
    obtain ⟨h0, h1, h2, buf, hbl, hh, hb, -, -⟩ := hmac
    rw [cell_block hb]; exact macCs_fin hbl
  have HM := Lib.hid hmac
  have HS := Lib.hid hs
  have HV := Lib.hid hv
  clear hmac hs hv
  go_enter Try.func33, Try.ntmps33
  go_wp2_with fail
  refine (gWrite_c b TM l m false _ _ _ _ v w (clamp0_lt key) (clamp1_lt key) HM.out HS.out HV.out).mono ?_
  rintro e w1 ⟨rfl, hm, hk⟩
  have HM1 := Lib.hid hm
  have HK1 := Lib.hid hk
  clear hm hk
  go_wp2_with fail
  go_ret2
  exact ⟨rfl, HM1.out, HK1.out⟩
/-- what the first half of MAC.Sum and MAC.Verify does -/
theorem gSumM (b bo : Nat) (key l L : List UInt8) (fin : Bool) (w : World) (To : TypeId) (hmac : MacK key w b l fin) (hbo : w.heap[bo]? = some (.cells (cells8 L) To (0, 0))) (hL : L.length = 16) :
    Calls Try.prog 46 #[.pointer (some ⟨b, 0, none⟩), .pointer (some ⟨bo, 0, none⟩)] w fun e w' =>
      e = .returned (.tuple #[]) ∧ Keeps (fun q => q = bo) w w' ∧ w'.heap[bo]? = some (.cells (cells8 (tagK key l)) To (0, 0)) := by
  obtain ⟨h0, h1, h2, buf, hbl, hh, hb, hbuf, hv⟩ := hmac
  refine (gSum_c b bo TM To L buf (l.length % 16) fin h0 h1 h2 (clamp0 key) (clamp1 key) (key2 key) (key3 key) w hb hbl (Nat.mod_lt _ (by decide)) hh (clamp0_lt key) (clamp1_lt key) hbo hL).mono ?_
  rintro e w' ⟨he, hk, g0, g1, g2, hg, hg2, hr⟩
  refine ⟨he, hk, ?_⟩
  rw [hg, tag_of_mac rfl hg2 hbuf hv hr]
  rfl
theorem Mac.close {T : TypeId} {r0 r1 s0 s1 : UInt64} {w : World} {b : Nat} {l : List UInt8} {fin : Bool} (h : Mac T r0 r1 s0 s1 w b l fin) : Mac T r0 r1 s0 s1 (w.setCell ⟨b, 24, none⟩ (.bool true)) b l true := by
  obtain ⟨h0, h1, h2, buf, hbl, hh, hb, hbuf, hv⟩ := h
  have := block_set (i := 24) (v := .bool true) hb
  rw [macCs_set_fin hbl] at this
  exact ⟨h0, h1, h2, buf, hbl, hh, this, hbuf, hv⟩
theorem Mac.c24 {T : TypeId} {r0 r1 s0 s1 : UInt64} {w : World} {b : Nat} {l : List UInt8} {fin : Bool} (h : Mac T r0 r1 s0 s1 w b l fin) : w.cell? ⟨b, 24, none⟩ = some (.bool fin) ∧ w.frozen? ⟨b, 24, none⟩ = false := by
  obtain ⟨h0, h1, h2, buf, hbl, hh, hb, -, -⟩ := h
  exact ⟨by rw [cell_block hb]; exact macCs_fin hbl, free_block hb 24⟩
theorem SlB.all16 {w : World} {b : Nat} {T : TypeId} {l : List UInt8} (h : w.heap[b]? = some (.cells (cells8 l) T (0, 0))) (hl : l.length = 16) : SlB w (.slice (some ⟨b, 0, none⟩) 16 16) l := by
  have := SlB.of (w := w) (b := b) (o := 0) (c := 16) (l := l) (by omega) (by decide) (fun i hi => by rw [Nat.zero_add, cell_block h, cells8_get hi])
  rwa [hl] at this
theorem cells8_zeros16 : cells8 (List.replicate 16 0) = #[.int .u8 0, .int .u8 0, .int .u8 0, .int .u8 0, .int .u8 0, .int .u8 0, .int .u8 0, .int .u8 0, .int .u8 0, .int .u8 0, .int .u8 0, .int .u8 0, .int .u8 0, .int .u8 0, .int .u8 0, .int .u8 0] := rfl
set_option maxRecDepth 100000 in
/-- Sum, into sixteen bytes of room -/
theorem MSum_into (b bo : Nat) (key l L : List UInt8) (fin : Bool) (w : World) (To : TypeId) (hmac : MacK key w b l fin) (hbo : w.heap[bo]? = some (.cells (cells8 L) To (0, 0))) (hL : L.length = 16) (hne : bo ≠ b) :
    Calls Try.prog 34 #[.pointer (some ⟨b, 0, none⟩), .slice (some ⟨bo, 0, none⟩) 0 16] w fun e w' =>
      e = .returned (.slice (some ⟨bo, 0, none⟩) 16 16) ∧ w'.heap[bo]? = some (.cells (cells8 (tagK key l)) To (0, 0)) ∧ MacK key w' b l true ∧ Keeps (fun q => q = b ∨ q = bo) w w' := by
  have HM := Lib.hid hmac
  have HBO := Lib.hid hbo
  have HL := Lib.hid hL
  have HN := Lib.hid hne
  have hltb : b < w.heap.size := hmac.lt
  have hltbo : bo < w.heap.size := lt_of_block hbo
  clear hmac hbo hL hne
  go_enter Try.func34, Try.ntmps34
  go_wp2_with fail
  have HF0 : Hid (Fresh w (w.alloc (.cells (cells8 (List.replicate 16 0)) 25))) := Lib.hid ((Keeps.refl _ w).alloc _)
  refine (gSumM b w.heap.size key l (List.replicate 16 0) fin _ 25 (Mac.keeps HM.out HF0.out (fun x => x)) (heap_alloc_new w _) rfl).mono ?_
  rintro e w1 ⟨rfl, hk, hg⟩
  have HG := Lib.hid hg
  have HF1 : Hid (Fresh w w1) := Lib.hid (HF0.out.then hk (fun q hq e => by omega))
  clear hk hg HF0
  have HM1 := Lib.hid (Mac.keeps HM.out HF1.out (fun x => x))
  obtain ⟨c24, f24⟩ := Mac.c24 HM1.out
  have HM2 := Lib.hid (Mac.close HM1.out)
  have hlt1 : b < w1.heap.size := Nat.lt_of_lt_of_le hltb HF1.out.size
  have HBO2 := Lib.hid (block_set_other (v := .bool true) (p := ⟨b, 24, none⟩) (HF1.out.at HBO.out) HN.out)
  have HG2 := Lib.hid (block_set_other (v := .bool true) (p := ⟨b, 24, none⟩) HG.out (Nat.ne_of_gt hltb))
  go_wp2_with (refine wpList_app_room rfl (.tmp 14) (.tmp 15) rfl bo To L (tagK key l) _ rfl rfl (SlB.all16 HG2.out (tagB_length _ _ _)) HL.out (tagB_length _ _ _) HBO2.out ?_; intro w3 HB3 HK3)
  go_ret
  refine ⟨rfl, HB3.out, Mac.keeps HM2.out HK3.out (fun e => HN.out e.symm), ?_⟩
  exact (((Fresh.to HF1.out).setCell (Or.inl (Or.inl rfl)) _).trans (HK3.out.mono (fun k _ h => Or.inr h)))
set_option maxRecDepth 100000 in
/-- poly1305.Sum -/
theorem PSum_c (bo bk : Nat) (key m L : List UInt8) (v : Value) (w : World) (To : TypeId) (hbo : w.heap[bo]? = some (.cells (cells8 L) To (0, 0))) (hL : L.length = 16) (hk : BytesIn w bk 0 key) (hl : key.length = 32) (hbk : bk < w.heap.size)
    (hs : SlB w v m) :
    Calls Try.prog 24 #[.pointer (some ⟨bo, 0, none⟩), v, .pointer (some ⟨bk, 0, none⟩)] w fun e w' =>
      e = .returned (.tuple #[]) ∧ w'.heap[bo]? = some (.cells (cells8 (tagK key m)) To (0, 0)) ∧ Keeps (fun q => q = bo) w w' := by
  have HBO := Lib.hid hbo
  have HL := Lib.hid hL
  have HK := Lib.hid hk
  have HKL := Lib.hid hl
  have HS := Lib.hid hs
  have hltbo : bo < w.heap.size := lt_of_block hbo
  clear hbo hL hk hl hs
  go_enter Try.func24, Try.ntmps24
  go_wp2_with fail
  refine (New_c bk key w HK.out HKL.out hbk).mono ?_
  rintro e w1 ⟨rfl, hm, hf⟩
  have HM := Lib.hid hm
  have HF := Lib.hid hf
  clear hm hf
  go_wp2_with fail
  refine (MWrite_c w.heap.size key [] m v w1 HM.out (HS.out.fresh HF.out) (fun h0 e => by have := HS.out.lt h0 _ e; omega)).mono ?_
  rintro e w2 ⟨rfl, hm, hk⟩
  have HM2 := Lib.hid hm
  have HF2 : Hid (Fresh w w2) := Lib.hid (HF.out.then hk (fun q hq e => by omega))
  clear hm hk
  go_wp2_with fail
  refine (MSum_into w.heap.size bo key m L false w2 To HM2.out (HF2.out.at HBO.out) HL.out (Nat.ne_of_lt hltbo)).mono ?_
  rintro e w3 ⟨rfl, hb, hm, hk⟩
  have HB3 := Lib.hid hb
  have HK3 : Hid (Keeps (fun q => q = bo) w w3) := Lib.hid ⟨hk.os.trans HF2.out.os, hk.tape.trans HF2.out.tape, hk.output.trans HF2.out.output, Nat.le_trans HF2.out.size hk.size, fun i hi hs => (hk.block i (Nat.lt_of_lt_of_le hi HF2.out.size) (fun e => by rcases e with e | e; omega; exact hs e)).trans (HF2.out.block i hi (fun x => x))⟩
  clear hb hm hk
  go_wp2_with fail
  go_end0
  exact ⟨rfl, HB3.out, HK3.out⟩
end Go.Proofs.Ytdkhpehniciijaa
