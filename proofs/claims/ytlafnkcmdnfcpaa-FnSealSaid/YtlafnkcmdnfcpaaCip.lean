/-
  A cipher's cells; the bytes of its key stream; bytes put out one after the other.
-/
import Derived.Test.YtlafnkcmdnfcpaaBlkH
namespace Go.Proofs.Ytlafnkcmdnfcpaa
open Go Go.RowKit
attribute [local irreducible] Cha.iter Cha.rounds Cha.dbl Cha.qr
/-- the words of a key and of a nonce -/
structure CK where
  (c4 c5 c6 c7 c8 c9 c10 c11 c13 c14 c15 : UInt32)
namespace CK
/-- the state at a counter -/
def st (K : CK) (c : UInt32) : List UInt32 := [0x61707865, 0x3320646e, 0x79622d32, 0x6b206574, K.c4, K.c5, K.c6, K.c7, K.c8, K.c9, K.c10, K.c11, c, K.c13, K.c14, K.c15]
end CK
/-- byte i of the words of a state behind the rounds -/
def ksB (l : List UInt32) (i : Nat) : UInt8 :=
  if i % 4 = 0 then Byt.by0 (zw l (i / 4)) else if i % 4 = 1 then Byt.by1 (zw l (i / 4)) else if i % 4 = 2 then Byt.by2 (zw l (i / 4)) else Byt.by3 (zw l (i / 4))
/-- byte p of the key stream -/
def CK.ks (K : CK) (p : Nat) : UInt8 := ksB (K.st (UInt32.ofNat (p / 64))) (p % 64)
/-- byte i of the key stream from a counter on -/
def CK.from (K : CK) (c : UInt32) (i : Nat) : UInt8 := ksB (K.st (c + UInt32.ofNat (i / 64))) (i % 64)
theorem CK.from_eq (K : CK) (q i : Nat) : K.from (UInt32.ofNat q) i = K.ks (64 * q + i) := by
  unfold CK.from CK.ks
  rw [show (64 * q + i) / 64 = q + i / 64 by omega, show (64 * q + i) % 64 = i % 64 by omega, UInt32.ofNat_add]
theorem CK.from_at (K : CK) (c : UInt32) (j k r : Nat) (hk : k < 16) (hr : r < 4) : K.from c (64 * j + 4 * k + r) = ksB (K.st (c + UInt32.ofNat j)) (4 * k + r) := by
  unfold CK.from
  rw [show (64 * j + 4 * k + r) / 64 = j by omega, show (64 * j + 4 * k + r) % 64 = 4 * k + r by omega]
theorem ksB_0 (l : List UInt32) (k : Nat) : ksB l (4 * k + 0) = Byt.by0 (zw l k) := by
  unfold ksB; rw [if_pos (by omega), show (4 * k + 0) / 4 = k by omega]
theorem ksB_1 (l : List UInt32) (k : Nat) : ksB l (4 * k + 1) = Byt.by1 (zw l k) := by
  unfold ksB; rw [if_neg (by omega), if_pos (by omega), show (4 * k + 1) / 4 = k by omega]
theorem ksB_2 (l : List UInt32) (k : Nat) : ksB l (4 * k + 2) = Byt.by2 (zw l k) := by
  unfold ksB; rw [if_neg (by omega), if_neg (by omega), if_pos (by omega), show (4 * k + 2) / 4 = k by omega]
theorem ksB_3 (l : List UInt32) (k : Nat) : ksB l (4 * k + 3) = Byt.by3 (zw l k) := by
  unfold ksB; rw [if_neg (by omega), if_neg (by omega), if_neg (by omega), show (4 * k + 3) / 4 = k by omega]
/-- t bytes of s, each with one of z, in the place of the first of D -/
def upd (D s : List UInt8) (z : Nat → UInt8) (t : Nat) : List UInt8 := (List.range t).map (fun i => s.getD i 0 ^^^ z i) ++ D.drop t
theorem upd_zero (D s : List UInt8) (z : Nat → UInt8) : upd D s z 0 = D := by simp [upd]
theorem upd_len {D s : List UInt8} {z : Nat → UInt8} {t : Nat} (h : t ≤ D.length) : (upd D s z t).length = D.length := by
  simp [upd]; omega
theorem upd_next {D s : List UInt8} {z : Nat → UInt8} {t : Nat} (h : t < D.length) : (upd D s z t).set t (s.getD t 0 ^^^ z t) = upd D s z (t + 1) := by
  unfold upd
  have hd : D.drop t = D[t] :: D.drop (t + 1) := List.drop_eq_getElem_cons h
  rw [List.set_append_right _ _ (by simp), List.range_succ]
  simp
  rw [hd]
  rfl
theorem upd_getD {D s : List UInt8} {z : Nat → UInt8} {t i : Nat} (h : t ≤ i) : (upd D s z t).getD i 0 = D.getD i 0 := by
  unfold upd
  simp only [List.getD]
  rw [List.getElem?_append_right (by simpa using h)]
  simp [show t + (i - t) = i by omega]
/-- memory in which bytes l lie at a place, and a cipher whose counter is c -/
structure Buf (M : List UInt8 → UInt32 → World → Prop) (K : CK) (b bd od : Nat) : Prop where
  drewN : ∀ l c w n, M l c w → M l c (w.drewN n)
  get : ∀ l c w i, M l c w → i < l.length → w.cell? ⟨bd, od + i, none⟩ = some (.int .u8 (u8 (l.getD i 0)))
  free : ∀ l c w i, M l c w → w.frozen? ⟨bd, i, none⟩ = false
  set : ∀ l c w i x, M l c w → i < l.length → M (l.set i x) c (w.setCell ⟨bd, od + i, none⟩ (.int .u8 (u8 x)))
  ctr : ∀ l c w, M l c w → w.cell? ⟨b, 8, none⟩ = some (.int .u32 (u32 c))
  ctrFree : ∀ l c w, M l c w → w.frozen? ⟨b, 8, none⟩ = false
  setCtr : ∀ l c c' w, M l c w → M l c' (w.setCell ⟨b, 8, none⟩ (.int .u32 (u32 c')))
  pcells : ∀ l c c' w, M l c w → PCells w b 0x61707865 0x3320646e 0x79622d32 0x6b206574 K.c4 K.c5 K.c6 K.c7 K.c8 K.c9 K.c10 K.c11 c' K.c13 K.c14 K.c15
/-- bytes s at the source: those at the destination itself, or others that stay -/
def Src (M : List UInt8 → UInt32 → World → Prop) (D s : List UInt8) (bd od bs os : Nat) : Prop :=
  (bs = bd ∧ os = od ∧ s = D.take s.length) ∨ ∀ l c w i, M l c w → i < s.length → w.cell? ⟨bs, os + i, none⟩ = some (.int .u8 (u8 (s.getD i 0)))
theorem Buf.src {M : List UInt8 → UInt32 → World → Prop} {K : CK} {b bd od bs os : Nat} (H : Buf M K b bd od) {D s : List UInt8} (hS : Src M D s bd od bs os) {z : Nat → UInt8} {t i : Nat} {c : UInt32} {w : World}
    (hm : M (upd D s z t) c w) (hti : t ≤ i) (hi : i < s.length) (hD : s.length ≤ D.length) : w.cell? ⟨bs, os + i, none⟩ = some (.int .u8 (u8 (s.getD i 0))) := by
  rcases hS with ⟨rfl, rfl, hs⟩ | hS
  · rw [H.get _ _ _ i hm (by rw [upd_len (by omega)]; omega), upd_getD hti]
    congr 3
    conv => rhs; rw [hs]
    simp [List.getD, hi]
  · exact hS _ _ _ i hm hi
theorem Buf.one {M : List UInt8 → UInt32 → World → Prop} {K : CK} {b bd od : Nat} (H : Buf M K b bd od) {D s : List UInt8} {z : Nat → UInt8} {t o : Nat} {c : UInt32} {w : World} {x y : UInt8}
    (hm : M (upd D s z t) c w) (ht : t < D.length) (hx : x = s.getD t 0) (hy : y = z t) (ho : o = od + t) : M (upd D s z (t + 1)) c (w.setCell ⟨bd, o, none⟩ (.int .u8 (u8 (x ^^^ y)))) := by
  subst hx hy ho
  rw [← upd_next ht]
  exact H.set _ _ _ t _ hm (by rw [upd_len (by omega)]; exact ht)
theorem Buf.words {M : List UInt8 → UInt32 → World → Prop} {K : CK} {b bd od bs os : Nat} (H : Buf M K b bd od) {D s : List UInt8} (hS : Src M D s bd od bs os) (c : UInt32) {N : Nat} (hs : s.length = 64 * N) (hD : 64 * N ≤ D.length) (j : Nat) (hj : j < N) :
    Words (fun k w => M (upd D s (K.from c) (64 * j + 4 * k)) (c + UInt32.ofNat j) w) b bd (od + 64 * j) bs (os + 64 * j) (zw (K.st (c + UInt32.ofNat j))) (c + UInt32.ofNat j) where
  drewN := fun k w n h => H.drewN _ _ _ n h
  counter := fun k w h => H.ctr _ _ _ h
  free := fun k w h => H.ctrFree _ _ _ h
  word := fun k w h hk => by
    have hl : (upd D s (K.from c) (64 * j + 4 * k)).length = D.length := upd_len (by omega)
    have g : ∀ r, r < 4 → w.cell? ⟨bd, od + 64 * j + 4 * k + r, none⟩ = some (.int .u8 (u8 ((upd D s (K.from c) (64 * j + 4 * k)).getD (64 * j + 4 * k + r) 0))) := fun r hr => by
      rw [show od + 64 * j + 4 * k + r = od + (64 * j + 4 * k + r) by omega]
      exact H.get _ _ _ _ h (by rw [hl]; omega)
    have e : ∀ r, r < 4 → w.cell? ⟨bs, os + 64 * j + 4 * k + r, none⟩ = some (.int .u8 (u8 (s.getD (64 * j + 4 * k + r) 0))) := fun r hr => by
      rw [show os + 64 * j + 4 * k + r = os + (64 * j + 4 * k + r) by omega]
      exact H.src hS h (by omega) (by omega) (by omega)
    refine ⟨s.getD (64 * j + 4 * k + 0) 0, s.getD (64 * j + 4 * k + 1) 0, s.getD (64 * j + 4 * k + 2) 0, s.getD (64 * j + 4 * k + 3) 0, _, _, _, _,
      ⟨g 0 (by decide), g 1 (by decide), g 2 (by decide), g 3 (by decide)⟩, fun i => H.free _ _ _ i h, ⟨e 0 (by decide), e 1 (by decide), e 2 (by decide), e 3 (by decide)⟩, ?_⟩
    have h1 := H.one (o := od + 64 * j + 4 * k) h (by omega) rfl ((ksB_0 _ k).symm.trans (K.from_at c j k 0 hk (by decide)).symm) (by omega)
    have h2 := H.one (o := od + 64 * j + 4 * k + 1) h1 (by omega) rfl ((ksB_1 _ k).symm.trans (K.from_at c j k 1 hk (by decide)).symm) (by omega)
    have h3 := H.one (o := od + 64 * j + 4 * k + 2) h2 (by omega) rfl ((ksB_2 _ k).symm.trans (K.from_at c j k 2 hk (by decide)).symm) (by omega)
    have h4 := H.one (o := od + 64 * j + 4 * k + 3) h3 (by omega) rfl ((ksB_3 _ k).symm.trans (K.from_at c j k 3 hk (by decide)).symm) (by omega)
    exact h4
theorem Buf.blocks {M : List UInt8 → UInt32 → World → Prop} {K : CK} {b bd od bs os : Nat} (H : Buf M K b bd od) {D s : List UInt8} (hS : Src M D s bd od bs os) (c : UInt32) {N : Nat} (hs : s.length = 64 * N) (hD : 64 * N ≤ D.length) :
    Blocks (fun j w => M (upd D s (K.from c) (64 * j)) (c + UInt32.ofNat j) w) N b bd od bs os 0x61707865 0x3320646e 0x79622d32 0x6b206574 K.c4 K.c5 K.c6 K.c7 K.c8 K.c9 K.c10 K.c11 K.c13 K.c14 K.c15 c where
  drewN := fun j w n h => H.drewN _ _ _ n h
  pcells := fun j w h => H.pcells _ _ c _ h
  step := fun j w h hj => ⟨_, H.words hS c hs hD j hj, h, fun w16 n h16 => by
    have := H.drewN _ _ _ n (H.setCtr _ _ (c + UInt32.ofNat (j + 1)) _ h16)
    rw [show c + UInt32.ofNat (j + 1) = c + UInt32.ofNat j + 1 by rw [UInt32.ofNat_add, ← UInt32.add_assoc]; rfl] at this
    rw [show c + UInt32.ofNat (j + 1) = c + UInt32.ofNat j + 1 by rw [UInt32.ofNat_add, ← UInt32.add_assoc]; rfl]
    exact this⟩
/-- a cipher's cells -/
def crow (K : CK) (c : UInt32) (buf : List UInt8) (len : Nat) (ovf pre : Bool) (p : List UInt32) : List Value :=
  [.int .u32 (u32 K.c4), .int .u32 (u32 K.c5), .int .u32 (u32 K.c6), .int .u32 (u32 K.c7), .int .u32 (u32 K.c8), .int .u32 (u32 K.c9), .int .u32 (u32 K.c10), .int .u32 (u32 K.c11), .int .u32 (u32 c), .int .u32 (u32 K.c13), .int .u32 (u32 K.c14), .int .u32 (u32 K.c15)] ++ (vals8 buf ++ ([.int .i64 (len : Int), .bool ovf, .bool pre] ++ p.map fun x => Value.int .u32 (u32 x)))
section crow
variable {K : CK} {c c' : UInt32} {buf : List UInt8} {len len' : Nat} {ovf pre o' : Bool} {p : List UInt32}
theorem crow_len (hb : buf.length = 64) (hp : p.length = 12) : (crow K c buf len ovf pre p).length = 91 := by simp [crow, vals8_len, hb, hp]
theorem crow_8 : (crow K c buf len ovf pre p)[8]? = some (.int .u32 (u32 c)) := rfl
theorem crow_buf {i : Nat} (hi : i < buf.length) : (crow K c buf len ovf pre p)[12 + i]? = some (.int .u8 (u8 (buf.getD i 0))) := by
  unfold crow
  rw [List.getElem?_append_right (by simp), List.getElem?_append_left (by rw [vals8_len]; simp; omega)]
  rw [← vals8_get hi]
  congr 1
  simp
theorem crow_tail {i : Nat} (hb : buf.length = 64) : (crow K c buf len ovf pre p)[76 + i]? = ([Value.int .i64 (len : Int), .bool ovf, .bool pre] ++ p.map fun x => Value.int .u32 (u32 x))[i]? := by
  unfold crow
  rw [List.getElem?_append_right (by simp; omega), List.getElem?_append_right (by rw [vals8_len]; simp; omega)]
  congr 1
  rw [vals8_len]; simp; omega
theorem crow_76 (hb : buf.length = 64) : (crow K c buf len ovf pre p)[76]? = some (.int .i64 (len : Int)) := crow_tail (i := 0) hb
theorem crow_77 (hb : buf.length = 64) : (crow K c buf len ovf pre p)[77]? = some (.bool ovf) := crow_tail (i := 1) hb
theorem crow_78 (hb : buf.length = 64) : (crow K c buf len ovf pre p)[78]? = some (.bool pre) := crow_tail (i := 2) hb
theorem crow_p {i : Nat} (hb : buf.length = 64) (hi : i < p.length) : (crow K c buf len ovf pre p)[79 + i]? = some (.int .u32 (u32 (p.getD i 0))) := by
  rw [show 79 + i = 76 + (3 + i) by omega, crow_tail hb, List.getElem?_append_right (by simp)]
  simp [hi]
theorem crow_set8 : (crow K c buf len ovf pre p).set 8 (.int .u32 (u32 c')) = crow K c' buf len ovf pre p := rfl
theorem crow_setbuf {i : Nat} {x : UInt8} (hi : i < buf.length) : (crow K c buf len ovf pre p).set (12 + i) (.int .u8 (u8 x)) = crow K c (buf.set i x) len ovf pre p := by
  unfold crow
  rw [List.set_append_right _ _ (by simp), List.set_append_left _ _ (by rw [vals8_len]; simp; omega)]
  congr 2
  simp [vals8, List.map_set]
theorem crow_settail {i : Nat} {x : Value} (hb : buf.length = 64) : (crow K c buf len ovf pre p).set (76 + i) x = [.int .u32 (u32 K.c4), .int .u32 (u32 K.c5), .int .u32 (u32 K.c6), .int .u32 (u32 K.c7), .int .u32 (u32 K.c8), .int .u32 (u32 K.c9), .int .u32 (u32 K.c10), .int .u32 (u32 K.c11), .int .u32 (u32 c), .int .u32 (u32 K.c13), .int .u32 (u32 K.c14), .int .u32 (u32 K.c15)] ++ (vals8 buf ++ ([Value.int .i64 (len : Int), .bool ovf, .bool pre] ++ p.map fun x => Value.int .u32 (u32 x)).set i x) := by
  unfold crow
  rw [List.set_append_right _ _ (by simp; omega), List.set_append_right _ _ (by rw [vals8_len]; simp; omega)]
  congr 3
  rw [vals8_len]; simp; omega
theorem crow_set76 (hb : buf.length = 64) : (crow K c buf len ovf pre p).set 76 (.int .i64 (len' : Int)) = crow K c buf len' ovf pre p := crow_settail (i := 0) hb
theorem crow_set77 (hb : buf.length = 64) : (crow K c buf len ovf pre p).set 77 (.bool o') = crow K c buf len o' pre p := crow_settail (i := 1) hb
theorem crow_set78 (hb : buf.length = 64) : (crow K c buf len ovf pre p).set 78 (.bool o') = crow K c buf len ovf o' p := crow_settail (i := 2) hb
theorem crow_setp {i : Nat} {x : UInt32} (hb : buf.length = 64) : (crow K c buf len ovf pre p).set (79 + i) (.int .u32 (u32 x)) = crow K c buf len ovf pre (p.set i x) := by
  rw [show 79 + i = 76 + (3 + i) by omega, crow_settail hb]
  unfold crow
  rw [List.set_append_right _ _ (by simp)]
  simp [List.map_set]
end crow
end Go.Proofs.Ytlafnkcmdnfcpaa
