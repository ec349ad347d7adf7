/-
  The relations of updateGeneric's loop, and what a round's first half does to them.
-/
import Derived.Test.YtlafnkcmdnfcpaaBlk
import Derived.Test.YtlafnkcmdnfcpaaCopy
namespace Go.Proofs.Ytlafnkcmdnfcpaa
open Go Go.RowKit
def UpdRel (w : World) (R : Nat) (E : Nat) (v1 v4 v5 v6 : Value) (wr : World) : Prop :=
  ∃ (rest : List UInt8) (h0 h1 h2 : UInt64), SlB wr v1 rest ∧ v4 = .int .u64 (u64 h0) ∧ v5 = .int .u64 (u64 h1) ∧ v6 = .int .u64 (u64 h2) ∧ h2.toNat ≤ 5 ∧
    Poly.runH R (Poly.val3 h0.toNat h1.toNat h2.toNat) (chunks rest) = E ∧ Fresh w wr
/-- between the two halves of a round -/
def MidRel (w : World) (R : Nat) (E : Nat) (n : Nat) (v1 v4 v5 v6 : Value) (wr : World) : Prop :=
  ∃ (rest : List UInt8) (h0 h1 h2 : UInt64), SlB wr v1 rest ∧ rest.length < n ∧ v4 = .int .u64 (u64 h0) ∧ v5 = .int .u64 (u64 h1) ∧ v6 = .int .u64 (u64 h2) ∧ h2.toNat ≤ 7 ∧
    Poly.runH R (Poly.redT (Poly.val3 h0.toNat h1.toNat h2.toNat * R)) (chunks rest) = E ∧ Fresh w wr
def lenOf : Value → Nat
  | .slice _ n _ => n
  | _ => 0
theorem SlB.dropped {w w' : World} {bm om cm : Nat} {rest : List UInt8} (k : Nat) (hk : k ≤ rest.length) (hlc : rest.length ≤ cm) (hmx : cm ≤ maxLen) (hc : BytesIn w bm om rest) (hf : Fresh w w') :
    SlB w' (.slice (some ⟨bm, om + k, none⟩) (rest.length - k) (cm - k)) (rest.drop k) := by
  have e : (rest.drop k).length = rest.length - k := List.length_drop
  have := SlB.of (w := w') (b := bm) (o := om + k) (c := cm - k) (l := rest.drop k) (by omega) (by omega) (fun i hi => by
    have := (hc.keeps hf (fun x => x)) (k + i) (by omega)
    rw [Nat.add_assoc, this]
    simp [List.getD, List.getElem?_drop])
  rwa [e] at this
theorem SlB.none_of {w : World} {ad : Addr} {c : Nat} (hc : c ≤ maxLen) : SlB w (.slice (some ad) 0 c) [] :=
  Or.inr ⟨ad, c, rfl, Nat.zero_le _, hc, fun j u hu => by simp [vals8] at hu⟩
theorem bW_true : bW true = 1 := rfl
theorem bW_false : bW false = 0 := rfl
theorem runH_nil (R H : Nat) : Poly.runH R H [] = H := rfl
theorem runH_cons (R H m : Nat) (ms : List Nat) : Poly.runH R H (m :: ms) = Poly.runH R (Poly.redT ((H + m) * R)) ms := rfl
theorem mid_full {w w2 : World} {R E : Nat} {rest : List UInt8} {x0 x1 x2 y0 y1 y2 : UInt64} {v : Value} (h16 : 16 ≤ rest.length) (hx : x2.toNat ≤ 5) (hrun : Poly.runH R (Poly.val3 x0.toNat x1.toNat x2.toNat) (chunks rest) = E)
    (hf : Fresh w w2) (hs : SlB w2 v (rest.drop 16)) (e0 : y0 = adW x0 (w64 (rest.take 8)) false) (e1 : y1 = adW x1 (w64 ((rest.drop 8).take 8)) (adB x0 (w64 (rest.take 8)) false))
    (e2 : y2 = x2 + (bW (adB x1 (w64 ((rest.drop 8).take 8)) (adB x0 (w64 (rest.take 8)) false)) + 1)) :
    MidRel w R E rest.length v (.int .u64 (u64 y0)) (.int .u64 (u64 y1)) (.int .u64 (u64 y2)) w2 := by
  obtain ⟨a1, a2⟩ := addL x0 x1 x2 _ _ true hx y0 y1 y2 e0 e1 (e2.trans (by rw [bW_true]))
  refine ⟨rest.drop 16, y0, y1, y2, hs, by rw [List.length_drop]; omega, rfl, rfl, rfl, a2, ?_, hf⟩
  rw [a1, ← hrun, chunks_cons rest (by omega), blk_take rest h16, runH_cons]
  simp only [Bool.toNat_true, Nat.one_mul]
theorem zeros16 : #[Value.int IntKind.u8 0, Value.int IntKind.u8 0, Value.int IntKind.u8 0, Value.int IntKind.u8 0, Value.int IntKind.u8 0, Value.int IntKind.u8 0, Value.int IntKind.u8 0, Value.int IntKind.u8 0,
    Value.int IntKind.u8 0, Value.int IntKind.u8 0, Value.int IntKind.u8 0, Value.int IntKind.u8 0, Value.int IntKind.u8 0, Value.int IntKind.u8 0, Value.int IntKind.u8 0, Value.int IntKind.u8 0] = (vals8 (List.replicate 16 0)).toArray := rfl
theorem splice_vals8 (L l : List UInt8) (k : Nat) : splice (vals8 L) k (vals8 l) = vals8 (splice L k l) := by simp [splice, vals8]
theorem splice_zeros (l : List UInt8) (h : l.length < 16) : splice (List.replicate 16 (0 : UInt8)) 0 (l.take 16) = l ++ List.replicate (16 - l.length) 0 := by
  rw [List.take_of_length_le (by omega)]
  unfold splice
  rw [List.drop_replicate, Nat.zero_add]
  rfl
theorem zeros_set (l : List UInt8) (h : l.length < 16) : (l ++ List.replicate (16 - l.length) (0 : UInt8)).set l.length 1 = padded l := by
  obtain ⟨n, hn⟩ : ∃ n, 16 - l.length = n + 1 := ⟨15 - l.length, by omega⟩
  have hn' : 15 - l.length = n := by omega
  unfold padded
  rw [hn, hn', List.set_append_right _ _ (Nat.le_refl _), Nat.sub_self, List.replicate_succ, List.set_cons_zero]
theorem cells8_vals8 (l : List UInt8) : (vals8 l).toArray = cells8 l := rfl
theorem BytesIn.of {w : World} {b : Nat} {T : TypeId} {l : List UInt8} (h : w.heap[b]? = some (.cells (cells8 l) T (0, 0))) : BytesIn w b 0 l := by
  intro i hi
  rw [Nat.zero_add, cell_block h, cells8_get hi]
theorem buf_block {w : World} {g : Nat} {T : TypeId} {rest : List UInt8} (h : rest.length < 16) (hg : w.heap[g]? = some (.cells (splice (vals8 (List.replicate 16 0)) 0 (vals8 (rest.take 16))).toArray T (0, 0))) :
    w.heap[g]? = some (.cells (cells8 (rest ++ List.replicate (16 - rest.length) 0)) T (0, 0)) := by
  rw [splice_vals8, splice_zeros rest h] at hg; exact hg
theorem buf_cell {w : World} {g : Nat} {T : TypeId} {rest : List UInt8} (h : rest.length < 16) (hg : w.heap[g]? = some (.cells (cells8 (rest ++ List.replicate (16 - rest.length) 0)) T (0, 0))) :
    w.cell? ⟨g, rest.length, none⟩ = some (.int .u8 (u8 0)) := by
  rw [cell_block hg, cells8_get (by simp; omega)]
  obtain ⟨n, hn⟩ : ∃ n, 16 - rest.length = n + 1 := ⟨15 - rest.length, by omega⟩
  rw [hn]
  simp [List.getD]
theorem buf_set {w : World} {g : Nat} {T : TypeId} {rest : List UInt8} (h : rest.length < 16) (hg : w.heap[g]? = some (.cells (cells8 (rest ++ List.replicate (16 - rest.length) 0)) T (0, 0))) :
    BytesIn (w.setCell ⟨g, rest.length, none⟩ (.int .u8 1)) g 0 (padded rest) := by
  have := block_set (i := rest.length) (v := .int .u8 (u8 1)) hg
  rw [cells8_set, zeros_set rest h] at this
  exact BytesIn.of this
theorem mid_part {w w2 : World} {R E : Nat} {rest : List UInt8} {x0 x1 x2 y0 y1 y2 : UInt64} {v : Value} (h0 : 0 < rest.length) (h16 : rest.length < 16) (hx : x2.toNat ≤ 5) (hrun : Poly.runH R (Poly.val3 x0.toNat x1.toNat x2.toNat) (chunks rest) = E)
    (hf : Fresh w w2) (hs : SlB w2 v []) (e0 : y0 = adW x0 (w64 ((padded rest).take 8)) false) (e1 : y1 = adW x1 (w64 (((padded rest).drop 8).take 8)) (adB x0 (w64 ((padded rest).take 8)) false))
    (e2 : y2 = x2 + bW (adB x1 (w64 (((padded rest).drop 8).take 8)) (adB x0 (w64 ((padded rest).take 8)) false))) :
    MidRel w R E rest.length v (.int .u64 (u64 y0)) (.int .u64 (u64 y1)) (.int .u64 (u64 y2)) w2 := by
  obtain ⟨a1, a2⟩ := addL x0 x1 x2 _ _ false hx y0 y1 y2 e0 e1 (e2.trans (by rw [bW_false, UInt64.add_zero]))
  refine ⟨[], y0, y1, y2, hs, h0, rfl, rfl, rfl, a2, ?_, hf⟩
  rw [a1, ← hrun, chunks_short rest h0 (by omega), mblk_part rest h16, runH_cons, Bool.toNat_false, Nat.zero_mul, Nat.add_zero, chunks_nil]
theorem SlB.lenOf {w : World} {v : Value} {l : List UInt8} (h : SlB w v l) : lenOf v = l.length := by
  rcases h with ⟨rfl, rfl⟩ | ⟨ad, c, rfl, -⟩ <;> rfl
/-- a round's second half -/
theorem mupd_next {w wc w2 : World} {E : Nat} {rest : List UInt8} {h0 h1 h2 r0 r1 : UInt64} {v : Value} (hs : SlB wc v rest) (hh : h2.toNat ≤ 7)
    (hrun : Poly.runH (r0.toNat + r1.toNat * 18446744073709551616) (Poly.redT (Poly.val3 h0.toNat h1.toNat h2.toNat * (r0.toNat + r1.toNat * 18446744073709551616))) (chunks rest) = E)
    (hf : Fresh w wc) (hf2 : Fresh wc w2) (hr0 : r0.toNat < 1152921504606846976) (hr1 : r1.toNat < 1152921504606846976)
    (a1 a2 b1 b2 t0 t1 t2 t3 cl u0 u1 u2 v0 v1 v2 : UInt64) (c1 c2 k0 k1 j0 j1 : Bool)
    (ea1 : a1 = adW (mlo h1 r0) (mlo h0 r1) false) (ea2 : a2 = adW (mhi h1 r0) (mhi h0 r1) (adB (mlo h1 r0) (mlo h0 r1) false))
    (eb1 : b1 = adW (mlo h2 r0) (mlo h1 r1) false) (eb2 : b2 = adW 0 (mhi h1 r1) (adB (mlo h2 r0) (mlo h1 r1) false))
    (et0 : t0 = mlo h0 r0) (et1 : t1 = adW a1 (mhi h0 r0) false) (ec1 : c1 = adB a1 (mhi h0 r0) false)
    (et2 : t2 = adW b1 a2 c1) (ec2 : c2 = adB b1 a2 c1) (et3 : t3 = adW (mlo h2 r1) b2 c2)
    (ecl : cl = t2 &&& (18446744073709551612 : UInt64))
    (eu0 : u0 = adW t0 cl false) (ek0 : k0 = adB t0 cl false) (eu1 : u1 = adW t1 t3 k0) (ek1 : k1 = adB t1 t3 k0) (eu2 : u2 = (t2 &&& 3) + bW k1)
    (ev0 : v0 = adW u0 (sh2 cl t3) false) (ej0 : j0 = adB u0 (sh2 cl t3) false) (ev1 : v1 = adW u1 (t3 >>> 2) j0) (ej1 : j1 = adB u1 (t3 >>> 2) j0) (ev2 : v2 = u2 + bW j1) :
    UpdRel w (r0.toNat + r1.toNat * 18446744073709551616) E v (.int .u64 (u64 v0)) (.int .u64 (u64 v1)) (.int .u64 (u64 v2)) w2 := by
  have hz := mhi_small h2 r0 hh hr0
  obtain ⟨m1, m2⟩ := mulred_ok h0 h1 h2 r0 r1 hh hr0 hr1 a1 a2 b1 b2 t0 t1 t2 t3 cl u0 u1 u2 v0 v1 v2 c1 c2 k0 k1 j0 j1 ea1 ea2 eb1 (by rw [hz]; exact eb2) et0 et1 ec1 et2 ec2 et3 ecl eu0 ek0 eu1 ek1 eu2 ev0 ej0 ev1 ej1 ev2
  refine ⟨rest, v0, v1, v2, hs.fresh hf2, rfl, rfl, rfl, m2, ?_, hf.then hf2 (fun _ _ h => h)⟩
  rw [m1]
  exact hrun
end Go.Proofs.Ytlafnkcmdnfcpaa
