/-
  Plain: the quarter round, the rounds, words as bytes. No program in sight.
-/
namespace Go.Proofs.Ytlafnkcmdnfcpaa.Cha
def rot (x n : UInt32) : UInt32 := (x <<< n) ||| (x >>> (32 - n))
structure Q where
  a : UInt32
  b : UInt32
  c : UInt32
  d : UInt32
def qr (a b c d : UInt32) : Q :=
  let a := a + b
  let d := rot (d ^^^ a) 16
  let c := c + d
  let b := rot (b ^^^ c) 12
  let a := a + b
  let d := rot (d ^^^ a) 8
  let c := c + d
  let b := rot (b ^^^ c) 7
  ⟨a, b, c, d⟩
def quarter (l : List UInt32) (i j k m : Nat) : List UInt32 :=
  let q := qr (l.getD i 0) (l.getD j 0) (l.getD k 0) (l.getD m 0)
  (((l.set i q.a).set j q.b).set k q.c).set m q.d
def dbl (l : List UInt32) : List UInt32 :=
  let l := quarter l 0 4 8 12
  let l := quarter l 1 5 9 13
  let l := quarter l 2 6 10 14
  let l := quarter l 3 7 11 15
  let l := quarter l 0 5 10 15
  let l := quarter l 1 6 11 12
  let l := quarter l 2 7 8 13
  quarter l 3 4 9 14
def iter (n : Nat) (l : List UInt32) : List UInt32 := Nat.repeat dbl n l
def rounds (l : List UInt32) : List UInt32 := iter 10 l

theorem iter_succ (n : Nat) (l : List UInt32) : iter (n + 1) l = dbl (iter n l) := rfl
theorem iter_zero (l : List UInt32) : iter 0 l = l := rfl
theorem rounds_eq (l : List UInt32) : rounds l = iter 10 l := rfl
section
variable (x0 x1 x2 x3 x4 x5 x6 x7 x8 x9 x10 x11 x12 x13 x14 x15 : UInt32)
theorem quarter_0_4 : quarter [x0, x1, x2, x3, x4, x5, x6, x7, x8, x9, x10, x11, x12, x13, x14, x15] 0 4 8 12 = [(qr x0 x4 x8 x12).a, x1, x2, x3, (qr x0 x4 x8 x12).b, x5, x6, x7, (qr x0 x4 x8 x12).c, x9, x10, x11, (qr x0 x4 x8 x12).d, x13, x14, x15] := rfl
theorem quarter_1_5 : quarter [x0, x1, x2, x3, x4, x5, x6, x7, x8, x9, x10, x11, x12, x13, x14, x15] 1 5 9 13 = [x0, (qr x1 x5 x9 x13).a, x2, x3, x4, (qr x1 x5 x9 x13).b, x6, x7, x8, (qr x1 x5 x9 x13).c, x10, x11, x12, (qr x1 x5 x9 x13).d, x14, x15] := rfl
theorem quarter_2_6 : quarter [x0, x1, x2, x3, x4, x5, x6, x7, x8, x9, x10, x11, x12, x13, x14, x15] 2 6 10 14 = [x0, x1, (qr x2 x6 x10 x14).a, x3, x4, x5, (qr x2 x6 x10 x14).b, x7, x8, x9, (qr x2 x6 x10 x14).c, x11, x12, x13, (qr x2 x6 x10 x14).d, x15] := rfl
theorem quarter_3_7 : quarter [x0, x1, x2, x3, x4, x5, x6, x7, x8, x9, x10, x11, x12, x13, x14, x15] 3 7 11 15 = [x0, x1, x2, (qr x3 x7 x11 x15).a, x4, x5, x6, (qr x3 x7 x11 x15).b, x8, x9, x10, (qr x3 x7 x11 x15).c, x12, x13, x14, (qr x3 x7 x11 x15).d] := rfl
theorem quarter_0_5 : quarter [x0, x1, x2, x3, x4, x5, x6, x7, x8, x9, x10, x11, x12, x13, x14, x15] 0 5 10 15 = [(qr x0 x5 x10 x15).a, x1, x2, x3, x4, (qr x0 x5 x10 x15).b, x6, x7, x8, x9, (qr x0 x5 x10 x15).c, x11, x12, x13, x14, (qr x0 x5 x10 x15).d] := rfl
theorem quarter_1_6 : quarter [x0, x1, x2, x3, x4, x5, x6, x7, x8, x9, x10, x11, x12, x13, x14, x15] 1 6 11 12 = [x0, (qr x1 x6 x11 x12).a, x2, x3, x4, x5, (qr x1 x6 x11 x12).b, x7, x8, x9, x10, (qr x1 x6 x11 x12).c, (qr x1 x6 x11 x12).d, x13, x14, x15] := rfl
theorem quarter_2_7 : quarter [x0, x1, x2, x3, x4, x5, x6, x7, x8, x9, x10, x11, x12, x13, x14, x15] 2 7 8 13 = [x0, x1, (qr x2 x7 x8 x13).a, x3, x4, x5, x6, (qr x2 x7 x8 x13).b, (qr x2 x7 x8 x13).c, x9, x10, x11, x12, (qr x2 x7 x8 x13).d, x14, x15] := rfl
theorem quarter_3_4 : quarter [x0, x1, x2, x3, x4, x5, x6, x7, x8, x9, x10, x11, x12, x13, x14, x15] 3 4 9 14 = [x0, x1, x2, (qr x3 x4 x9 x14).a, (qr x3 x4 x9 x14).b, x5, x6, x7, x8, (qr x3 x4 x9 x14).c, x10, x11, x12, x13, (qr x3 x4 x9 x14).d, x15] := rfl
end
theorem dbl_lit (x0 x1 x2 x3 x4 x5 x6 x7 x8 x9 x10 x11 x12 x13 x14 x15 : UInt32) (A : Q) (B : Q) (C : Q) (D : Q) (E : Q) (F : Q) (G : Q) (H : Q) (hA : A = qr x0 x4 x8 x12) (hB : B = qr x1 x5 x9 x13) (hC : C = qr x2 x6 x10 x14) (hD : D = qr x3 x7 x11 x15) (hE : E = qr A.a B.b C.c D.d) (hF : F = qr B.a C.b D.c A.d) (hG : G = qr C.a D.b A.c B.d) (hH : H = qr D.a A.b B.c C.d) :
    dbl [x0, x1, x2, x3, x4, x5, x6, x7, x8, x9, x10, x11, x12, x13, x14, x15] = [E.a, F.a, G.a, H.a, H.b, E.b, F.b, G.b, G.c, H.c, E.c, F.c, F.d, G.d, H.d, E.d] := by
  unfold dbl
  dsimp only
  rw [quarter_0_4, ← hA]
  rw [quarter_1_5, ← hB]
  rw [quarter_2_6, ← hC]
  rw [quarter_3_7, ← hD]
  rw [quarter_0_5, ← hE]
  rw [quarter_1_6, ← hF]
  rw [quarter_2_7, ← hG]
  rw [quarter_3_4, ← hH]
end Go.Proofs.Ytlafnkcmdnfcpaa.Cha
namespace Go.Proofs.Ytlafnkcmdnfcpaa.Byt
def le32 (a b c d : UInt8) : UInt32 := a.toUInt32 ||| (b.toUInt32 <<< 8) ||| (c.toUInt32 <<< 16) ||| (d.toUInt32 <<< 24)
def by0 (x : UInt32) : UInt8 := x.toUInt8
def by1 (x : UInt32) : UInt8 := (x >>> 8).toUInt8
def by2 (x : UInt32) : UInt8 := (x >>> 16).toUInt8
def by3 (x : UInt32) : UInt8 := (x >>> 24).toUInt8
def bytes32 (x : UInt32) : List UInt8 := [by0 x, by1 x, by2 x, by3 x]

theorem by0_le (a b c d : UInt8) (x : UInt32) : by0 (le32 a b c d ^^^ x) = a ^^^ by0 x := by
  unfold by0 le32
  apply UInt8.toBitVec_inj.1
  apply BitVec.eq_of_getLsbD_eq
  intro i hi
  simp
  try (have h8 : i = 0 ∨ i = 1 ∨ i = 2 ∨ i = 3 ∨ i = 4 ∨ i = 5 ∨ i = 6 ∨ i = 7 := by omega
       rcases h8 with rfl | rfl | rfl | rfl | rfl | rfl | rfl | rfl <;> simp)
theorem by1_le (a b c d : UInt8) (x : UInt32) : by1 (le32 a b c d ^^^ x) = b ^^^ by1 x := by
  unfold by1 le32
  apply UInt8.toBitVec_inj.1
  apply BitVec.eq_of_getLsbD_eq
  intro i hi
  simp
  try (have h8 : i = 0 ∨ i = 1 ∨ i = 2 ∨ i = 3 ∨ i = 4 ∨ i = 5 ∨ i = 6 ∨ i = 7 := by omega
       rcases h8 with rfl | rfl | rfl | rfl | rfl | rfl | rfl | rfl <;> simp)
theorem by2_le (a b c d : UInt8) (x : UInt32) : by2 (le32 a b c d ^^^ x) = c ^^^ by2 x := by
  unfold by2 le32
  apply UInt8.toBitVec_inj.1
  apply BitVec.eq_of_getLsbD_eq
  intro i hi
  simp
  try (have h8 : i = 0 ∨ i = 1 ∨ i = 2 ∨ i = 3 ∨ i = 4 ∨ i = 5 ∨ i = 6 ∨ i = 7 := by omega
       rcases h8 with rfl | rfl | rfl | rfl | rfl | rfl | rfl | rfl <;> simp)
theorem by3_le (a b c d : UInt8) (x : UInt32) : by3 (le32 a b c d ^^^ x) = d ^^^ by3 x := by
  unfold by3 le32
  apply UInt8.toBitVec_inj.1
  apply BitVec.eq_of_getLsbD_eq
  intro i hi
  simp
  try (have h8 : i = 0 ∨ i = 1 ∨ i = 2 ∨ i = 3 ∨ i = 4 ∨ i = 5 ∨ i = 6 ∨ i = 7 := by omega
       rcases h8 with rfl | rfl | rfl | rfl | rfl | rfl | rfl | rfl <;> simp)
end Go.Proofs.Ytlafnkcmdnfcpaa.Byt
