/-
  The walk of laws.FnLess, behind its script.
-/
import Derived.Test.YtaapglpnofmmlaaMakeN
import Derived.Deep.QuietTactic
namespace Go.Proofs.Ytaapglpnofmmlaa
open Go Go.RowKit
set_option linter.unusedVariables false
attribute [local irreducible] Cha.iter Cha.rounds Cha.dbl Cha.qr ckOf run doA doN CK.ks withinB xs
noncomputable def lsBody : Code := Try.f10.body.getD .skip
noncomputable def ls6 : Code := rgt (rgt (rgt (rgt (rgt lsBody))))
noncomputable def ls5 : Code := rgt (rgt (rgt (rgt lsBody)))
set_option maxRecDepth 100000 in
set_option maxHeartbeats 4000000 in
theorem ls6_c (R : Ending → World → Prop) (g cp : Nat) (r0 r1 r2 r3 r4 r5 r6 r7 r8 r9 r10 r11 r12 r13 r14 r15 r16 r19 r20 r21 r22 r23 r24 r25 r26 r27 r28 r29 r30 r31 r32 r33 r34 r35 r36 r37 r38 r39 r40 r41 r42 r43 r44 r45 r46 r47 r48 r49 r50 r51 r52 r53 r54 r55 r56 r57 r58 r59 r60 r61 r62 r63 r64 r65 r66 r67 r68 r69 r70 r71 r72 r73 r74 r75 r76 r77 r78 r79 r80 r81 r82 r83 r84 r85 r86 r87 r88 r89 r90 r91 r92 : Value) (w : World) (hcp : 4 ≤ cp) (c1 : w.cell? ⟨g, 1, none⟩ = some (.bool false)) (c3 : w.cell? ⟨g, 3, none⟩ = some (.bool false)) (c5 : w.cell? ⟨g, 5, none⟩ = some (.bool false)) (c7 : w.cell? ⟨g, 7, none⟩ = some (.bool true))
    (h : R (.returned (.bool true)) w) : Code.wp Try.prog ls6 (bodyPost Try.prog Try.f10 R) ⟨#[r0, r1, r2, r3, r4, r5, r6, r7, r8, r9, r10, r11, r12, r13, r14, r15, r16, .slice (some ⟨g, 0, none⟩) 4 cp, .bool true, r19, r20, r21, r22, r23, r24, r25, r26, r27, r28, r29, r30, r31, r32, r33, r34, r35, r36, r37, r38, r39, r40, r41, r42, r43, r44, r45, r46, r47, r48, r49, r50, r51, r52, r53, r54, r55, r56, r57, r58, r59, r60, r61, r62, r63, r64, r65, r66, r67, r68, r69, r70, r71, r72, r73, r74, r75, r76, r77, r78, r79, r80, r81, r82, r83, r84, r85, r86, r87, r88, r89, r90, r91, r92], []⟩ w := by
  conv => arg 2; whnf
  dsimp only
  have HH := Lib.hid h
  clear h
  go_wp2_with fail
  exact HH.out
end Go.Proofs.Ytaapglpnofmmlaa
