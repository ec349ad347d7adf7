/-
  Contract: chacha20.addXor.
-/
import Derived.Test.YtlafnkcmdnfcpaaLe32
namespace Go.Proofs.Ytlafnkcmdnfcpaa
open Go Go.RowKit
/-- four bytes put into a block -/
def W4 (w : World) (b o : Nat) (y0 y1 y2 y3 : UInt8) : World :=
  (((w.setCell ⟨b, o, none⟩ (.int .u8 (u8 y0))).setCell ⟨b, o + 1, none⟩ (.int .u8 (u8 y1))).setCell ⟨b, o + 2, none⟩ (.int .u8 (u8 y2))).setCell ⟨b, o + 3, none⟩ (.int .u8 (u8 y3))
set_option maxRecDepth 100000 in
theorem addXor_c (bd od nd cd bs os ns cs : Nat) (x0 x1 x2 x3 : UInt8) (v0 v1 v2 v3 : Value) (a b : UInt32) (w : World) (hn : (4 : Int) ≤ nd) (hs : (4 : Int) ≤ ns)
    (d0 : w.cell? ⟨bd, od, none⟩ = some v0) (d1 : w.cell? ⟨bd, od + 1, none⟩ = some v1) (d2 : w.cell? ⟨bd, od + 2, none⟩ = some v2) (d3 : w.cell? ⟨bd, od + 3, none⟩ = some v3) (fz : ∀ i, w.frozen? ⟨bd, i, none⟩ = false)
    (s0 : w.cell? ⟨bs, os, none⟩ = some (.int .u8 (u8 x0))) (s1 : w.cell? ⟨bs, os + 1, none⟩ = some (.int .u8 (u8 x1))) (s2 : w.cell? ⟨bs, os + 2, none⟩ = some (.int .u8 (u8 x2))) (s3 : w.cell? ⟨bs, os + 3, none⟩ = some (.int .u8 (u8 x3))) :
    Calls Try.prog 83 #[.slice (some ⟨bd, od, none⟩) nd cd, .slice (some ⟨bs, os, none⟩) ns cs, .int .u32 (u32 a), .int .u32 (u32 b)] w fun e w' =>
      e = .returned (.tuple #[]) ∧ ∃ n, w' = (W4 w bd od (x0 ^^^ Byt.by0 (a + b)) (x1 ^^^ Byt.by1 (a + b)) (x2 ^^^ Byt.by2 (a + b)) (x3 ^^^ Byt.by3 (a + b))).drewN n := by
  go_enter Try.func83, Try.ntmps83
  go_wp2
  go_quiet (fail)
  go_wp2
  go_end0
  refine ⟨rfl, _, congrArg (fun x => World.drewN x _) ?_⟩
  rw [← Byt.by0_le x0 x1 x2 x3, ← Byt.by1_le x0 x1 x2 x3, ← Byt.by2_le x0 x1 x2 x3, ← Byt.by3_le x0 x1 x2 x3]
  unfold W4 Byt.by0 Byt.by1 Byt.by2 Byt.by3 Byt.le32
  simp
end Go.Proofs.Ytlafnkcmdnfcpaa
