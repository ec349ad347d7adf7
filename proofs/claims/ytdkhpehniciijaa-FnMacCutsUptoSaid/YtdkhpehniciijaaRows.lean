/-
  No cell of these rows narrows 'for every input' (looked for: loops, veiled, ifaces, maps, wideKeys, modest, calm, conditions, laid).
  DERIVED. THE GIVEN ROWS OF THIS SEAT. 12 by the template 'for every input the law returns true; each argument reads behind the call as it read before'; 0 by the template 'total and deterministic' (their statements: YtdkhpehniciijaaTotals.lean).
  GIVEN WITH THE SEED: the statements are not yours to turn. If you find one false, say at which input.
  Laid BY PROGRAM, IN A SANDBOX (cutbox-rows.mjs): the forced cells as the released guide's own fill.sh prints them over the translation 94cf573c6da69dd1… (all of the seat's roots in one cut). By AI agents, Wed Nov 11 2026. No macro, syntax, notation, axiom, sorry.
-/
import Derived.Test.YtdkhpehniciijaaChecked
import GoSem.Claim
import GoSem.ClaimJoined
import GoSem.ClaimMapViews
import Derived.JoinedTies
import Derived.KernelRfl
namespace Go.Proofs.Ytdkhpehniciijaa
/- THE CELL 'sum', in the pinned program and in every row, IS THE sha256 OF THE DUMP (.gsa) THAT YtdkhpehniciijaaProg.lean LOADS. Nothing in Lean hashes anything: it is a label: what it is worth is what the hold of that sum in a sandbox is worth. -/
noncomputable def Try.pinned : Pinned := { name := "ytdkhpehniciijaa", sum := "94cf573c6da69dd175b80721b8e588061be855e1ac25566472854577e6306ac4", checked := Try.checked }
namespace Rows
def none {H : Type} : Left H := { results := [], args := [] }

/-- 'laws.FnClamp': WHATEVER THE INPUT: true; the input reads as it did. -/
def fnClampSpec : ChangeSpec := { name := "fnClamp", fn := fun _ => fun
  | [d1, d2] => { results := [.lit (.bool true)], args := [d1, d2] }
  | _ => none }
def fnClampRow : OpenClaim := { program := "ytdkhpehniciijaa", sum := "94cf573c6da69dd175b80721b8e588061be855e1ac25566472854577e6306ac4", func := "loop.example/pub-g03118/laws.FnClamp", spec := "fnClamp", inPlace := ["math/bits.Add64", "math/bits.Sub64"], named := ["encoding/binary.LittleEndian"], apart := false }
def FnClampSaid : Prop := fnClampRow.holds Try.pinned (OpenSpec.ofChange fnClampSpec)

/-- ITS FALSE NEIGHBOUR: 'it returns false'. Refute it at one input. -/
def fnClampWrong : ChangeSpec := { name := "fnClamp", fn := fun _ => fun
  | [d1, d2] => { results := [.lit (.bool false)], args := [d1, d2] }
  | _ => none }
def FnClampWrongFalsely : Prop := fnClampRow.holds Try.pinned (OpenSpec.ofChange fnClampWrong)

/-- 'laws.FnNothing': WHATEVER THE INPUT: true; the input reads as it did. -/
def fnNothingSpec : ChangeSpec := { name := "fnNothing", fn := fun _ => fun
  | [d] => { results := [.lit (.bool true)], args := [d] }
  | _ => none }
def fnNothingRow : OpenClaim := { program := "ytdkhpehniciijaa", sum := "94cf573c6da69dd175b80721b8e588061be855e1ac25566472854577e6306ac4", func := "loop.example/pub-g03118/laws.FnNothing", spec := "fnNothing", inPlace := ["math/bits.Add64", "math/bits.Sub64"], named := ["encoding/binary.LittleEndian"], apart := false }
def FnNothingSaid : Prop := fnNothingRow.holds Try.pinned (OpenSpec.ofChange fnNothingSpec)

/-- ITS FALSE NEIGHBOUR: 'it returns false'. Refute it at one input. -/
def fnNothingWrong : ChangeSpec := { name := "fnNothing", fn := fun _ => fun
  | [d] => { results := [.lit (.bool false)], args := [d] }
  | _ => none }
def FnNothingWrongFalsely : Prop := fnNothingRow.holds Try.pinned (OpenSpec.ofChange fnNothingWrong)

/-- 'laws.FnShift': WHATEVER THE INPUT: true; the input reads as it did. -/
def fnShiftSpec : ChangeSpec := { name := "fnShift", fn := fun _ => fun
  | [d1, d2] => { results := [.lit (.bool true)], args := [d1, d2] }
  | _ => none }
def fnShiftRow : OpenClaim := { program := "ytdkhpehniciijaa", sum := "94cf573c6da69dd175b80721b8e588061be855e1ac25566472854577e6306ac4", func := "loop.example/pub-g03118/laws.FnShift", spec := "fnShift", inPlace := ["math/bits.Add64", "math/bits.Sub64"], named := ["encoding/binary.LittleEndian"], apart := false }
def FnShiftSaid : Prop := fnShiftRow.holds Try.pinned (OpenSpec.ofChange fnShiftSpec)

/-- ITS FALSE NEIGHBOUR: 'it returns false'. Refute it at one input. -/
def fnShiftWrong : ChangeSpec := { name := "fnShift", fn := fun _ => fun
  | [d1, d2] => { results := [.lit (.bool false)], args := [d1, d2] }
  | _ => none }
def FnShiftWrongFalsely : Prop := fnShiftRow.holds Try.pinned (OpenSpec.ofChange fnShiftWrong)

/-- 'laws.FnTag': WHATEVER THE INPUT: true; the input reads as it did. -/
def fnTagSpec : ChangeSpec := { name := "fnTag", fn := fun _ => fun
  | [d1, d2] => { results := [.lit (.bool true)], args := [d1, d2] }
  | _ => none }
def fnTagRow : OpenClaim := { program := "ytdkhpehniciijaa", sum := "94cf573c6da69dd175b80721b8e588061be855e1ac25566472854577e6306ac4", func := "loop.example/pub-g03118/laws.FnTag", spec := "fnTag", inPlace := ["math/bits.Add64", "math/bits.Sub64"], named := ["encoding/binary.LittleEndian"], apart := false }
def FnTagSaid : Prop := fnTagRow.holds Try.pinned (OpenSpec.ofChange fnTagSpec)

/-- ITS FALSE NEIGHBOUR: 'it returns false'. Refute it at one input. -/
def fnTagWrong : ChangeSpec := { name := "fnTag", fn := fun _ => fun
  | [d1, d2] => { results := [.lit (.bool false)], args := [d1, d2] }
  | _ => none }
def FnTagWrongFalsely : Prop := fnTagRow.holds Try.pinned (OpenSpec.ofChange fnTagWrong)

/-- 'laws.FnZero': WHATEVER THE INPUT: true; the input reads as it did. -/
def fnZeroSpec : ChangeSpec := { name := "fnZero", fn := fun _ => fun
  | [d1, d2] => { results := [.lit (.bool true)], args := [d1, d2] }
  | _ => none }
def fnZeroRow : OpenClaim := { program := "ytdkhpehniciijaa", sum := "94cf573c6da69dd175b80721b8e588061be855e1ac25566472854577e6306ac4", func := "loop.example/pub-g03118/laws.FnZero", spec := "fnZero", inPlace := ["math/bits.Add64", "math/bits.Sub64"], named := ["encoding/binary.LittleEndian"], apart := false }
def FnZeroSaid : Prop := fnZeroRow.holds Try.pinned (OpenSpec.ofChange fnZeroSpec)

/-- ITS FALSE NEIGHBOUR: 'it returns false'. Refute it at one input. -/
def fnZeroWrong : ChangeSpec := { name := "fnZero", fn := fun _ => fun
  | [d1, d2] => { results := [.lit (.bool false)], args := [d1, d2] }
  | _ => none }
def FnZeroWrongFalsely : Prop := fnZeroRow.holds Try.pinned (OpenSpec.ofChange fnZeroWrong)

/-- 'laws.FnCheck': WHATEVER THE INPUT: true; the input reads as it did. -/
def fnCheckSpec : ChangeSpec := { name := "fnCheck", fn := fun _ => fun
  | [d1, d2, d3] => { results := [.lit (.bool true)], args := [d1, d2, d3] }
  | _ => none }
def fnCheckRow : OpenClaim := { program := "ytdkhpehniciijaa", sum := "94cf573c6da69dd175b80721b8e588061be855e1ac25566472854577e6306ac4", func := "loop.example/pub-g03118/laws.FnCheck", spec := "fnCheck", inPlace := ["math/bits.Add64", "math/bits.Sub64", "crypto/internal/constanttime.boolToUint8"], named := ["encoding/binary.LittleEndian"], apart := false }
def FnCheckSaid : Prop := fnCheckRow.holds Try.pinned (OpenSpec.ofChange fnCheckSpec)

/-- ITS FALSE NEIGHBOUR: 'it returns false'. Refute it at one input. -/
def fnCheckWrong : ChangeSpec := { name := "fnCheck", fn := fun _ => fun
  | [d1, d2, d3] => { results := [.lit (.bool false)], args := [d1, d2, d3] }
  | _ => none }
def FnCheckWrongFalsely : Prop := fnCheckRow.holds Try.pinned (OpenSpec.ofChange fnCheckWrong)

/-- 'laws.FnClosed': WHATEVER THE INPUT: true; the input reads as it did. -/
def fnClosedSpec : ChangeSpec := { name := "fnClosed", fn := fun _ => fun
  | [d1, d2, d3] => { results := [.lit (.bool true)], args := [d1, d2, d3] }
  | _ => none }
def fnClosedRow : OpenClaim := { program := "ytdkhpehniciijaa", sum := "94cf573c6da69dd175b80721b8e588061be855e1ac25566472854577e6306ac4", func := "loop.example/pub-g03118/laws.FnClosed", spec := "fnClosed", inPlace := ["math/bits.Add64", "math/bits.Sub64", "crypto/internal/constanttime.boolToUint8"], unfollowed := true, recurses := true, named := ["encoding/binary.LittleEndian"], apart := false }
def FnClosedSaid : Prop := fnClosedRow.holds Try.pinned (OpenSpec.ofChange fnClosedSpec)

/-- ITS FALSE NEIGHBOUR: 'it returns false'. Refute it at one input. -/
def fnClosedWrong : ChangeSpec := { name := "fnClosed", fn := fun _ => fun
  | [d1, d2, d3] => { results := [.lit (.bool false)], args := [d1, d2, d3] }
  | _ => none }
def FnClosedWrongFalsely : Prop := fnClosedRow.holds Try.pinned (OpenSpec.ofChange fnClosedWrong)

/-- 'laws.FnSession': WHATEVER THE INPUT: true; the input reads as it did. -/
def fnSessionSpec : ChangeSpec := { name := "fnSession", fn := fun _ => fun
  | [d1, d2] => { results := [.lit (.bool true)], args := [d1, d2] }
  | _ => none }
def fnSessionRow : OpenClaim := { program := "ytdkhpehniciijaa", sum := "94cf573c6da69dd175b80721b8e588061be855e1ac25566472854577e6306ac4", func := "loop.example/pub-g03118/laws.FnSession", spec := "fnSession", inPlace := ["math/bits.Add64", "math/bits.Sub64", "crypto/internal/constanttime.boolToUint8"], unfollowed := true, recurses := true, named := ["encoding/binary.LittleEndian"], apart := false }
def FnSessionSaid : Prop := fnSessionRow.holds Try.pinned (OpenSpec.ofChange fnSessionSpec)

/-- ITS FALSE NEIGHBOUR: 'it returns false'. Refute it at one input. -/
def fnSessionWrong : ChangeSpec := { name := "fnSession", fn := fun _ => fun
  | [d1, d2] => { results := [.lit (.bool false)], args := [d1, d2] }
  | _ => none }
def FnSessionWrongFalsely : Prop := fnSessionRow.holds Try.pinned (OpenSpec.ofChange fnSessionWrong)

/-- 'laws.FnAgain': WHATEVER THE INPUT: true; the input reads as it did. -/
def fnAgainSpec : ChangeSpec := { name := "fnAgain", fn := fun _ => fun
  | [d1, d2, d3] => { results := [.lit (.bool true)], args := [d1, d2, d3] }
  | _ => none }
def fnAgainRow : OpenClaim := { program := "ytdkhpehniciijaa", sum := "94cf573c6da69dd175b80721b8e588061be855e1ac25566472854577e6306ac4", func := "loop.example/pub-g03118/laws.FnAgain", spec := "fnAgain", inPlace := ["math/bits.Add64", "math/bits.Sub64", "crypto/internal/constanttime.boolToUint8"], unfollowed := true, recurses := true, named := ["encoding/binary.LittleEndian"], apart := false }
def FnAgainSaid : Prop := fnAgainRow.holds Try.pinned (OpenSpec.ofChange fnAgainSpec)

/-- ITS FALSE NEIGHBOUR: 'it returns false'. Refute it at one input. -/
def fnAgainWrong : ChangeSpec := { name := "fnAgain", fn := fun _ => fun
  | [d1, d2, d3] => { results := [.lit (.bool false)], args := [d1, d2, d3] }
  | _ => none }
def FnAgainWrongFalsely : Prop := fnAgainRow.holds Try.pinned (OpenSpec.ofChange fnAgainWrong)

/-- 'laws.FnFront': WHATEVER THE INPUT: true; the input reads as it did. -/
def fnFrontSpec : ChangeSpec := { name := "fnFront", fn := fun _ => fun
  | [d1, d2, d3] => { results := [.lit (.bool true)], args := [d1, d2, d3] }
  | _ => none }
def fnFrontRow : OpenClaim := { program := "ytdkhpehniciijaa", sum := "94cf573c6da69dd175b80721b8e588061be855e1ac25566472854577e6306ac4", func := "loop.example/pub-g03118/laws.FnFront", spec := "fnFront", inPlace := ["math/bits.Add64", "math/bits.Sub64", "crypto/internal/constanttime.boolToUint8"], unfollowed := true, recurses := true, named := ["encoding/binary.LittleEndian"], apart := false }
def FnFrontSaid : Prop := fnFrontRow.holds Try.pinned (OpenSpec.ofChange fnFrontSpec)

/-- ITS FALSE NEIGHBOUR: 'it returns false'. Refute it at one input. -/
def fnFrontWrong : ChangeSpec := { name := "fnFront", fn := fun _ => fun
  | [d1, d2, d3] => { results := [.lit (.bool false)], args := [d1, d2, d3] }
  | _ => none }
def FnFrontWrongFalsely : Prop := fnFrontRow.holds Try.pinned (OpenSpec.ofChange fnFrontWrong)

/-- 'laws.FnLengths': WHATEVER THE INPUT: true; the input reads as it did. -/
def fnLengthsSpec : ChangeSpec := { name := "fnLengths", fn := fun _ => fun
  | [d1, d2, d3, d4] => { results := [.lit (.bool true)], args := [d1, d2, d3, d4] }
  | _ => none }
def fnLengthsRow : OpenClaim := { program := "ytdkhpehniciijaa", sum := "94cf573c6da69dd175b80721b8e588061be855e1ac25566472854577e6306ac4", func := "loop.example/pub-g03118/laws.FnLengths", spec := "fnLengths", inPlace := ["math/bits.Add64", "math/bits.Sub64", "crypto/internal/constanttime.boolToUint8"], unfollowed := true, recurses := true, named := ["encoding/binary.LittleEndian"], apart := false }
def FnLengthsSaid : Prop := fnLengthsRow.holds Try.pinned (OpenSpec.ofChange fnLengthsSpec)

/-- ITS FALSE NEIGHBOUR: 'it returns false'. Refute it at one input. -/
def fnLengthsWrong : ChangeSpec := { name := "fnLengths", fn := fun _ => fun
  | [d1, d2, d3, d4] => { results := [.lit (.bool false)], args := [d1, d2, d3, d4] }
  | _ => none }
def FnLengthsWrongFalsely : Prop := fnLengthsRow.holds Try.pinned (OpenSpec.ofChange fnLengthsWrong)

/-- 'laws.FnMacCuts': WHATEVER THE INPUT: true; the input reads as it did. -/
def fnMacCutsSpec : ChangeSpec := { name := "fnMacCuts", fn := fun _ => fun
  | [d1, d2] => { results := [.lit (.bool true)], args := [d1, d2] }
  | _ => none }
def fnMacCutsRow : OpenClaim := { program := "ytdkhpehniciijaa", sum := "94cf573c6da69dd175b80721b8e588061be855e1ac25566472854577e6306ac4", func := "loop.example/pub-g03118/laws.FnMacCuts", spec := "fnMacCuts", inPlace := ["math/bits.Add64", "math/bits.Sub64", "crypto/internal/constanttime.boolToUint8"], unfollowed := true, recurses := true, named := ["encoding/binary.LittleEndian"], apart := false }
def FnMacCutsSaid : Prop := fnMacCutsRow.holds Try.pinned (OpenSpec.ofChange fnMacCutsSpec)

/-- ITS FALSE NEIGHBOUR: 'it returns false'. Refute it at one input. -/
def fnMacCutsWrong : ChangeSpec := { name := "fnMacCuts", fn := fun _ => fun
  | [d1, d2] => { results := [.lit (.bool false)], args := [d1, d2] }
  | _ => none }
def FnMacCutsWrongFalsely : Prop := fnMacCutsRow.holds Try.pinned (OpenSpec.ofChange fnMacCutsWrong)

/- THE SECOND FORM. 'bulk': how many values and letters a reading holds, each counted each time it is reached (what is shared counts as often as it is met; a slice's spare places count too). A statement '..UptoSaid' is the law's where the arguments, and the package variables that the reading takes, are together of bulk at most 1048576: NARROWER than '..Said'. Prove '..Said' where nothing that the law and all that it calls make is longer than what came in: it says more and counts as full. Else prove '..UptoSaid'. A law counts once. -/
mutual
def uptoBulk {H : Type} : DataW H → Nat
  | .lit (.string bytes) => bytes.length + 1
  | .lit _ => 1
  | .nil => 1
  | .ptr d => uptoBulk d + 1
  | .slice elems spare => uptoBulkAll elems + uptoBulkAll spare + 1
  | .agg parts => uptoBulkAll parts + 1
  | .iface _ d => uptoBulk d + 1
  | .map entries => uptoBulkEntries entries + 1
  | .held _ => 1
def uptoBulkAll {H : Type} : List (DataW H) → Nat
  | [] => 0
  | d :: r => uptoBulk d + uptoBulkAll r
def uptoBulkEntries {H : Type} : List (Lit × DataW H) → Nat
  | [] => 0
  | x :: r => uptoBulkEntry x + uptoBulkEntries r
def uptoBulkEntry {H : Type} : Lit × DataW H → Nat
  | (.string bytes, d) => bytes.length + uptoBulk d + 1
  | (_, d) => uptoBulk d + 1
 end
def uptoSmall : (H : Type) → List (DataW H) → Bool := fun _ ds => decide (uptoBulkAll ds ≤ 1048576)
def OpenSpec.upto (s : _root_.Go.ChangeSpec) : _root_.Go.OpenSpec := { _root_.Go.OpenSpec.ofChange s with cond := some uptoSmall }

/-- 'laws.FnClamp', WHERE WHAT IT READS IS OF BULK AT MOST 1048576: true; the input reads as it did. -/
def fnClampUptoRow : OpenClaim := { program := "ytdkhpehniciijaa", sum := "94cf573c6da69dd175b80721b8e588061be855e1ac25566472854577e6306ac4", func := "loop.example/pub-g03118/laws.FnClamp", spec := "fnClamp", inPlace := ["math/bits.Add64", "math/bits.Sub64"], named := ["encoding/binary.LittleEndian"], apart := false, narrowed := true }
def FnClampUptoSaid : Prop := fnClampUptoRow.holds Try.pinned (OpenSpec.upto fnClampSpec)

/-- 'laws.FnNothing', WHERE WHAT IT READS IS OF BULK AT MOST 1048576: true; the input reads as it did. -/
def fnNothingUptoRow : OpenClaim := { program := "ytdkhpehniciijaa", sum := "94cf573c6da69dd175b80721b8e588061be855e1ac25566472854577e6306ac4", func := "loop.example/pub-g03118/laws.FnNothing", spec := "fnNothing", inPlace := ["math/bits.Add64", "math/bits.Sub64"], named := ["encoding/binary.LittleEndian"], apart := false, narrowed := true }
def FnNothingUptoSaid : Prop := fnNothingUptoRow.holds Try.pinned (OpenSpec.upto fnNothingSpec)

/-- 'laws.FnShift', WHERE WHAT IT READS IS OF BULK AT MOST 1048576: true; the input reads as it did. -/
def fnShiftUptoRow : OpenClaim := { program := "ytdkhpehniciijaa", sum := "94cf573c6da69dd175b80721b8e588061be855e1ac25566472854577e6306ac4", func := "loop.example/pub-g03118/laws.FnShift", spec := "fnShift", inPlace := ["math/bits.Add64", "math/bits.Sub64"], named := ["encoding/binary.LittleEndian"], apart := false, narrowed := true }
def FnShiftUptoSaid : Prop := fnShiftUptoRow.holds Try.pinned (OpenSpec.upto fnShiftSpec)

/-- 'laws.FnTag', WHERE WHAT IT READS IS OF BULK AT MOST 1048576: true; the input reads as it did. -/
def fnTagUptoRow : OpenClaim := { program := "ytdkhpehniciijaa", sum := "94cf573c6da69dd175b80721b8e588061be855e1ac25566472854577e6306ac4", func := "loop.example/pub-g03118/laws.FnTag", spec := "fnTag", inPlace := ["math/bits.Add64", "math/bits.Sub64"], named := ["encoding/binary.LittleEndian"], apart := false, narrowed := true }
def FnTagUptoSaid : Prop := fnTagUptoRow.holds Try.pinned (OpenSpec.upto fnTagSpec)

/-- 'laws.FnZero', WHERE WHAT IT READS IS OF BULK AT MOST 1048576: true; the input reads as it did. -/
def fnZeroUptoRow : OpenClaim := { program := "ytdkhpehniciijaa", sum := "94cf573c6da69dd175b80721b8e588061be855e1ac25566472854577e6306ac4", func := "loop.example/pub-g03118/laws.FnZero", spec := "fnZero", inPlace := ["math/bits.Add64", "math/bits.Sub64"], named := ["encoding/binary.LittleEndian"], apart := false, narrowed := true }
def FnZeroUptoSaid : Prop := fnZeroUptoRow.holds Try.pinned (OpenSpec.upto fnZeroSpec)

/-- 'laws.FnCheck', WHERE WHAT IT READS IS OF BULK AT MOST 1048576: true; the input reads as it did. -/
def fnCheckUptoRow : OpenClaim := { program := "ytdkhpehniciijaa", sum := "94cf573c6da69dd175b80721b8e588061be855e1ac25566472854577e6306ac4", func := "loop.example/pub-g03118/laws.FnCheck", spec := "fnCheck", inPlace := ["math/bits.Add64", "math/bits.Sub64", "crypto/internal/constanttime.boolToUint8"], named := ["encoding/binary.LittleEndian"], apart := false, narrowed := true }
def FnCheckUptoSaid : Prop := fnCheckUptoRow.holds Try.pinned (OpenSpec.upto fnCheckSpec)

/-- 'laws.FnClosed', WHERE WHAT IT READS IS OF BULK AT MOST 1048576: true; the input reads as it did. -/
def fnClosedUptoRow : OpenClaim := { program := "ytdkhpehniciijaa", sum := "94cf573c6da69dd175b80721b8e588061be855e1ac25566472854577e6306ac4", func := "loop.example/pub-g03118/laws.FnClosed", spec := "fnClosed", inPlace := ["math/bits.Add64", "math/bits.Sub64", "crypto/internal/constanttime.boolToUint8"], unfollowed := true, recurses := true, named := ["encoding/binary.LittleEndian"], apart := false, narrowed := true }
def FnClosedUptoSaid : Prop := fnClosedUptoRow.holds Try.pinned (OpenSpec.upto fnClosedSpec)

/-- 'laws.FnSession', WHERE WHAT IT READS IS OF BULK AT MOST 1048576: true; the input reads as it did. -/
def fnSessionUptoRow : OpenClaim := { program := "ytdkhpehniciijaa", sum := "94cf573c6da69dd175b80721b8e588061be855e1ac25566472854577e6306ac4", func := "loop.example/pub-g03118/laws.FnSession", spec := "fnSession", inPlace := ["math/bits.Add64", "math/bits.Sub64", "crypto/internal/constanttime.boolToUint8"], unfollowed := true, recurses := true, named := ["encoding/binary.LittleEndian"], apart := false, narrowed := true }
def FnSessionUptoSaid : Prop := fnSessionUptoRow.holds Try.pinned (OpenSpec.upto fnSessionSpec)

/-- 'laws.FnAgain', WHERE WHAT IT READS IS OF BULK AT MOST 1048576: true; the input reads as it did. -/
def fnAgainUptoRow : OpenClaim := { program := "ytdkhpehniciijaa", sum := "94cf573c6da69dd175b80721b8e588061be855e1ac25566472854577e6306ac4", func := "loop.example/pub-g03118/laws.FnAgain", spec := "fnAgain", inPlace := ["math/bits.Add64", "math/bits.Sub64", "crypto/internal/constanttime.boolToUint8"], unfollowed := true, recurses := true, named := ["encoding/binary.LittleEndian"], apart := false, narrowed := true }
def FnAgainUptoSaid : Prop := fnAgainUptoRow.holds Try.pinned (OpenSpec.upto fnAgainSpec)

/-- 'laws.FnFront', WHERE WHAT IT READS IS OF BULK AT MOST 1048576: true; the input reads as it did. -/
def fnFrontUptoRow : OpenClaim := { program := "ytdkhpehniciijaa", sum := "94cf573c6da69dd175b80721b8e588061be855e1ac25566472854577e6306ac4", func := "loop.example/pub-g03118/laws.FnFront", spec := "fnFront", inPlace := ["math/bits.Add64", "math/bits.Sub64", "crypto/internal/constanttime.boolToUint8"], unfollowed := true, recurses := true, named := ["encoding/binary.LittleEndian"], apart := false, narrowed := true }
def FnFrontUptoSaid : Prop := fnFrontUptoRow.holds Try.pinned (OpenSpec.upto fnFrontSpec)

/-- 'laws.FnLengths', WHERE WHAT IT READS IS OF BULK AT MOST 1048576: true; the input reads as it did. -/
def fnLengthsUptoRow : OpenClaim := { program := "ytdkhpehniciijaa", sum := "94cf573c6da69dd175b80721b8e588061be855e1ac25566472854577e6306ac4", func := "loop.example/pub-g03118/laws.FnLengths", spec := "fnLengths", inPlace := ["math/bits.Add64", "math/bits.Sub64", "crypto/internal/constanttime.boolToUint8"], unfollowed := true, recurses := true, named := ["encoding/binary.LittleEndian"], apart := false, narrowed := true }
def FnLengthsUptoSaid : Prop := fnLengthsUptoRow.holds Try.pinned (OpenSpec.upto fnLengthsSpec)

/-- 'laws.FnMacCuts', WHERE WHAT IT READS IS OF BULK AT MOST 1048576: true; the input reads as it did. -/
def fnMacCutsUptoRow : OpenClaim := { program := "ytdkhpehniciijaa", sum := "94cf573c6da69dd175b80721b8e588061be855e1ac25566472854577e6306ac4", func := "loop.example/pub-g03118/laws.FnMacCuts", spec := "fnMacCuts", inPlace := ["math/bits.Add64", "math/bits.Sub64", "crypto/internal/constanttime.boolToUint8"], unfollowed := true, recurses := true, named := ["encoding/binary.LittleEndian"], apart := false, narrowed := true }
def FnMacCutsUptoSaid : Prop := fnMacCutsUptoRow.holds Try.pinned (OpenSpec.upto fnMacCutsSpec)

end Rows
end Go.Proofs.Ytdkhpehniciijaa
