/-
  No cell of these rows narrows 'for every input' (looked for: loops, veiled, ifaces, maps, wideKeys, modest, calm, conditions, laid).
  DERIVED. THE GIVEN ROWS OF THIS SEAT. 10 by the template 'for every input the law returns true; each argument reads behind the call as it read before'; 0 by the template 'total and deterministic' (their statements: YtlafnkcmdnfcpaaTotals.lean).
  GIVEN WITH THE SEED: the statements are not yours to turn. If you find one false, say at which input.
  Laid BY PROGRAM, IN A SANDBOX (cutbox-rows.mjs): the forced cells as the released guide's own fill.sh prints them over the translation 376e0560b751af44… (all of the seat's roots in one cut). By AI agents, Wed Nov 11 2026. No macro, syntax, notation, axiom, sorry.
-/
import Derived.Test.YtlafnkcmdnfcpaaChecked
import GoSem.Claim
import GoSem.ClaimJoined
import GoSem.ClaimMapViews
import Derived.JoinedTies
import Derived.KernelRfl
namespace Go.Proofs.Ytlafnkcmdnfcpaa
/- THE CELL 'sum', in the pinned program and in every row, IS THE sha256 OF THE DUMP (.gsa) THAT YtlafnkcmdnfcpaaProg.lean LOADS. Nothing in Lean hashes anything: it is a label: what it is worth is what the hold of that sum in a sandbox is worth. -/
noncomputable def Try.pinned : Pinned := { name := "ytlafnkcmdnfcpaa", sum := "376e0560b751af44982d3a67b9e9e05a0a988dc93b5442b6311b3e9407cffdd9", checked := Try.checked }
namespace Rows
def none {H : Type} : Left H := { results := [], args := [] }

/-- 'laws.FnSeal': WHATEVER THE INPUT: true; the input reads as it did. -/
def fnSealSpec : ChangeSpec := { name := "fnSeal", fn := fun _ => fun
  | [d1, d2, d3, d4] => { results := [.lit (.bool true)], args := [d1, d2, d3, d4] }
  | _ => none }
def fnSealRow : OpenClaim := { program := "ytlafnkcmdnfcpaa", sum := "376e0560b751af44982d3a67b9e9e05a0a988dc93b5442b6311b3e9407cffdd9", func := "loop.example/pub-g03118/laws.FnSeal", spec := "fnSeal", inPlace := ["math/bits.Add64", "math/bits.Sub64"], unfollowed := true, recurses := true, named := ["encoding/binary.LittleEndian"], apart := false }
def FnSealSaid : Prop := fnSealRow.holds Try.pinned (OpenSpec.ofChange fnSealSpec)

/-- ITS FALSE NEIGHBOUR: 'it returns false'. Refute it at one input. -/
def fnSealWrong : ChangeSpec := { name := "fnSeal", fn := fun _ => fun
  | [d1, d2, d3, d4] => { results := [.lit (.bool false)], args := [d1, d2, d3, d4] }
  | _ => none }
def FnSealWrongFalsely : Prop := fnSealRow.holds Try.pinned (OpenSpec.ofChange fnSealWrong)

/-- 'laws.FnSizes': WHATEVER THE INPUT: true; the input reads as it did. -/
def fnSizesSpec : ChangeSpec := { name := "fnSizes", fn := fun _ => fun
  | [d1, d2] => { results := [.lit (.bool true)], args := [d1, d2] }
  | _ => none }
def fnSizesRow : OpenClaim := { program := "ytlafnkcmdnfcpaa", sum := "376e0560b751af44982d3a67b9e9e05a0a988dc93b5442b6311b3e9407cffdd9", func := "loop.example/pub-g03118/laws.FnSizes", spec := "fnSizes", inPlace := ["math/bits.Add64", "math/bits.Sub64"], unfollowed := true, recurses := true, named := ["encoding/binary.LittleEndian"], apart := false }
def FnSizesSaid : Prop := fnSizesRow.holds Try.pinned (OpenSpec.ofChange fnSizesSpec)

/-- ITS FALSE NEIGHBOUR: 'it returns false'. Refute it at one input. -/
def fnSizesWrong : ChangeSpec := { name := "fnSizes", fn := fun _ => fun
  | [d1, d2] => { results := [.lit (.bool false)], args := [d1, d2] }
  | _ => none }
def FnSizesWrongFalsely : Prop := fnSizesRow.holds Try.pinned (OpenSpec.ofChange fnSizesWrong)

/-- 'laws.FnOpened': WHATEVER THE INPUT: true; the input reads as it did. -/
def fnOpenedSpec : ChangeSpec := { name := "fnOpened", fn := fun _ => fun
  | [d1, d2, d3, d4, d5, d6] => { results := [.lit (.bool true)], args := [d1, d2, d3, d4, d5, d6] }
  | _ => none }
def fnOpenedRow : OpenClaim := { program := "ytlafnkcmdnfcpaa", sum := "376e0560b751af44982d3a67b9e9e05a0a988dc93b5442b6311b3e9407cffdd9", func := "loop.example/pub-g03118/laws.FnOpened", spec := "fnOpened", inPlace := ["math/bits.Add64", "math/bits.Sub64", "crypto/internal/constanttime.boolToUint8"], unfollowed := true, recurses := true, named := ["encoding/binary.LittleEndian"], apart := false }
def FnOpenedSaid : Prop := fnOpenedRow.holds Try.pinned (OpenSpec.ofChange fnOpenedSpec)

/-- ITS FALSE NEIGHBOUR: 'it returns false'. Refute it at one input. -/
def fnOpenedWrong : ChangeSpec := { name := "fnOpened", fn := fun _ => fun
  | [d1, d2, d3, d4, d5, d6] => { results := [.lit (.bool false)], args := [d1, d2, d3, d4, d5, d6] }
  | _ => none }
def FnOpenedWrongFalsely : Prop := fnOpenedRow.holds Try.pinned (OpenSpec.ofChange fnOpenedWrong)

/-- 'laws.FnBit': WHATEVER THE INPUT: true; the input reads as it did. -/
def fnBitSpec : ChangeSpec := { name := "fnBit", fn := fun _ => fun
  | [d1, d2, d3] => { results := [.lit (.bool true)], args := [d1, d2, d3] }
  | _ => none }
def fnBitRow : OpenClaim := { program := "ytlafnkcmdnfcpaa", sum := "376e0560b751af44982d3a67b9e9e05a0a988dc93b5442b6311b3e9407cffdd9", func := "loop.example/pub-g03118/laws.FnBit", spec := "fnBit", inPlace := ["math/bits.Add64", "math/bits.Sub64", "crypto/internal/constanttime.boolToUint8"], unfollowed := true, recurses := true, named := ["encoding/binary.LittleEndian"], apart := false }
def FnBitSaid : Prop := fnBitRow.holds Try.pinned (OpenSpec.ofChange fnBitSpec)

/-- ITS FALSE NEIGHBOUR: 'it returns false'. Refute it at one input. -/
def fnBitWrong : ChangeSpec := { name := "fnBit", fn := fun _ => fun
  | [d1, d2, d3] => { results := [.lit (.bool false)], args := [d1, d2, d3] }
  | _ => none }
def FnBitWrongFalsely : Prop := fnBitRow.holds Try.pinned (OpenSpec.ofChange fnBitWrong)

/-- 'laws.FnOwn': WHATEVER THE INPUT: true; the input reads as it did. -/
def fnOwnSpec : ChangeSpec := { name := "fnOwn", fn := fun _ => fun
  | [d1, d2] => { results := [.lit (.bool true)], args := [d1, d2] }
  | _ => none }
def fnOwnRow : OpenClaim := { program := "ytlafnkcmdnfcpaa", sum := "376e0560b751af44982d3a67b9e9e05a0a988dc93b5442b6311b3e9407cffdd9", func := "loop.example/pub-g03118/laws.FnOwn", spec := "fnOwn", inPlace := ["math/bits.Add64", "math/bits.Sub64", "crypto/internal/constanttime.boolToUint8"], unfollowed := true, recurses := true, named := ["encoding/binary.LittleEndian"], apart := false }
def FnOwnSaid : Prop := fnOwnRow.holds Try.pinned (OpenSpec.ofChange fnOwnSpec)

/-- ITS FALSE NEIGHBOUR: 'it returns false'. Refute it at one input. -/
def fnOwnWrong : ChangeSpec := { name := "fnOwn", fn := fun _ => fun
  | [d1, d2] => { results := [.lit (.bool false)], args := [d1, d2] }
  | _ => none }
def FnOwnWrongFalsely : Prop := fnOwnRow.holds Try.pinned (OpenSpec.ofChange fnOwnWrong)

/-- 'laws.FnRoads': WHATEVER THE INPUT: true; the input reads as it did. -/
def fnRoadsSpec : ChangeSpec := { name := "fnRoads", fn := fun _ => fun
  | [d1, d2, d3] => { results := [.lit (.bool true)], args := [d1, d2, d3] }
  | _ => none }
def fnRoadsRow : OpenClaim := { program := "ytlafnkcmdnfcpaa", sum := "376e0560b751af44982d3a67b9e9e05a0a988dc93b5442b6311b3e9407cffdd9", func := "loop.example/pub-g03118/laws.FnRoads", spec := "fnRoads", inPlace := ["math/bits.Add64", "math/bits.Sub64", "crypto/internal/constanttime.boolToUint8"], unfollowed := true, recurses := true, named := ["encoding/binary.LittleEndian"], apart := false }
def FnRoadsSaid : Prop := fnRoadsRow.holds Try.pinned (OpenSpec.ofChange fnRoadsSpec)

/-- ITS FALSE NEIGHBOUR: 'it returns false'. Refute it at one input. -/
def fnRoadsWrong : ChangeSpec := { name := "fnRoads", fn := fun _ => fun
  | [d1, d2, d3] => { results := [.lit (.bool false)], args := [d1, d2, d3] }
  | _ => none }
def FnRoadsWrongFalsely : Prop := fnRoadsRow.holds Try.pinned (OpenSpec.ofChange fnRoadsWrong)

/-- 'laws.FnShort': WHATEVER THE INPUT: true; the input reads as it did. -/
def fnShortSpec : ChangeSpec := { name := "fnShort", fn := fun _ => fun
  | [d1, d2, d3, d4, d5] => { results := [.lit (.bool true)], args := [d1, d2, d3, d4, d5] }
  | _ => none }
def fnShortRow : OpenClaim := { program := "ytlafnkcmdnfcpaa", sum := "376e0560b751af44982d3a67b9e9e05a0a988dc93b5442b6311b3e9407cffdd9", func := "loop.example/pub-g03118/laws.FnShort", spec := "fnShort", unfollowed := true, recurses := true, named := ["encoding/binary.LittleEndian"], apart := false }
def FnShortSaid : Prop := fnShortRow.holds Try.pinned (OpenSpec.ofChange fnShortSpec)

/-- ITS FALSE NEIGHBOUR: 'it returns false'. Refute it at one input. -/
def fnShortWrong : ChangeSpec := { name := "fnShort", fn := fun _ => fun
  | [d1, d2, d3, d4, d5] => { results := [.lit (.bool false)], args := [d1, d2, d3, d4, d5] }
  | _ => none }
def FnShortWrongFalsely : Prop := fnShortRow.holds Try.pinned (OpenSpec.ofChange fnShortWrong)

/-- 'laws.FnSkip': WHATEVER THE INPUT: true; the input reads as it did. -/
def fnSkipSpec : ChangeSpec := { name := "fnSkip", fn := fun _ => fun
  | [d1, d2, d3, d4, d5] => { results := [.lit (.bool true)], args := [d1, d2, d3, d4, d5] }
  | _ => none }
def fnSkipRow : OpenClaim := { program := "ytlafnkcmdnfcpaa", sum := "376e0560b751af44982d3a67b9e9e05a0a988dc93b5442b6311b3e9407cffdd9", func := "loop.example/pub-g03118/laws.FnSkip", spec := "fnSkip", unfollowed := true, recurses := true, named := ["encoding/binary.LittleEndian"], apart := false }
def FnSkipSaid : Prop := fnSkipRow.holds Try.pinned (OpenSpec.ofChange fnSkipSpec)

/-- ITS FALSE NEIGHBOUR: 'it returns false'. Refute it at one input. -/
def fnSkipWrong : ChangeSpec := { name := "fnSkip", fn := fun _ => fun
  | [d1, d2, d3, d4, d5] => { results := [.lit (.bool false)], args := [d1, d2, d3, d4, d5] }
  | _ => none }
def FnSkipWrongFalsely : Prop := fnSkipRow.holds Try.pinned (OpenSpec.ofChange fnSkipWrong)

/-- 'laws.FnTwice': WHATEVER THE INPUT: true; the input reads as it did. -/
def fnTwiceSpec : ChangeSpec := { name := "fnTwice", fn := fun _ => fun
  | [d1, d2, d3, d4, d5, d6] => { results := [.lit (.bool true)], args := [d1, d2, d3, d4, d5, d6] }
  | _ => none }
def fnTwiceRow : OpenClaim := { program := "ytlafnkcmdnfcpaa", sum := "376e0560b751af44982d3a67b9e9e05a0a988dc93b5442b6311b3e9407cffdd9", func := "loop.example/pub-g03118/laws.FnTwice", spec := "fnTwice", unfollowed := true, recurses := true, named := ["encoding/binary.LittleEndian"], apart := false }
def FnTwiceSaid : Prop := fnTwiceRow.holds Try.pinned (OpenSpec.ofChange fnTwiceSpec)

/-- ITS FALSE NEIGHBOUR: 'it returns false'. Refute it at one input. -/
def fnTwiceWrong : ChangeSpec := { name := "fnTwice", fn := fun _ => fun
  | [d1, d2, d3, d4, d5, d6] => { results := [.lit (.bool false)], args := [d1, d2, d3, d4, d5, d6] }
  | _ => none }
def FnTwiceWrongFalsely : Prop := fnTwiceRow.holds Try.pinned (OpenSpec.ofChange fnTwiceWrong)

/-- 'laws.FnLong': WHATEVER THE INPUT: true; the input reads as it did. -/
def fnLongSpec : ChangeSpec := { name := "fnLong", fn := fun _ => fun
  | [d1, d2, d3, d4] => { results := [.lit (.bool true)], args := [d1, d2, d3, d4] }
  | _ => none }
def fnLongRow : OpenClaim := { program := "ytlafnkcmdnfcpaa", sum := "376e0560b751af44982d3a67b9e9e05a0a988dc93b5442b6311b3e9407cffdd9", func := "loop.example/pub-g03118/laws.FnLong", spec := "fnLong", unfollowed := true, recurses := true, named := ["encoding/binary.LittleEndian"], apart := false }
def FnLongSaid : Prop := fnLongRow.holds Try.pinned (OpenSpec.ofChange fnLongSpec)

/-- ITS FALSE NEIGHBOUR: 'it returns false'. Refute it at one input. -/
def fnLongWrong : ChangeSpec := { name := "fnLong", fn := fun _ => fun
  | [d1, d2, d3, d4] => { results := [.lit (.bool false)], args := [d1, d2, d3, d4] }
  | _ => none }
def FnLongWrongFalsely : Prop := fnLongRow.holds Try.pinned (OpenSpec.ofChange fnLongWrong)

/- THE SECOND FORM. 'bulk': how many values and letters a reading holds, each counted each time it is reached (what is shared counts as often as it is met; a slice's spare places count too). A statement '..UptoSaid' is the law's where the arguments, and the package variables that the reading takes, are together of bulk at most 1048576: NARROWER than '..Said'. Prove '..Said' where nothing that the law and all that it calls make is longer than what came in: it says more and counts as full. Else prove '..UptoSaid'. A law counts once. -/
mutual
def uptoBulk {H : Type} : DataW H → Nat
  | .lit (.string bytes) => bytes.length + 1
  | .lit _ => 1
  | .nil => 1
  | .ptr d => uptoBulk d + 1
  | .slice elems spare => uptoBulkAll elems + uptoBulkAll spare + 1
  | .agg parts => uptoBulkAll parts + 1
  | .iface _ d => uptoBulk d + 1
  | .map entries => uptoBulkEntries entries + 1
  | .held _ => 1
def uptoBulkAll {H : Type} : List (DataW H) → Nat
  | [] => 0
  | d :: r => uptoBulk d + uptoBulkAll r
def uptoBulkEntries {H : Type} : List (Lit × DataW H) → Nat
  | [] => 0
  | x :: r => uptoBulkEntry x + uptoBulkEntries r
def uptoBulkEntry {H : Type} : Lit × DataW H → Nat
  | (.string bytes, d) => bytes.length + uptoBulk d + 1
  | (_, d) => uptoBulk d + 1
 end
def uptoSmall : (H : Type) → List (DataW H) → Bool := fun _ ds => decide (uptoBulkAll ds ≤ 1048576)
def OpenSpec.upto (s : _root_.Go.ChangeSpec) : _root_.Go.OpenSpec := { _root_.Go.OpenSpec.ofChange s with cond := some uptoSmall }

/-- 'laws.FnSeal', WHERE WHAT IT READS IS OF BULK AT MOST 1048576: true; the input reads as it did. -/
def fnSealUptoRow : OpenClaim := { program := "ytlafnkcmdnfcpaa", sum := "376e0560b751af44982d3a67b9e9e05a0a988dc93b5442b6311b3e9407cffdd9", func := "loop.example/pub-g03118/laws.FnSeal", spec := "fnSeal", inPlace := ["math/bits.Add64", "math/bits.Sub64"], unfollowed := true, recurses := true, named := ["encoding/binary.LittleEndian"], apart := false, narrowed := true }
def FnSealUptoSaid : Prop := fnSealUptoRow.holds Try.pinned (OpenSpec.upto fnSealSpec)

/-- 'laws.FnSizes', WHERE WHAT IT READS IS OF BULK AT MOST 1048576: true; the input reads as it did. -/
def fnSizesUptoRow : OpenClaim := { program := "ytlafnkcmdnfcpaa", sum := "376e0560b751af44982d3a67b9e9e05a0a988dc93b5442b6311b3e9407cffdd9", func := "loop.example/pub-g03118/laws.FnSizes", spec := "fnSizes", inPlace := ["math/bits.Add64", "math/bits.Sub64"], unfollowed := true, recurses := true, named := ["encoding/binary.LittleEndian"], apart := false, narrowed := true }
def FnSizesUptoSaid : Prop := fnSizesUptoRow.holds Try.pinned (OpenSpec.upto fnSizesSpec)

/-- 'laws.FnOpened', WHERE WHAT IT READS IS OF BULK AT MOST 1048576: true; the input reads as it did. -/
def fnOpenedUptoRow : OpenClaim := { program := "ytlafnkcmdnfcpaa", sum := "376e0560b751af44982d3a67b9e9e05a0a988dc93b5442b6311b3e9407cffdd9", func := "loop.example/pub-g03118/laws.FnOpened", spec := "fnOpened", inPlace := ["math/bits.Add64", "math/bits.Sub64", "crypto/internal/constanttime.boolToUint8"], unfollowed := true, recurses := true, named := ["encoding/binary.LittleEndian"], apart := false, narrowed := true }
def FnOpenedUptoSaid : Prop := fnOpenedUptoRow.holds Try.pinned (OpenSpec.upto fnOpenedSpec)

/-- 'laws.FnBit', WHERE WHAT IT READS IS OF BULK AT MOST 1048576: true; the input reads as it did. -/
def fnBitUptoRow : OpenClaim := { program := "ytlafnkcmdnfcpaa", sum := "376e0560b751af44982d3a67b9e9e05a0a988dc93b5442b6311b3e9407cffdd9", func := "loop.example/pub-g03118/laws.FnBit", spec := "fnBit", inPlace := ["math/bits.Add64", "math/bits.Sub64", "crypto/internal/constanttime.boolToUint8"], unfollowed := true, recurses := true, named := ["encoding/binary.LittleEndian"], apart := false, narrowed := true }
def FnBitUptoSaid : Prop := fnBitUptoRow.holds Try.pinned (OpenSpec.upto fnBitSpec)

/-- 'laws.FnOwn', WHERE WHAT IT READS IS OF BULK AT MOST 1048576: true; the input reads as it did. -/
def fnOwnUptoRow : OpenClaim := { program := "ytlafnkcmdnfcpaa", sum := "376e0560b751af44982d3a67b9e9e05a0a988dc93b5442b6311b3e9407cffdd9", func := "loop.example/pub-g03118/laws.FnOwn", spec := "fnOwn", inPlace := ["math/bits.Add64", "math/bits.Sub64", "crypto/internal/constanttime.boolToUint8"], unfollowed := true, recurses := true, named := ["encoding/binary.LittleEndian"], apart := false, narrowed := true }
def FnOwnUptoSaid : Prop := fnOwnUptoRow.holds Try.pinned (OpenSpec.upto fnOwnSpec)

/-- 'laws.FnRoads', WHERE WHAT IT READS IS OF BULK AT MOST 1048576: true; the input reads as it did. -/
def fnRoadsUptoRow : OpenClaim := { program := "ytlafnkcmdnfcpaa", sum := "376e0560b751af44982d3a67b9e9e05a0a988dc93b5442b6311b3e9407cffdd9", func := "loop.example/pub-g03118/laws.FnRoads", spec := "fnRoads", inPlace := ["math/bits.Add64", "math/bits.Sub64", "crypto/internal/constanttime.boolToUint8"], unfollowed := true, recurses := true, named := ["encoding/binary.LittleEndian"], apart := false, narrowed := true }
def FnRoadsUptoSaid : Prop := fnRoadsUptoRow.holds Try.pinned (OpenSpec.upto fnRoadsSpec)

/-- 'laws.FnShort', WHERE WHAT IT READS IS OF BULK AT MOST 1048576: true; the input reads as it did. -/
def fnShortUptoRow : OpenClaim := { program := "ytlafnkcmdnfcpaa", sum := "376e0560b751af44982d3a67b9e9e05a0a988dc93b5442b6311b3e9407cffdd9", func := "loop.example/pub-g03118/laws.FnShort", spec := "fnShort", unfollowed := true, recurses := true, named := ["encoding/binary.LittleEndian"], apart := false, narrowed := true }
def FnShortUptoSaid : Prop := fnShortUptoRow.holds Try.pinned (OpenSpec.upto fnShortSpec)

/-- 'laws.FnSkip', WHERE WHAT IT READS IS OF BULK AT MOST 1048576: true; the input reads as it did. -/
def fnSkipUptoRow : OpenClaim := { program := "ytlafnkcmdnfcpaa", sum := "376e0560b751af44982d3a67b9e9e05a0a988dc93b5442b6311b3e9407cffdd9", func := "loop.example/pub-g03118/laws.FnSkip", spec := "fnSkip", unfollowed := true, recurses := true, named := ["encoding/binary.LittleEndian"], apart := false, narrowed := true }
def FnSkipUptoSaid : Prop := fnSkipUptoRow.holds Try.pinned (OpenSpec.upto fnSkipSpec)

/-- 'laws.FnTwice', WHERE WHAT IT READS IS OF BULK AT MOST 1048576: true; the input reads as it did. -/
def fnTwiceUptoRow : OpenClaim := { program := "ytlafnkcmdnfcpaa", sum := "376e0560b751af44982d3a67b9e9e05a0a988dc93b5442b6311b3e9407cffdd9", func := "loop.example/pub-g03118/laws.FnTwice", spec := "fnTwice", unfollowed := true, recurses := true, named := ["encoding/binary.LittleEndian"], apart := false, narrowed := true }
def FnTwiceUptoSaid : Prop := fnTwiceUptoRow.holds Try.pinned (OpenSpec.upto fnTwiceSpec)

/-- 'laws.FnLong', WHERE WHAT IT READS IS OF BULK AT MOST 1048576: true; the input reads as it did. -/
def fnLongUptoRow : OpenClaim := { program := "ytlafnkcmdnfcpaa", sum := "376e0560b751af44982d3a67b9e9e05a0a988dc93b5442b6311b3e9407cffdd9", func := "loop.example/pub-g03118/laws.FnLong", spec := "fnLong", unfollowed := true, recurses := true, named := ["encoding/binary.LittleEndian"], apart := false, narrowed := true }
def FnLongUptoSaid : Prop := fnLongUptoRow.holds Try.pinned (OpenSpec.upto fnLongSpec)

end Rows
end Go.Proofs.Ytlafnkcmdnfcpaa
