/-
  No cell of these rows narrows 'for every input' (looked for: loops, veiled, ifaces, maps, wideKeys, modest, calm, conditions, laid).
  DERIVED. THE GIVEN ROWS OF THIS SEAT. 12 by the template 'for every input the law returns true; each argument reads behind the call as it read before'; 0 by the template 'total and deterministic' (their statements: YtaapglpnofmmlaaTotals.lean).
  GIVEN WITH THE SEED: the statements are not yours to turn. If you find one false, say at which input.
  Laid BY PROGRAM, IN A SANDBOX (cutbox-rows.mjs): the forced cells as the released guide's own fill.sh prints them over the translation f6c7000ec137ecf9… (all of the seat's roots in one cut). By AI agents, Wed Nov 11 2026. No macro, syntax, notation, axiom, sorry.
-/
import Derived.Test.YtaapglpnofmmlaaChecked
import GoSem.Claim
import GoSem.ClaimJoined
import GoSem.ClaimMapViews
import Derived.JoinedTies
import Derived.KernelRfl
namespace Go.Proofs.Ytaapglpnofmmlaa
/- THE CELL 'sum', in the pinned program and in every row, IS THE sha256 OF THE DUMP (.gsa) THAT YtaapglpnofmmlaaProg.lean LOADS. Nothing in Lean hashes anything: it is a label: what it is worth is what the hold of that sum in a sandbox is worth. -/
noncomputable def Try.pinned : Pinned := { name := "ytaapglpnofmmlaa", sum := "f6c7000ec137ecf95f3edf14d941c53838552e689a9b5bd6fc2b19968c7a0d08", checked := Try.checked }
namespace Rows
def none {H : Type} : Left H := { results := [], args := [] }

/-- 'laws.FnDerive': WHATEVER THE INPUT: true; the input reads as it did. -/
def fnDeriveSpec : ChangeSpec := { name := "fnDerive", fn := fun _ => fun
  | [d1, d2] => { results := [.lit (.bool true)], args := [d1, d2] }
  | _ => none }
def fnDeriveRow : OpenClaim := { program := "ytaapglpnofmmlaa", sum := "f6c7000ec137ecf95f3edf14d941c53838552e689a9b5bd6fc2b19968c7a0d08", func := "loop.example/pub-g03118/laws.FnDerive", spec := "fnDerive", named := ["encoding/binary.LittleEndian"], apart := false }
def FnDeriveSaid : Prop := fnDeriveRow.holds Try.pinned (OpenSpec.ofChange fnDeriveSpec)

/-- ITS FALSE NEIGHBOUR: 'it returns false'. Refute it at one input. -/
def fnDeriveWrong : ChangeSpec := { name := "fnDerive", fn := fun _ => fun
  | [d1, d2] => { results := [.lit (.bool false)], args := [d1, d2] }
  | _ => none }
def FnDeriveWrongFalsely : Prop := fnDeriveRow.holds Try.pinned (OpenSpec.ofChange fnDeriveWrong)

/-- 'laws.FnApart': WHATEVER THE INPUT: true; the input reads as it did. -/
def fnApartSpec : ChangeSpec := { name := "fnApart", fn := fun _ => fun
  | [d1, d2, d3, d4, d5, d6] => { results := [.lit (.bool true)], args := [d1, d2, d3, d4, d5, d6] }
  | _ => none }
def fnApartRow : OpenClaim := { program := "ytaapglpnofmmlaa", sum := "f6c7000ec137ecf95f3edf14d941c53838552e689a9b5bd6fc2b19968c7a0d08", func := "loop.example/pub-g03118/laws.FnApart", spec := "fnApart", unfollowed := true, recurses := true, named := ["encoding/binary.LittleEndian"], apart := false }
def FnApartSaid : Prop := fnApartRow.holds Try.pinned (OpenSpec.ofChange fnApartSpec)

/-- ITS FALSE NEIGHBOUR: 'it returns false'. Refute it at one input. -/
def fnApartWrong : ChangeSpec := { name := "fnApart", fn := fun _ => fun
  | [d1, d2, d3, d4, d5, d6] => { results := [.lit (.bool false)], args := [d1, d2, d3, d4, d5, d6] }
  | _ => none }
def FnApartWrongFalsely : Prop := fnApartRow.holds Try.pinned (OpenSpec.ofChange fnApartWrong)

/-- 'laws.FnBack': WHATEVER THE INPUT: true; the input reads as it did. -/
def fnBackSpec : ChangeSpec := { name := "fnBack", fn := fun _ => fun
  | [d1, d2, d3, d4, d5] => { results := [.lit (.bool true)], args := [d1, d2, d3, d4, d5] }
  | _ => none }
def fnBackRow : OpenClaim := { program := "ytaapglpnofmmlaa", sum := "f6c7000ec137ecf95f3edf14d941c53838552e689a9b5bd6fc2b19968c7a0d08", func := "loop.example/pub-g03118/laws.FnBack", spec := "fnBack", unfollowed := true, recurses := true, named := ["encoding/binary.LittleEndian"], apart := false }
def FnBackSaid : Prop := fnBackRow.holds Try.pinned (OpenSpec.ofChange fnBackSpec)

/-- ITS FALSE NEIGHBOUR: 'it returns false'. Refute it at one input. -/
def fnBackWrong : ChangeSpec := { name := "fnBack", fn := fun _ => fun
  | [d1, d2, d3, d4, d5] => { results := [.lit (.bool false)], args := [d1, d2, d3, d4, d5] }
  | _ => none }
def FnBackWrongFalsely : Prop := fnBackRow.holds Try.pinned (OpenSpec.ofChange fnBackWrong)

/-- 'laws.FnBeginning': WHATEVER THE INPUT: true; the input reads as it did. -/
def fnBeginningSpec : ChangeSpec := { name := "fnBeginning", fn := fun _ => fun
  | [d1, d2, d3, d4, d5, d6] => { results := [.lit (.bool true)], args := [d1, d2, d3, d4, d5, d6] }
  | _ => none }
def fnBeginningRow : OpenClaim := { program := "ytaapglpnofmmlaa", sum := "f6c7000ec137ecf95f3edf14d941c53838552e689a9b5bd6fc2b19968c7a0d08", func := "loop.example/pub-g03118/laws.FnBeginning", spec := "fnBeginning", unfollowed := true, recurses := true, named := ["encoding/binary.LittleEndian"], apart := false }
def FnBeginningSaid : Prop := fnBeginningRow.holds Try.pinned (OpenSpec.ofChange fnBeginningSpec)

/-- ITS FALSE NEIGHBOUR: 'it returns false'. Refute it at one input. -/
def fnBeginningWrong : ChangeSpec := { name := "fnBeginning", fn := fun _ => fun
  | [d1, d2, d3, d4, d5, d6] => { results := [.lit (.bool false)], args := [d1, d2, d3, d4, d5, d6] }
  | _ => none }
def FnBeginningWrongFalsely : Prop := fnBeginningRow.holds Try.pinned (OpenSpec.ofChange fnBeginningWrong)

/-- 'laws.FnBlock': WHATEVER THE INPUT: true; the input reads as it did. -/
def fnBlockSpec : ChangeSpec := { name := "fnBlock", fn := fun _ => fun
  | [d1, d2, d3] => { results := [.lit (.bool true)], args := [d1, d2, d3] }
  | _ => none }
def fnBlockRow : OpenClaim := { program := "ytaapglpnofmmlaa", sum := "f6c7000ec137ecf95f3edf14d941c53838552e689a9b5bd6fc2b19968c7a0d08", func := "loop.example/pub-g03118/laws.FnBlock", spec := "fnBlock", unfollowed := true, recurses := true, named := ["encoding/binary.LittleEndian"], apart := false }
def FnBlockSaid : Prop := fnBlockRow.holds Try.pinned (OpenSpec.ofChange fnBlockSpec)

/-- ITS FALSE NEIGHBOUR: 'it returns false'. Refute it at one input. -/
def fnBlockWrong : ChangeSpec := { name := "fnBlock", fn := fun _ => fun
  | [d1, d2, d3] => { results := [.lit (.bool false)], args := [d1, d2, d3] }
  | _ => none }
def FnBlockWrongFalsely : Prop := fnBlockRow.holds Try.pinned (OpenSpec.ofChange fnBlockWrong)

/-- 'laws.FnCuts': WHATEVER THE INPUT: true; the input reads as it did. -/
def fnCutsSpec : ChangeSpec := { name := "fnCuts", fn := fun _ => fun
  | [d1, d2, d3, d4, d5] => { results := [.lit (.bool true)], args := [d1, d2, d3, d4, d5] }
  | _ => none }
def fnCutsRow : OpenClaim := { program := "ytaapglpnofmmlaa", sum := "f6c7000ec137ecf95f3edf14d941c53838552e689a9b5bd6fc2b19968c7a0d08", func := "loop.example/pub-g03118/laws.FnCuts", spec := "fnCuts", unfollowed := true, recurses := true, named := ["encoding/binary.LittleEndian"], apart := false }
def FnCutsSaid : Prop := fnCutsRow.holds Try.pinned (OpenSpec.ofChange fnCutsSpec)

/-- ITS FALSE NEIGHBOUR: 'it returns false'. Refute it at one input. -/
def fnCutsWrong : ChangeSpec := { name := "fnCuts", fn := fun _ => fun
  | [d1, d2, d3, d4, d5] => { results := [.lit (.bool false)], args := [d1, d2, d3, d4, d5] }
  | _ => none }
def FnCutsWrongFalsely : Prop := fnCutsRow.holds Try.pinned (OpenSpec.ofChange fnCutsWrong)

/-- 'laws.FnLast': WHATEVER THE INPUT: true; the input reads as it did. -/
def fnLastSpec : ChangeSpec := { name := "fnLast", fn := fun _ => fun
  | [d1, d2, d3, d4] => { results := [.lit (.bool true)], args := [d1, d2, d3, d4] }
  | _ => none }
def fnLastRow : OpenClaim := { program := "ytaapglpnofmmlaa", sum := "f6c7000ec137ecf95f3edf14d941c53838552e689a9b5bd6fc2b19968c7a0d08", func := "loop.example/pub-g03118/laws.FnLast", spec := "fnLast", unfollowed := true, recurses := true, named := ["encoding/binary.LittleEndian"], apart := false }
def FnLastSaid : Prop := fnLastRow.holds Try.pinned (OpenSpec.ofChange fnLastSpec)

/-- ITS FALSE NEIGHBOUR: 'it returns false'. Refute it at one input. -/
def fnLastWrong : ChangeSpec := { name := "fnLast", fn := fun _ => fun
  | [d1, d2, d3, d4] => { results := [.lit (.bool false)], args := [d1, d2, d3, d4] }
  | _ => none }
def FnLastWrongFalsely : Prop := fnLastRow.holds Try.pinned (OpenSpec.ofChange fnLastWrong)

/-- 'laws.FnLess': WHATEVER THE INPUT: true; the input reads as it did. -/
def fnLessSpec : ChangeSpec := { name := "fnLess", fn := fun _ => fun
  | [d1, d2, d3, d4, d5, d6, d7] => { results := [.lit (.bool true)], args := [d1, d2, d3, d4, d5, d6, d7] }
  | _ => none }
def fnLessRow : OpenClaim := { program := "ytaapglpnofmmlaa", sum := "f6c7000ec137ecf95f3edf14d941c53838552e689a9b5bd6fc2b19968c7a0d08", func := "loop.example/pub-g03118/laws.FnLess", spec := "fnLess", unfollowed := true, recurses := true, named := ["encoding/binary.LittleEndian"], apart := false }
def FnLessSaid : Prop := fnLessRow.holds Try.pinned (OpenSpec.ofChange fnLessSpec)

/-- ITS FALSE NEIGHBOUR: 'it returns false'. Refute it at one input. -/
def fnLessWrong : ChangeSpec := { name := "fnLess", fn := fun _ => fun
  | [d1, d2, d3, d4, d5, d6, d7] => { results := [.lit (.bool false)], args := [d1, d2, d3, d4, d5, d6, d7] }
  | _ => none }
def FnLessWrongFalsely : Prop := fnLessRow.holds Try.pinned (OpenSpec.ofChange fnLessWrong)

/-- 'laws.FnNext': WHATEVER THE INPUT: true; the input reads as it did. -/
def fnNextSpec : ChangeSpec := { name := "fnNext", fn := fun _ => fun
  | [d1, d2, d3, d4, d5] => { results := [.lit (.bool true)], args := [d1, d2, d3, d4, d5] }
  | _ => none }
def fnNextRow : OpenClaim := { program := "ytaapglpnofmmlaa", sum := "f6c7000ec137ecf95f3edf14d941c53838552e689a9b5bd6fc2b19968c7a0d08", func := "loop.example/pub-g03118/laws.FnNext", spec := "fnNext", unfollowed := true, recurses := true, named := ["encoding/binary.LittleEndian"], apart := false }
def FnNextSaid : Prop := fnNextRow.holds Try.pinned (OpenSpec.ofChange fnNextSpec)

/-- ITS FALSE NEIGHBOUR: 'it returns false'. Refute it at one input. -/
def fnNextWrong : ChangeSpec := { name := "fnNext", fn := fun _ => fun
  | [d1, d2, d3, d4, d5] => { results := [.lit (.bool false)], args := [d1, d2, d3, d4, d5] }
  | _ => none }
def FnNextWrongFalsely : Prop := fnNextRow.holds Try.pinned (OpenSpec.ofChange fnNextWrong)

/-- 'laws.FnPlace': WHATEVER THE INPUT: true; the input reads as it did. -/
def fnPlaceSpec : ChangeSpec := { name := "fnPlace", fn := fun _ => fun
  | [d1, d2, d3, d4, d5, d6] => { results := [.lit (.bool true)], args := [d1, d2, d3, d4, d5, d6] }
  | _ => none }
def fnPlaceRow : OpenClaim := { program := "ytaapglpnofmmlaa", sum := "f6c7000ec137ecf95f3edf14d941c53838552e689a9b5bd6fc2b19968c7a0d08", func := "loop.example/pub-g03118/laws.FnPlace", spec := "fnPlace", unfollowed := true, recurses := true, named := ["encoding/binary.LittleEndian"], apart := false }
def FnPlaceSaid : Prop := fnPlaceRow.holds Try.pinned (OpenSpec.ofChange fnPlaceSpec)

/-- ITS FALSE NEIGHBOUR: 'it returns false'. Refute it at one input. -/
def fnPlaceWrong : ChangeSpec := { name := "fnPlace", fn := fun _ => fun
  | [d1, d2, d3, d4, d5, d6] => { results := [.lit (.bool false)], args := [d1, d2, d3, d4, d5, d6] }
  | _ => none }
def FnPlaceWrongFalsely : Prop := fnPlaceRow.holds Try.pinned (OpenSpec.ofChange fnPlaceWrong)

/-- 'laws.FnRoom': WHATEVER THE INPUT: true; the input reads as it did. -/
def fnRoomSpec : ChangeSpec := { name := "fnRoom", fn := fun _ => fun
  | [d1, d2, d3, d4, d5, d6] => { results := [.lit (.bool true)], args := [d1, d2, d3, d4, d5, d6] }
  | _ => none }
def fnRoomRow : OpenClaim := { program := "ytaapglpnofmmlaa", sum := "f6c7000ec137ecf95f3edf14d941c53838552e689a9b5bd6fc2b19968c7a0d08", func := "loop.example/pub-g03118/laws.FnRoom", spec := "fnRoom", unfollowed := true, recurses := true, named := ["encoding/binary.LittleEndian"], apart := false }
def FnRoomSaid : Prop := fnRoomRow.holds Try.pinned (OpenSpec.ofChange fnRoomSpec)

/-- ITS FALSE NEIGHBOUR: 'it returns false'. Refute it at one input. -/
def fnRoomWrong : ChangeSpec := { name := "fnRoom", fn := fun _ => fun
  | [d1, d2, d3, d4, d5, d6] => { results := [.lit (.bool false)], args := [d1, d2, d3, d4, d5, d6] }
  | _ => none }
def FnRoomWrongFalsely : Prop := fnRoomRow.holds Try.pinned (OpenSpec.ofChange fnRoomWrong)

/-- 'laws.FnRun': WHATEVER THE INPUT: true; the input reads as it did. -/
def fnRunSpec : ChangeSpec := { name := "fnRun", fn := fun _ => fun
  | [d1, d2, d3] => { results := [.lit (.bool true)], args := [d1, d2, d3] }
  | _ => none }
def fnRunRow : OpenClaim := { program := "ytaapglpnofmmlaa", sum := "f6c7000ec137ecf95f3edf14d941c53838552e689a9b5bd6fc2b19968c7a0d08", func := "loop.example/pub-g03118/laws.FnRun", spec := "fnRun", unfollowed := true, recurses := true, named := ["encoding/binary.LittleEndian"], apart := false }
def FnRunSaid : Prop := fnRunRow.holds Try.pinned (OpenSpec.ofChange fnRunSpec)

/-- ITS FALSE NEIGHBOUR: 'it returns false'. Refute it at one input. -/
def fnRunWrong : ChangeSpec := { name := "fnRun", fn := fun _ => fun
  | [d1, d2, d3] => { results := [.lit (.bool false)], args := [d1, d2, d3] }
  | _ => none }
def FnRunWrongFalsely : Prop := fnRunRow.holds Try.pinned (OpenSpec.ofChange fnRunWrong)

/- THE SECOND FORM. 'bulk': how many values and letters a reading holds, each counted each time it is reached (what is shared counts as often as it is met; a slice's spare places count too). A statement '..UptoSaid' is the law's where the arguments, and the package variables that the reading takes, are together of bulk at most 1048576: NARROWER than '..Said'. Prove '..Said' where nothing that the law and all that it calls make is longer than what came in: it says more and counts as full. Else prove '..UptoSaid'. A law counts once. -/
mutual
def uptoBulk {H : Type} : DataW H → Nat
  | .lit (.string bytes) => bytes.length + 1
  | .lit _ => 1
  | .nil => 1
  | .ptr d => uptoBulk d + 1
  | .slice elems spare => uptoBulkAll elems + uptoBulkAll spare + 1
  | .agg parts => uptoBulkAll parts + 1
  | .iface _ d => uptoBulk d + 1
  | .map entries => uptoBulkEntries entries + 1
  | .held _ => 1
def uptoBulkAll {H : Type} : List (DataW H) → Nat
  | [] => 0
  | d :: r => uptoBulk d + uptoBulkAll r
def uptoBulkEntries {H : Type} : List (Lit × DataW H) → Nat
  | [] => 0
  | x :: r => uptoBulkEntry x + uptoBulkEntries r
def uptoBulkEntry {H : Type} : Lit × DataW H → Nat
  | (.string bytes, d) => bytes.length + uptoBulk d + 1
  | (_, d) => uptoBulk d + 1
 end
def uptoSmall : (H : Type) → List (DataW H) → Bool := fun _ ds => decide (uptoBulkAll ds ≤ 1048576)
def OpenSpec.upto (s : _root_.Go.ChangeSpec) : _root_.Go.OpenSpec := { _root_.Go.OpenSpec.ofChange s with cond := some uptoSmall }

/-- 'laws.FnDerive', WHERE WHAT IT READS IS OF BULK AT MOST 1048576: true; the input reads as it did. -/
def fnDeriveUptoRow : OpenClaim := { program := "ytaapglpnofmmlaa", sum := "f6c7000ec137ecf95f3edf14d941c53838552e689a9b5bd6fc2b19968c7a0d08", func := "loop.example/pub-g03118/laws.FnDerive", spec := "fnDerive", named := ["encoding/binary.LittleEndian"], apart := false, narrowed := true }
def FnDeriveUptoSaid : Prop := fnDeriveUptoRow.holds Try.pinned (OpenSpec.upto fnDeriveSpec)

/-- 'laws.FnApart', WHERE WHAT IT READS IS OF BULK AT MOST 1048576: true; the input reads as it did. -/
def fnApartUptoRow : OpenClaim := { program := "ytaapglpnofmmlaa", sum := "f6c7000ec137ecf95f3edf14d941c53838552e689a9b5bd6fc2b19968c7a0d08", func := "loop.example/pub-g03118/laws.FnApart", spec := "fnApart", unfollowed := true, recurses := true, named := ["encoding/binary.LittleEndian"], apart := false, narrowed := true }
def FnApartUptoSaid : Prop := fnApartUptoRow.holds Try.pinned (OpenSpec.upto fnApartSpec)

/-- 'laws.FnBack', WHERE WHAT IT READS IS OF BULK AT MOST 1048576: true; the input reads as it did. -/
def fnBackUptoRow : OpenClaim := { program := "ytaapglpnofmmlaa", sum := "f6c7000ec137ecf95f3edf14d941c53838552e689a9b5bd6fc2b19968c7a0d08", func := "loop.example/pub-g03118/laws.FnBack", spec := "fnBack", unfollowed := true, recurses := true, named := ["encoding/binary.LittleEndian"], apart := false, narrowed := true }
def FnBackUptoSaid : Prop := fnBackUptoRow.holds Try.pinned (OpenSpec.upto fnBackSpec)

/-- 'laws.FnBeginning', WHERE WHAT IT READS IS OF BULK AT MOST 1048576: true; the input reads as it did. -/
def fnBeginningUptoRow : OpenClaim := { program := "ytaapglpnofmmlaa", sum := "f6c7000ec137ecf95f3edf14d941c53838552e689a9b5bd6fc2b19968c7a0d08", func := "loop.example/pub-g03118/laws.FnBeginning", spec := "fnBeginning", unfollowed := true, recurses := true, named := ["encoding/binary.LittleEndian"], apart := false, narrowed := true }
def FnBeginningUptoSaid : Prop := fnBeginningUptoRow.holds Try.pinned (OpenSpec.upto fnBeginningSpec)

/-- 'laws.FnBlock', WHERE WHAT IT READS IS OF BULK AT MOST 1048576: true; the input reads as it did. -/
def fnBlockUptoRow : OpenClaim := { program := "ytaapglpnofmmlaa", sum := "f6c7000ec137ecf95f3edf14d941c53838552e689a9b5bd6fc2b19968c7a0d08", func := "loop.example/pub-g03118/laws.FnBlock", spec := "fnBlock", unfollowed := true, recurses := true, named := ["encoding/binary.LittleEndian"], apart := false, narrowed := true }
def FnBlockUptoSaid : Prop := fnBlockUptoRow.holds Try.pinned (OpenSpec.upto fnBlockSpec)

/-- 'laws.FnCuts', WHERE WHAT IT READS IS OF BULK AT MOST 1048576: true; the input reads as it did. -/
def fnCutsUptoRow : OpenClaim := { program := "ytaapglpnofmmlaa", sum := "f6c7000ec137ecf95f3edf14d941c53838552e689a9b5bd6fc2b19968c7a0d08", func := "loop.example/pub-g03118/laws.FnCuts", spec := "fnCuts", unfollowed := true, recurses := true, named := ["encoding/binary.LittleEndian"], apart := false, narrowed := true }
def FnCutsUptoSaid : Prop := fnCutsUptoRow.holds Try.pinned (OpenSpec.upto fnCutsSpec)

/-- 'laws.FnLast', WHERE WHAT IT READS IS OF BULK AT MOST 1048576: true; the input reads as it did. -/
def fnLastUptoRow : OpenClaim := { program := "ytaapglpnofmmlaa", sum := "f6c7000ec137ecf95f3edf14d941c53838552e689a9b5bd6fc2b19968c7a0d08", func := "loop.example/pub-g03118/laws.FnLast", spec := "fnLast", unfollowed := true, recurses := true, named := ["encoding/binary.LittleEndian"], apart := false, narrowed := true }
def FnLastUptoSaid : Prop := fnLastUptoRow.holds Try.pinned (OpenSpec.upto fnLastSpec)

/-- 'laws.FnLess', WHERE WHAT IT READS IS OF BULK AT MOST 1048576: true; the input reads as it did. -/
def fnLessUptoRow : OpenClaim := { program := "ytaapglpnofmmlaa", sum := "f6c7000ec137ecf95f3edf14d941c53838552e689a9b5bd6fc2b19968c7a0d08", func := "loop.example/pub-g03118/laws.FnLess", spec := "fnLess", unfollowed := true, recurses := true, named := ["encoding/binary.LittleEndian"], apart := false, narrowed := true }
def FnLessUptoSaid : Prop := fnLessUptoRow.holds Try.pinned (OpenSpec.upto fnLessSpec)

/-- 'laws.FnNext', WHERE WHAT IT READS IS OF BULK AT MOST 1048576: true; the input reads as it did. -/
def fnNextUptoRow : OpenClaim := { program := "ytaapglpnofmmlaa", sum := "f6c7000ec137ecf95f3edf14d941c53838552e689a9b5bd6fc2b19968c7a0d08", func := "loop.example/pub-g03118/laws.FnNext", spec := "fnNext", unfollowed := true, recurses := true, named := ["encoding/binary.LittleEndian"], apart := false, narrowed := true }
def FnNextUptoSaid : Prop := fnNextUptoRow.holds Try.pinned (OpenSpec.upto fnNextSpec)

/-- 'laws.FnPlace', WHERE WHAT IT READS IS OF BULK AT MOST 1048576: true; the input reads as it did. -/
def fnPlaceUptoRow : OpenClaim := { program := "ytaapglpnofmmlaa", sum := "f6c7000ec137ecf95f3edf14d941c53838552e689a9b5bd6fc2b19968c7a0d08", func := "loop.example/pub-g03118/laws.FnPlace", spec := "fnPlace", unfollowed := true, recurses := true, named := ["encoding/binary.LittleEndian"], apart := false, narrowed := true }
def FnPlaceUptoSaid : Prop := fnPlaceUptoRow.holds Try.pinned (OpenSpec.upto fnPlaceSpec)

/-- 'laws.FnRoom', WHERE WHAT IT READS IS OF BULK AT MOST 1048576: true; the input reads as it did. -/
def fnRoomUptoRow : OpenClaim := { program := "ytaapglpnofmmlaa", sum := "f6c7000ec137ecf95f3edf14d941c53838552e689a9b5bd6fc2b19968c7a0d08", func := "loop.example/pub-g03118/laws.FnRoom", spec := "fnRoom", unfollowed := true, recurses := true, named := ["encoding/binary.LittleEndian"], apart := false, narrowed := true }
def FnRoomUptoSaid : Prop := fnRoomUptoRow.holds Try.pinned (OpenSpec.upto fnRoomSpec)

/-- 'laws.FnRun', WHERE WHAT IT READS IS OF BULK AT MOST 1048576: true; the input reads as it did. -/
def fnRunUptoRow : OpenClaim := { program := "ytaapglpnofmmlaa", sum := "f6c7000ec137ecf95f3edf14d941c53838552e689a9b5bd6fc2b19968c7a0d08", func := "loop.example/pub-g03118/laws.FnRun", spec := "fnRun", unfollowed := true, recurses := true, named := ["encoding/binary.LittleEndian"], apart := false, narrowed := true }
def FnRunUptoSaid : Prop := fnRunUptoRow.holds Try.pinned (OpenSpec.upto fnRunSpec)

end Rows
end Go.Proofs.Ytaapglpnofmmlaa
