/-
  No cell of these rows narrows 'for every input' (looked for: loops, veiled, ifaces, maps, wideKeys, modest, calm, conditions, laid).
  DERIVED. THE GIVEN ROWS OF THIS SEAT. 11 by the template 'for every input the law returns true; each argument reads behind the call as it read before'; 0 by the template 'total and deterministic' (their statements: YtgegialfhkgggaaTotals.lean).
  GIVEN WITH THE SEED: the statements are not yours to turn. If you find one false, say at which input.
  Laid BY PROGRAM, IN A SANDBOX (cutbox-rows.mjs): the forced cells as the released guide's own fill.sh prints them over the translation b088f67788def297… (all of the seat's roots in one cut). By AI agents, Wed Nov 11 2026. No macro, syntax, notation, axiom, sorry.
-/
import Derived.Test.YtgegialfhkgggaaChecked
import GoSem.Claim
import GoSem.ClaimJoined
import GoSem.ClaimMapViews
import Derived.JoinedTies
import Derived.KernelRfl
namespace Go.Proofs.Ytgegialfhkgggaa
/- THE CELL 'sum', in the pinned program and in every row, IS THE sha256 OF THE DUMP (.gsa) THAT YtgegialfhkgggaaProg.lean LOADS. Nothing in Lean hashes anything: it is a label: what it is worth is what the hold of that sum in a sandbox is worth. -/
noncomputable def Try.pinned : Pinned := { name := "ytgegialfhkgggaa", sum := "b088f67788def2972ee594436bef81a2b63fa289593b33a41971e0c17c3b1362", checked := Try.checked }
namespace Rows
def none {H : Type} : Left H := { results := [], args := [] }

/-- 'laws.FnTurns': WHATEVER THE INPUT: true; the input reads as it did. -/
def fnTurnsSpec : ChangeSpec := { name := "fnTurns", fn := fun _ => fun
  | [d1, d2] => { results := [.lit (.bool true)], args := [d1, d2] }
  | _ => none }
def fnTurnsRow : OpenClaim := { program := "ytgegialfhkgggaa", sum := "b088f67788def2972ee594436bef81a2b63fa289593b33a41971e0c17c3b1362", func := "loop.example/pub-g01515/laws.FnTurns", spec := "fnTurns", inPlace := ["internal/abi.NoEscape", "internal/bytealg.MakeNoZero"], unfollowed := true, recurses := true, apart := false }
def FnTurnsSaid : Prop := fnTurnsRow.holds Try.pinned (OpenSpec.ofChange fnTurnsSpec)

/-- ITS FALSE NEIGHBOUR: 'it returns false'. Refute it at one input. -/
def fnTurnsWrong : ChangeSpec := { name := "fnTurns", fn := fun _ => fun
  | [d1, d2] => { results := [.lit (.bool false)], args := [d1, d2] }
  | _ => none }
def FnTurnsWrongFalsely : Prop := fnTurnsRow.holds Try.pinned (OpenSpec.ofChange fnTurnsWrong)

/-- 'laws.FnSort': WHATEVER THE INPUT: true; the input reads as it did. -/
def fnSortSpec : ChangeSpec := { name := "fnSort", fn := fun _ => fun
  | [d1, d2] => { results := [.lit (.bool true)], args := [d1, d2] }
  | _ => none }
def fnSortRow : OpenClaim := { program := "ytgegialfhkgggaa", sum := "b088f67788def2972ee594436bef81a2b63fa289593b33a41971e0c17c3b1362", func := "loop.example/pub-g01515/laws.FnSort", spec := "fnSort", inPlace := ["internal/abi.NoEscape", "internal/bytealg.MakeNoZero"], unfollowed := true, recurses := true, apart := false }
def FnSortSaid : Prop := fnSortRow.holds Try.pinned (OpenSpec.ofChange fnSortSpec)

/-- ITS FALSE NEIGHBOUR: 'it returns false'. Refute it at one input. -/
def fnSortWrong : ChangeSpec := { name := "fnSort", fn := fun _ => fun
  | [d1, d2] => { results := [.lit (.bool false)], args := [d1, d2] }
  | _ => none }
def FnSortWrongFalsely : Prop := fnSortRow.holds Try.pinned (OpenSpec.ofChange fnSortWrong)

/-- 'laws.FnEditsAscend': WHATEVER THE INPUT: true; the input reads as it did. -/
def fnEditsAscendSpec : ChangeSpec := { name := "fnEditsAscend", fn := fun _ => fun
  | [d1, d2] => { results := [.lit (.bool true)], args := [d1, d2] }
  | _ => none }
def fnEditsAscendRow : OpenClaim := { program := "ytgegialfhkgggaa", sum := "b088f67788def2972ee594436bef81a2b63fa289593b33a41971e0c17c3b1362", func := "loop.example/pub-g01515/laws.FnEditsAscend", spec := "fnEditsAscend", inPlace := ["internal/abi.NoEscape", "internal/bytealg.MakeNoZero", "internal/bytealg.IndexByteString"], unfollowed := true, recurses := true, apart := false }
def FnEditsAscendSaid : Prop := fnEditsAscendRow.holds Try.pinned (OpenSpec.ofChange fnEditsAscendSpec)

/-- ITS FALSE NEIGHBOUR: 'it returns false'. Refute it at one input. -/
def fnEditsAscendWrong : ChangeSpec := { name := "fnEditsAscend", fn := fun _ => fun
  | [d1, d2] => { results := [.lit (.bool false)], args := [d1, d2] }
  | _ => none }
def FnEditsAscendWrongFalsely : Prop := fnEditsAscendRow.holds Try.pinned (OpenSpec.ofChange fnEditsAscendWrong)

/-- 'laws.FnShortest': WHATEVER THE INPUT: true; the input reads as it did. -/
def fnShortestSpec : ChangeSpec := { name := "fnShortest", fn := fun _ => fun
  | [d1, d2] => { results := [.lit (.bool true)], args := [d1, d2] }
  | _ => none }
def fnShortestRow : OpenClaim := { program := "ytgegialfhkgggaa", sum := "b088f67788def2972ee594436bef81a2b63fa289593b33a41971e0c17c3b1362", func := "loop.example/pub-g01515/laws.FnShortest", spec := "fnShortest", inPlace := ["internal/abi.NoEscape", "internal/bytealg.MakeNoZero", "internal/bytealg.IndexByteString"], unfollowed := true, recurses := true, apart := false }
def FnShortestSaid : Prop := fnShortestRow.holds Try.pinned (OpenSpec.ofChange fnShortestSpec)

/-- ITS FALSE NEIGHBOUR: 'it returns false'. Refute it at one input. -/
def fnShortestWrong : ChangeSpec := { name := "fnShortest", fn := fun _ => fun
  | [d1, d2] => { results := [.lit (.bool false)], args := [d1, d2] }
  | _ => none }
def FnShortestWrongFalsely : Prop := fnShortestRow.holds Try.pinned (OpenSpec.ofChange fnShortestWrong)

/-- 'laws.FnSplitAfterLines': WHATEVER THE INPUT: true; the input reads as it did. -/
def fnSplitAfterLinesSpec : ChangeSpec := { name := "fnSplitAfterLines", fn := fun _ => fun
  | [d] => { results := [.lit (.bool true)], args := [d] }
  | _ => none }
def fnSplitAfterLinesRow : OpenClaim := { program := "ytgegialfhkgggaa", sum := "b088f67788def2972ee594436bef81a2b63fa289593b33a41971e0c17c3b1362", func := "loop.example/pub-g01515/laws.FnSplitAfterLines", spec := "fnSplitAfterLines", inPlace := ["internal/abi.NoEscape", "internal/bytealg.MakeNoZero", "internal/bytealg.IndexByteString"], unfollowed := true, recurses := true, apart := false }
def FnSplitAfterLinesSaid : Prop := fnSplitAfterLinesRow.holds Try.pinned (OpenSpec.ofChange fnSplitAfterLinesSpec)

/-- ITS FALSE NEIGHBOUR: 'it returns false'. Refute it at one input. -/
def fnSplitAfterLinesWrong : ChangeSpec := { name := "fnSplitAfterLines", fn := fun _ => fun
  | [d] => { results := [.lit (.bool false)], args := [d] }
  | _ => none }
def FnSplitAfterLinesWrongFalsely : Prop := fnSplitAfterLinesRow.holds Try.pinned (OpenSpec.ofChange fnSplitAfterLinesWrong)

/-- 'laws.FnApply': WHATEVER THE INPUT: true; the input reads as it did. -/
def fnApplySpec : ChangeSpec := { name := "fnApply", fn := fun _ => fun
  | [d1, d2, d3, d4, d5] => { results := [.lit (.bool true)], args := [d1, d2, d3, d4, d5] }
  | _ => none }
def fnApplyRow : OpenClaim := { program := "ytgegialfhkgggaa", sum := "b088f67788def2972ee594436bef81a2b63fa289593b33a41971e0c17c3b1362", func := "loop.example/pub-g01515/laws.FnApply", spec := "fnApply", inPlace := ["internal/abi.NoEscape", "internal/bytealg.MakeNoZero"], unfollowed := true, recurses := true, apart := false }
def FnApplySaid : Prop := fnApplyRow.holds Try.pinned (OpenSpec.ofChange fnApplySpec)

/-- ITS FALSE NEIGHBOUR: 'it returns false'. Refute it at one input. -/
def fnApplyWrong : ChangeSpec := { name := "fnApply", fn := fun _ => fun
  | [d1, d2, d3, d4, d5] => { results := [.lit (.bool false)], args := [d1, d2, d3, d4, d5] }
  | _ => none }
def FnApplyWrongFalsely : Prop := fnApplyRow.holds Try.pinned (OpenSpec.ofChange fnApplyWrong)

/-- 'laws.FnApplyPlaces': WHATEVER THE INPUT: true; the input reads as it did. -/
def fnApplyPlacesSpec : ChangeSpec := { name := "fnApplyPlaces", fn := fun _ => fun
  | [d1, d2, d3, d4, d5] => { results := [.lit (.bool true)], args := [d1, d2, d3, d4, d5] }
  | _ => none }
def fnApplyPlacesRow : OpenClaim := { program := "ytgegialfhkgggaa", sum := "b088f67788def2972ee594436bef81a2b63fa289593b33a41971e0c17c3b1362", func := "loop.example/pub-g01515/laws.FnApplyPlaces", spec := "fnApplyPlaces", inPlace := ["internal/abi.NoEscape", "internal/bytealg.MakeNoZero"], unfollowed := true, recurses := true, apart := false }
def FnApplyPlacesSaid : Prop := fnApplyPlacesRow.holds Try.pinned (OpenSpec.ofChange fnApplyPlacesSpec)

/-- ITS FALSE NEIGHBOUR: 'it returns false'. Refute it at one input. -/
def fnApplyPlacesWrong : ChangeSpec := { name := "fnApplyPlaces", fn := fun _ => fun
  | [d1, d2, d3, d4, d5] => { results := [.lit (.bool false)], args := [d1, d2, d3, d4, d5] }
  | _ => none }
def FnApplyPlacesWrongFalsely : Prop := fnApplyPlacesRow.holds Try.pinned (OpenSpec.ofChange fnApplyPlacesWrong)

/-- 'laws.FnLineEdits': WHATEVER THE INPUT: true; the input reads as it did. -/
def fnLineEditsSpec : ChangeSpec := { name := "fnLineEdits", fn := fun _ => fun
  | [d1, d2, d3, d4, d5] => { results := [.lit (.bool true)], args := [d1, d2, d3, d4, d5] }
  | _ => none }
def fnLineEditsRow : OpenClaim := { program := "ytgegialfhkgggaa", sum := "b088f67788def2972ee594436bef81a2b63fa289593b33a41971e0c17c3b1362", func := "loop.example/pub-g01515/laws.FnLineEdits", spec := "fnLineEdits", inPlace := ["internal/abi.NoEscape", "internal/bytealg.MakeNoZero", "internal/bytealg.IndexByteString"], unfollowed := true, recurses := true, apart := false }
def FnLineEditsSaid : Prop := fnLineEditsRow.holds Try.pinned (OpenSpec.ofChange fnLineEditsSpec)

/-- ITS FALSE NEIGHBOUR: 'it returns false'. Refute it at one input. -/
def fnLineEditsWrong : ChangeSpec := { name := "fnLineEdits", fn := fun _ => fun
  | [d1, d2, d3, d4, d5] => { results := [.lit (.bool false)], args := [d1, d2, d3, d4, d5] }
  | _ => none }
def FnLineEditsWrongFalsely : Prop := fnLineEditsRow.holds Try.pinned (OpenSpec.ofChange fnLineEditsWrong)

/-- 'laws.FnFirstHunk': WHATEVER THE INPUT: true; the input reads as it did. -/
def fnFirstHunkSpec : ChangeSpec := { name := "fnFirstHunk", fn := fun _ => fun
  | [d1, d2] => { results := [.lit (.bool true)], args := [d1, d2] }
  | _ => none }
def fnFirstHunkRow : OpenClaim := { program := "ytgegialfhkgggaa", sum := "b088f67788def2972ee594436bef81a2b63fa289593b33a41971e0c17c3b1362", func := "loop.example/pub-g01515/laws.FnFirstHunk", spec := "fnFirstHunk", inPlace := ["internal/abi.NoEscape", "internal/bytealg.MakeNoZero", "internal/bytealg.IndexByteString"], unfollowed := true, recurses := true, apart := false }
def FnFirstHunkSaid : Prop := fnFirstHunkRow.holds Try.pinned (OpenSpec.ofChange fnFirstHunkSpec)

/-- ITS FALSE NEIGHBOUR: 'it returns false'. Refute it at one input. -/
def fnFirstHunkWrong : ChangeSpec := { name := "fnFirstHunk", fn := fun _ => fun
  | [d1, d2] => { results := [.lit (.bool false)], args := [d1, d2] }
  | _ => none }
def FnFirstHunkWrongFalsely : Prop := fnFirstHunkRow.holds Try.pinned (OpenSpec.ofChange fnFirstHunkWrong)

/-- 'laws.FnHunks': WHATEVER THE INPUT: true; the input reads as it did. -/
def fnHunksSpec : ChangeSpec := { name := "fnHunks", fn := fun _ => fun
  | [d1, d2] => { results := [.lit (.bool true)], args := [d1, d2] }
  | _ => none }
def fnHunksRow : OpenClaim := { program := "ytgegialfhkgggaa", sum := "b088f67788def2972ee594436bef81a2b63fa289593b33a41971e0c17c3b1362", func := "loop.example/pub-g01515/laws.FnHunks", spec := "fnHunks", inPlace := ["internal/abi.NoEscape", "internal/bytealg.MakeNoZero", "internal/bytealg.IndexByteString"], unfollowed := true, recurses := true, apart := false }
def FnHunksSaid : Prop := fnHunksRow.holds Try.pinned (OpenSpec.ofChange fnHunksSpec)

/-- ITS FALSE NEIGHBOUR: 'it returns false'. Refute it at one input. -/
def fnHunksWrong : ChangeSpec := { name := "fnHunks", fn := fun _ => fun
  | [d1, d2] => { results := [.lit (.bool false)], args := [d1, d2] }
  | _ => none }
def FnHunksWrongFalsely : Prop := fnHunksRow.holds Try.pinned (OpenSpec.ofChange fnHunksWrong)

/-- 'laws.FnHunksChange': WHATEVER THE INPUT: true; the input reads as it did. -/
def fnHunksChangeSpec : ChangeSpec := { name := "fnHunksChange", fn := fun _ => fun
  | [d1, d2] => { results := [.lit (.bool true)], args := [d1, d2] }
  | _ => none }
def fnHunksChangeRow : OpenClaim := { program := "ytgegialfhkgggaa", sum := "b088f67788def2972ee594436bef81a2b63fa289593b33a41971e0c17c3b1362", func := "loop.example/pub-g01515/laws.FnHunksChange", spec := "fnHunksChange", inPlace := ["internal/abi.NoEscape", "internal/bytealg.MakeNoZero", "internal/bytealg.IndexByteString"], unfollowed := true, recurses := true, apart := false }
def FnHunksChangeSaid : Prop := fnHunksChangeRow.holds Try.pinned (OpenSpec.ofChange fnHunksChangeSpec)

/-- ITS FALSE NEIGHBOUR: 'it returns false'. Refute it at one input. -/
def fnHunksChangeWrong : ChangeSpec := { name := "fnHunksChange", fn := fun _ => fun
  | [d1, d2] => { results := [.lit (.bool false)], args := [d1, d2] }
  | _ => none }
def FnHunksChangeWrongFalsely : Prop := fnHunksChangeRow.holds Try.pinned (OpenSpec.ofChange fnHunksChangeWrong)

/- THE SECOND FORM. 'bulk': how many values and letters a reading holds, each counted each time it is reached (what is shared counts as often as it is met; a slice's spare places count too). A statement '..UptoSaid' is the law's where the arguments, and the package variables that the reading takes, are together of bulk at most 1048576: NARROWER than '..Said'. Prove '..Said' where nothing that the law and all that it calls make is longer than what came in: it says more and counts as full. Else prove '..UptoSaid'. A law counts once. -/
mutual
def uptoBulk {H : Type} : DataW H → Nat
  | .lit (.string bytes) => bytes.length + 1
  | .lit _ => 1
  | .nil => 1
  | .ptr d => uptoBulk d + 1
  | .slice elems spare => uptoBulkAll elems + uptoBulkAll spare + 1
  | .agg parts => uptoBulkAll parts + 1
  | .iface _ d => uptoBulk d + 1
  | .map entries => uptoBulkEntries entries + 1
  | .held _ => 1
def uptoBulkAll {H : Type} : List (DataW H) → Nat
  | [] => 0
  | d :: r => uptoBulk d + uptoBulkAll r
def uptoBulkEntries {H : Type} : List (Lit × DataW H) → Nat
  | [] => 0
  | x :: r => uptoBulkEntry x + uptoBulkEntries r
def uptoBulkEntry {H : Type} : Lit × DataW H → Nat
  | (.string bytes, d) => bytes.length + uptoBulk d + 1
  | (_, d) => uptoBulk d + 1
 end
def uptoSmall : (H : Type) → List (DataW H) → Bool := fun _ ds => decide (uptoBulkAll ds ≤ 1048576)
def OpenSpec.upto (s : _root_.Go.ChangeSpec) : _root_.Go.OpenSpec := { _root_.Go.OpenSpec.ofChange s with cond := some uptoSmall }

/-- 'laws.FnTurns', WHERE WHAT IT READS IS OF BULK AT MOST 1048576: true; the input reads as it did. -/
def fnTurnsUptoRow : OpenClaim := { program := "ytgegialfhkgggaa", sum := "b088f67788def2972ee594436bef81a2b63fa289593b33a41971e0c17c3b1362", func := "loop.example/pub-g01515/laws.FnTurns", spec := "fnTurns", inPlace := ["internal/abi.NoEscape", "internal/bytealg.MakeNoZero"], unfollowed := true, recurses := true, apart := false, narrowed := true }
def FnTurnsUptoSaid : Prop := fnTurnsUptoRow.holds Try.pinned (OpenSpec.upto fnTurnsSpec)

/-- 'laws.FnSort', WHERE WHAT IT READS IS OF BULK AT MOST 1048576: true; the input reads as it did. -/
def fnSortUptoRow : OpenClaim := { program := "ytgegialfhkgggaa", sum := "b088f67788def2972ee594436bef81a2b63fa289593b33a41971e0c17c3b1362", func := "loop.example/pub-g01515/laws.FnSort", spec := "fnSort", inPlace := ["internal/abi.NoEscape", "internal/bytealg.MakeNoZero"], unfollowed := true, recurses := true, apart := false, narrowed := true }
def FnSortUptoSaid : Prop := fnSortUptoRow.holds Try.pinned (OpenSpec.upto fnSortSpec)

/-- 'laws.FnEditsAscend', WHERE WHAT IT READS IS OF BULK AT MOST 1048576: true; the input reads as it did. -/
def fnEditsAscendUptoRow : OpenClaim := { program := "ytgegialfhkgggaa", sum := "b088f67788def2972ee594436bef81a2b63fa289593b33a41971e0c17c3b1362", func := "loop.example/pub-g01515/laws.FnEditsAscend", spec := "fnEditsAscend", inPlace := ["internal/abi.NoEscape", "internal/bytealg.MakeNoZero", "internal/bytealg.IndexByteString"], unfollowed := true, recurses := true, apart := false, narrowed := true }
def FnEditsAscendUptoSaid : Prop := fnEditsAscendUptoRow.holds Try.pinned (OpenSpec.upto fnEditsAscendSpec)

/-- 'laws.FnShortest', WHERE WHAT IT READS IS OF BULK AT MOST 1048576: true; the input reads as it did. -/
def fnShortestUptoRow : OpenClaim := { program := "ytgegialfhkgggaa", sum := "b088f67788def2972ee594436bef81a2b63fa289593b33a41971e0c17c3b1362", func := "loop.example/pub-g01515/laws.FnShortest", spec := "fnShortest", inPlace := ["internal/abi.NoEscape", "internal/bytealg.MakeNoZero", "internal/bytealg.IndexByteString"], unfollowed := true, recurses := true, apart := false, narrowed := true }
def FnShortestUptoSaid : Prop := fnShortestUptoRow.holds Try.pinned (OpenSpec.upto fnShortestSpec)

/-- 'laws.FnSplitAfterLines', WHERE WHAT IT READS IS OF BULK AT MOST 1048576: true; the input reads as it did. -/
def fnSplitAfterLinesUptoRow : OpenClaim := { program := "ytgegialfhkgggaa", sum := "b088f67788def2972ee594436bef81a2b63fa289593b33a41971e0c17c3b1362", func := "loop.example/pub-g01515/laws.FnSplitAfterLines", spec := "fnSplitAfterLines", inPlace := ["internal/abi.NoEscape", "internal/bytealg.MakeNoZero", "internal/bytealg.IndexByteString"], unfollowed := true, recurses := true, apart := false, narrowed := true }
def FnSplitAfterLinesUptoSaid : Prop := fnSplitAfterLinesUptoRow.holds Try.pinned (OpenSpec.upto fnSplitAfterLinesSpec)

/-- 'laws.FnApply', WHERE WHAT IT READS IS OF BULK AT MOST 1048576: true; the input reads as it did. -/
def fnApplyUptoRow : OpenClaim := { program := "ytgegialfhkgggaa", sum := "b088f67788def2972ee594436bef81a2b63fa289593b33a41971e0c17c3b1362", func := "loop.example/pub-g01515/laws.FnApply", spec := "fnApply", inPlace := ["internal/abi.NoEscape", "internal/bytealg.MakeNoZero"], unfollowed := true, recurses := true, apart := false, narrowed := true }
def FnApplyUptoSaid : Prop := fnApplyUptoRow.holds Try.pinned (OpenSpec.upto fnApplySpec)

/-- 'laws.FnApplyPlaces', WHERE WHAT IT READS IS OF BULK AT MOST 1048576: true; the input reads as it did. -/
def fnApplyPlacesUptoRow : OpenClaim := { program := "ytgegialfhkgggaa", sum := "b088f67788def2972ee594436bef81a2b63fa289593b33a41971e0c17c3b1362", func := "loop.example/pub-g01515/laws.FnApplyPlaces", spec := "fnApplyPlaces", inPlace := ["internal/abi.NoEscape", "internal/bytealg.MakeNoZero"], unfollowed := true, recurses := true, apart := false, narrowed := true }
def FnApplyPlacesUptoSaid : Prop := fnApplyPlacesUptoRow.holds Try.pinned (OpenSpec.upto fnApplyPlacesSpec)

/-- 'laws.FnLineEdits', WHERE WHAT IT READS IS OF BULK AT MOST 1048576: true; the input reads as it did. -/
def fnLineEditsUptoRow : OpenClaim := { program := "ytgegialfhkgggaa", sum := "b088f67788def2972ee594436bef81a2b63fa289593b33a41971e0c17c3b1362", func := "loop.example/pub-g01515/laws.FnLineEdits", spec := "fnLineEdits", inPlace := ["internal/abi.NoEscape", "internal/bytealg.MakeNoZero", "internal/bytealg.IndexByteString"], unfollowed := true, recurses := true, apart := false, narrowed := true }
def FnLineEditsUptoSaid : Prop := fnLineEditsUptoRow.holds Try.pinned (OpenSpec.upto fnLineEditsSpec)

/-- 'laws.FnFirstHunk', WHERE WHAT IT READS IS OF BULK AT MOST 1048576: true; the input reads as it did. -/
def fnFirstHunkUptoRow : OpenClaim := { program := "ytgegialfhkgggaa", sum := "b088f67788def2972ee594436bef81a2b63fa289593b33a41971e0c17c3b1362", func := "loop.example/pub-g01515/laws.FnFirstHunk", spec := "fnFirstHunk", inPlace := ["internal/abi.NoEscape", "internal/bytealg.MakeNoZero", "internal/bytealg.IndexByteString"], unfollowed := true, recurses := true, apart := false, narrowed := true }
def FnFirstHunkUptoSaid : Prop := fnFirstHunkUptoRow.holds Try.pinned (OpenSpec.upto fnFirstHunkSpec)

/-- 'laws.FnHunks', WHERE WHAT IT READS IS OF BULK AT MOST 1048576: true; the input reads as it did. -/
def fnHunksUptoRow : OpenClaim := { program := "ytgegialfhkgggaa", sum := "b088f67788def2972ee594436bef81a2b63fa289593b33a41971e0c17c3b1362", func := "loop.example/pub-g01515/laws.FnHunks", spec := "fnHunks", inPlace := ["internal/abi.NoEscape", "internal/bytealg.MakeNoZero", "internal/bytealg.IndexByteString"], unfollowed := true, recurses := true, apart := false, narrowed := true }
def FnHunksUptoSaid : Prop := fnHunksUptoRow.holds Try.pinned (OpenSpec.upto fnHunksSpec)

/-- 'laws.FnHunksChange', WHERE WHAT IT READS IS OF BULK AT MOST 1048576: true; the input reads as it did. -/
def fnHunksChangeUptoRow : OpenClaim := { program := "ytgegialfhkgggaa", sum := "b088f67788def2972ee594436bef81a2b63fa289593b33a41971e0c17c3b1362", func := "loop.example/pub-g01515/laws.FnHunksChange", spec := "fnHunksChange", inPlace := ["internal/abi.NoEscape", "internal/bytealg.MakeNoZero", "internal/bytealg.IndexByteString"], unfollowed := true, recurses := true, apart := false, narrowed := true }
def FnHunksChangeUptoSaid : Prop := fnHunksChangeUptoRow.holds Try.pinned (OpenSpec.upto fnHunksChangeSpec)

end Rows
end Go.Proofs.Ytgegialfhkgggaa
