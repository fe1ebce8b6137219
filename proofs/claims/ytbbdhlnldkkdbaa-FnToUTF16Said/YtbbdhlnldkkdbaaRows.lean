/-
  No cell of these rows narrows 'for every input' (looked for: loops, veiled, ifaces, maps, wideKeys, modest, calm, conditions, laid).
  DERIVED. THE GIVEN ROWS OF THIS SEAT. 12 by the template 'for every input the law returns true; each argument reads behind the call as it read before'; 0 by the template 'total and deterministic' (their statements: YtbbdhlnldkkdbaaTotals.lean).
  GIVEN WITH THE SEED: the statements are not yours to turn. If you find one false, say at which input.
  Laid BY PROGRAM, IN A SANDBOX (cutbox-rows.mjs): the forced cells as the released guide's own fill.sh prints them over the translation c5901b189d15e9ce… (all of the seat's roots in one cut). By AI agents, Wed Nov 11 2026. No macro, syntax, notation, axiom, sorry.
-/
import Derived.Test.YtbbdhlnldkkdbaaChecked
import GoSem.Claim
import GoSem.ClaimJoined
import GoSem.ClaimMapViews
import Derived.JoinedTies
import Derived.KernelRfl
namespace Go.Proofs.Ytbbdhlnldkkdbaa
/- THE CELL 'sum', in the pinned program and in every row, IS THE sha256 OF THE DUMP (.gsa) THAT YtbbdhlnldkkdbaaProg.lean LOADS. Nothing in Lean hashes anything: it is a label: what it is worth is what the hold of that sum in a sandbox is worth. -/
noncomputable def Try.pinned : Pinned := { name := "ytbbdhlnldkkdbaa", sum := "c5901b189d15e9ce9b50aaa9bdda715060ff0a7d562723c1b082b47dfefb2960", checked := Try.checked }
namespace Rows
def none {H : Type} : Left H := { results := [], args := [] }

/-- 'laws.FnSpan': WHATEVER THE INPUT: true; the input reads as it did. -/
def fnSpanSpec : ChangeSpec := { name := "fnSpan", fn := fun _ => fun
  | [d1, d2, d3] => { results := [.lit (.bool true)], args := [d1, d2, d3] }
  | _ => none }
def fnSpanRow : OpenClaim := { program := "ytbbdhlnldkkdbaa", sum := "c5901b189d15e9ce9b50aaa9bdda715060ff0a7d562723c1b082b47dfefb2960", func := "loop.example/pub-g01515/laws.FnSpan", spec := "fnSpan", apart := false }
def FnSpanSaid : Prop := fnSpanRow.holds Try.pinned (OpenSpec.ofChange fnSpanSpec)

/-- ITS FALSE NEIGHBOUR: 'it returns false'. Refute it at one input. -/
def fnSpanWrong : ChangeSpec := { name := "fnSpan", fn := fun _ => fun
  | [d1, d2, d3] => { results := [.lit (.bool false)], args := [d1, d2, d3] }
  | _ => none }
def FnSpanWrongFalsely : Prop := fnSpanRow.holds Try.pinned (OpenSpec.ofChange fnSpanWrong)

/-- 'laws.FnPoint': WHATEVER THE INPUT: true; the input reads as it did. -/
def fnPointSpec : ChangeSpec := { name := "fnPoint", fn := fun _ => fun
  | [d1, d2, d3] => { results := [.lit (.bool true)], args := [d1, d2, d3] }
  | _ => none }
def fnPointRow : OpenClaim := { program := "ytbbdhlnldkkdbaa", sum := "c5901b189d15e9ce9b50aaa9bdda715060ff0a7d562723c1b082b47dfefb2960", func := "loop.example/pub-g01515/laws.FnPoint", spec := "fnPoint", apart := false }
def FnPointSaid : Prop := fnPointRow.holds Try.pinned (OpenSpec.ofChange fnPointSpec)

/-- ITS FALSE NEIGHBOUR: 'it returns false'. Refute it at one input. -/
def fnPointWrong : ChangeSpec := { name := "fnPoint", fn := fun _ => fun
  | [d1, d2, d3] => { results := [.lit (.bool false)], args := [d1, d2, d3] }
  | _ => none }
def FnPointWrongFalsely : Prop := fnPointRow.holds Try.pinned (OpenSpec.ofChange fnPointWrong)

/-- 'laws.FnToPositionBeyond': WHATEVER THE INPUT: true; the input reads as it did. -/
def fnToPositionBeyondSpec : ChangeSpec := { name := "fnToPositionBeyond", fn := fun _ => fun
  | [d1, d2] => { results := [.lit (.bool true)], args := [d1, d2] }
  | _ => none }
def fnToPositionBeyondRow : OpenClaim := { program := "ytbbdhlnldkkdbaa", sum := "c5901b189d15e9ce9b50aaa9bdda715060ff0a7d562723c1b082b47dfefb2960", func := "loop.example/pub-g01515/laws.FnToPositionBeyond", spec := "fnToPositionBeyond", apart := false }
def FnToPositionBeyondSaid : Prop := fnToPositionBeyondRow.holds Try.pinned (OpenSpec.ofChange fnToPositionBeyondSpec)

/-- ITS FALSE NEIGHBOUR: 'it returns false'. Refute it at one input. -/
def fnToPositionBeyondWrong : ChangeSpec := { name := "fnToPositionBeyond", fn := fun _ => fun
  | [d1, d2] => { results := [.lit (.bool false)], args := [d1, d2] }
  | _ => none }
def FnToPositionBeyondWrongFalsely : Prop := fnToPositionBeyondRow.holds Try.pinned (OpenSpec.ofChange fnToPositionBeyondWrong)

/-- 'laws.FnToOffsetBeyond': WHATEVER THE INPUT: true; the input reads as it did. -/
def fnToOffsetBeyondSpec : ChangeSpec := { name := "fnToOffsetBeyond", fn := fun _ => fun
  | [d1, d2, d3] => { results := [.lit (.bool true)], args := [d1, d2, d3] }
  | _ => none }
def fnToOffsetBeyondRow : OpenClaim := { program := "ytbbdhlnldkkdbaa", sum := "c5901b189d15e9ce9b50aaa9bdda715060ff0a7d562723c1b082b47dfefb2960", func := "loop.example/pub-g01515/laws.FnToOffsetBeyond", spec := "fnToOffsetBeyond", inPlace := ["internal/bytealg.IndexByteString"], apart := false }
def FnToOffsetBeyondSaid : Prop := fnToOffsetBeyondRow.holds Try.pinned (OpenSpec.ofChange fnToOffsetBeyondSpec)

/-- ITS FALSE NEIGHBOUR: 'it returns false'. Refute it at one input. -/
def fnToOffsetBeyondWrong : ChangeSpec := { name := "fnToOffsetBeyond", fn := fun _ => fun
  | [d1, d2, d3] => { results := [.lit (.bool false)], args := [d1, d2, d3] }
  | _ => none }
def FnToOffsetBeyondWrongFalsely : Prop := fnToOffsetBeyondRow.holds Try.pinned (OpenSpec.ofChange fnToOffsetBeyondWrong)

/-- 'laws.FnCompareOffsets': WHATEVER THE INPUT: true; the input reads as it did. -/
def fnCompareOffsetsSpec : ChangeSpec := { name := "fnCompareOffsets", fn := fun _ => fun
  | [d1, d2, d3, d4, d5, d6] => { results := [.lit (.bool true)], args := [d1, d2, d3, d4, d5, d6] }
  | _ => none }
def fnCompareOffsetsRow : OpenClaim := { program := "ytbbdhlnldkkdbaa", sum := "c5901b189d15e9ce9b50aaa9bdda715060ff0a7d562723c1b082b47dfefb2960", func := "loop.example/pub-g01515/laws.FnCompareOffsets", spec := "fnCompareOffsets", unfollowed := true, recurses := true, apart := false }
def FnCompareOffsetsSaid : Prop := fnCompareOffsetsRow.holds Try.pinned (OpenSpec.ofChange fnCompareOffsetsSpec)

/-- ITS FALSE NEIGHBOUR: 'it returns false'. Refute it at one input. -/
def fnCompareOffsetsWrong : ChangeSpec := { name := "fnCompareOffsets", fn := fun _ => fun
  | [d1, d2, d3, d4, d5, d6] => { results := [.lit (.bool false)], args := [d1, d2, d3, d4, d5, d6] }
  | _ => none }
def FnCompareOffsetsWrongFalsely : Prop := fnCompareOffsetsRow.holds Try.pinned (OpenSpec.ofChange fnCompareOffsetsWrong)

/-- 'laws.FnComparePlaces': WHATEVER THE INPUT: true; the input reads as it did. -/
def fnComparePlacesSpec : ChangeSpec := { name := "fnComparePlaces", fn := fun _ => fun
  | [d1, d2, d3, d4] => { results := [.lit (.bool true)], args := [d1, d2, d3, d4] }
  | _ => none }
def fnComparePlacesRow : OpenClaim := { program := "ytbbdhlnldkkdbaa", sum := "c5901b189d15e9ce9b50aaa9bdda715060ff0a7d562723c1b082b47dfefb2960", func := "loop.example/pub-g01515/laws.FnComparePlaces", spec := "fnComparePlaces", apart := false }
def FnComparePlacesSaid : Prop := fnComparePlacesRow.holds Try.pinned (OpenSpec.ofChange fnComparePlacesSpec)

/-- ITS FALSE NEIGHBOUR: 'it returns false'. Refute it at one input. -/
def fnComparePlacesWrong : ChangeSpec := { name := "fnComparePlaces", fn := fun _ => fun
  | [d1, d2, d3, d4] => { results := [.lit (.bool false)], args := [d1, d2, d3, d4] }
  | _ => none }
def FnComparePlacesWrongFalsely : Prop := fnComparePlacesRow.holds Try.pinned (OpenSpec.ofChange fnComparePlacesWrong)

/-- 'laws.FnToPosition': WHATEVER THE INPUT: true; the input reads as it did. -/
def fnToPositionSpec : ChangeSpec := { name := "fnToPosition", fn := fun _ => fun
  | [d1, d2] => { results := [.lit (.bool true)], args := [d1, d2] }
  | _ => none }
def fnToPositionRow : OpenClaim := { program := "ytbbdhlnldkkdbaa", sum := "c5901b189d15e9ce9b50aaa9bdda715060ff0a7d562723c1b082b47dfefb2960", func := "loop.example/pub-g01515/laws.FnToPosition", spec := "fnToPosition", apart := false }
def FnToPositionSaid : Prop := fnToPositionRow.holds Try.pinned (OpenSpec.ofChange fnToPositionSpec)

/-- ITS FALSE NEIGHBOUR: 'it returns false'. Refute it at one input. -/
def fnToPositionWrong : ChangeSpec := { name := "fnToPosition", fn := fun _ => fun
  | [d1, d2] => { results := [.lit (.bool false)], args := [d1, d2] }
  | _ => none }
def FnToPositionWrongFalsely : Prop := fnToPositionRow.holds Try.pinned (OpenSpec.ofChange fnToPositionWrong)

/-- 'laws.FnToOffset': WHATEVER THE INPUT: true; the input reads as it did. -/
def fnToOffsetSpec : ChangeSpec := { name := "fnToOffset", fn := fun _ => fun
  | [d1, d2] => { results := [.lit (.bool true)], args := [d1, d2] }
  | _ => none }
def fnToOffsetRow : OpenClaim := { program := "ytbbdhlnldkkdbaa", sum := "c5901b189d15e9ce9b50aaa9bdda715060ff0a7d562723c1b082b47dfefb2960", func := "loop.example/pub-g01515/laws.FnToOffset", spec := "fnToOffset", apart := false }
def FnToOffsetSaid : Prop := fnToOffsetRow.holds Try.pinned (OpenSpec.ofChange fnToOffsetSpec)

/-- ITS FALSE NEIGHBOUR: 'it returns false'. Refute it at one input. -/
def fnToOffsetWrong : ChangeSpec := { name := "fnToOffset", fn := fun _ => fun
  | [d1, d2] => { results := [.lit (.bool false)], args := [d1, d2] }
  | _ => none }
def FnToOffsetWrongFalsely : Prop := fnToOffsetRow.holds Try.pinned (OpenSpec.ofChange fnToOffsetWrong)

/-- 'laws.FnToUTF16': WHATEVER THE INPUT: true; the input reads as it did. -/
def fnToUTF16Spec : ChangeSpec := { name := "fnToUTF16", fn := fun _ => fun
  | [d1, d2] => { results := [.lit (.bool true)], args := [d1, d2] }
  | _ => none }
def fnToUTF16Row : OpenClaim := { program := "ytbbdhlnldkkdbaa", sum := "c5901b189d15e9ce9b50aaa9bdda715060ff0a7d562723c1b082b47dfefb2960", func := "loop.example/pub-g01515/laws.FnToUTF16", spec := "fnToUTF16", apart := false }
def FnToUTF16Said : Prop := fnToUTF16Row.holds Try.pinned (OpenSpec.ofChange fnToUTF16Spec)

/-- ITS FALSE NEIGHBOUR: 'it returns false'. Refute it at one input. -/
def fnToUTF16Wrong : ChangeSpec := { name := "fnToUTF16", fn := fun _ => fun
  | [d1, d2] => { results := [.lit (.bool false)], args := [d1, d2] }
  | _ => none }
def FnToUTF16WrongFalsely : Prop := fnToUTF16Row.holds Try.pinned (OpenSpec.ofChange fnToUTF16Wrong)

/-- 'laws.FnWithAll': WHATEVER THE INPUT: true; the input reads as it did. -/
def fnWithAllSpec : ChangeSpec := { name := "fnWithAll", fn := fun _ => fun
  | [d1, d2, d3, d4] => { results := [.lit (.bool true)], args := [d1, d2, d3, d4] }
  | _ => none }
def fnWithAllRow : OpenClaim := { program := "ytbbdhlnldkkdbaa", sum := "c5901b189d15e9ce9b50aaa9bdda715060ff0a7d562723c1b082b47dfefb2960", func := "loop.example/pub-g01515/laws.FnWithAll", spec := "fnWithAll", unfollowed := true, recurses := true, apart := false }
def FnWithAllSaid : Prop := fnWithAllRow.holds Try.pinned (OpenSpec.ofChange fnWithAllSpec)

/-- ITS FALSE NEIGHBOUR: 'it returns false'. Refute it at one input. -/
def fnWithAllWrong : ChangeSpec := { name := "fnWithAll", fn := fun _ => fun
  | [d1, d2, d3, d4] => { results := [.lit (.bool false)], args := [d1, d2, d3, d4] }
  | _ => none }
def FnWithAllWrongFalsely : Prop := fnWithAllRow.holds Try.pinned (OpenSpec.ofChange fnWithAllWrong)

/-- 'laws.FnWithOffset': WHATEVER THE INPUT: true; the input reads as it did. -/
def fnWithOffsetSpec : ChangeSpec := { name := "fnWithOffset", fn := fun _ => fun
  | [d1, d2, d3] => { results := [.lit (.bool true)], args := [d1, d2, d3] }
  | _ => none }
def fnWithOffsetRow : OpenClaim := { program := "ytbbdhlnldkkdbaa", sum := "c5901b189d15e9ce9b50aaa9bdda715060ff0a7d562723c1b082b47dfefb2960", func := "loop.example/pub-g01515/laws.FnWithOffset", spec := "fnWithOffset", unfollowed := true, recurses := true, apart := false }
def FnWithOffsetSaid : Prop := fnWithOffsetRow.holds Try.pinned (OpenSpec.ofChange fnWithOffsetSpec)

/-- ITS FALSE NEIGHBOUR: 'it returns false'. Refute it at one input. -/
def fnWithOffsetWrong : ChangeSpec := { name := "fnWithOffset", fn := fun _ => fun
  | [d1, d2, d3] => { results := [.lit (.bool false)], args := [d1, d2, d3] }
  | _ => none }
def FnWithOffsetWrongFalsely : Prop := fnWithOffsetRow.holds Try.pinned (OpenSpec.ofChange fnWithOffsetWrong)

/-- 'laws.FnWithPosition': WHATEVER THE INPUT: true; the input reads as it did. -/
def fnWithPositionSpec : ChangeSpec := { name := "fnWithPosition", fn := fun _ => fun
  | [d1, d2, d3] => { results := [.lit (.bool true)], args := [d1, d2, d3] }
  | _ => none }
def fnWithPositionRow : OpenClaim := { program := "ytbbdhlnldkkdbaa", sum := "c5901b189d15e9ce9b50aaa9bdda715060ff0a7d562723c1b082b47dfefb2960", func := "loop.example/pub-g01515/laws.FnWithPosition", spec := "fnWithPosition", unfollowed := true, recurses := true, apart := false }
def FnWithPositionSaid : Prop := fnWithPositionRow.holds Try.pinned (OpenSpec.ofChange fnWithPositionSpec)

/-- ITS FALSE NEIGHBOUR: 'it returns false'. Refute it at one input. -/
def fnWithPositionWrong : ChangeSpec := { name := "fnWithPosition", fn := fun _ => fun
  | [d1, d2, d3] => { results := [.lit (.bool false)], args := [d1, d2, d3] }
  | _ => none }
def FnWithPositionWrongFalsely : Prop := fnWithPositionRow.holds Try.pinned (OpenSpec.ofChange fnWithPositionWrong)

/- THE SECOND FORM. 'bulk': how many values and letters a reading holds, each counted each time it is reached (what is shared counts as often as it is met; a slice's spare places count too). A statement '..UptoSaid' is the law's where the arguments, and the package variables that the reading takes, are together of bulk at most 1048576: NARROWER than '..Said'. Prove '..Said' where nothing that the law and all that it calls make is longer than what came in: it says more and counts as full. Else prove '..UptoSaid'. A law counts once. -/
mutual
def uptoBulk {H : Type} : DataW H → Nat
  | .lit (.string bytes) => bytes.length + 1
  | .lit _ => 1
  | .nil => 1
  | .ptr d => uptoBulk d + 1
  | .slice elems spare => uptoBulkAll elems + uptoBulkAll spare + 1
  | .agg parts => uptoBulkAll parts + 1
  | .iface _ d => uptoBulk d + 1
  | .map entries => uptoBulkEntries entries + 1
  | .held _ => 1
def uptoBulkAll {H : Type} : List (DataW H) → Nat
  | [] => 0
  | d :: r => uptoBulk d + uptoBulkAll r
def uptoBulkEntries {H : Type} : List (Lit × DataW H) → Nat
  | [] => 0
  | x :: r => uptoBulkEntry x + uptoBulkEntries r
def uptoBulkEntry {H : Type} : Lit × DataW H → Nat
  | (.string bytes, d) => bytes.length + uptoBulk d + 1
  | (_, d) => uptoBulk d + 1
 end
def uptoSmall : (H : Type) → List (DataW H) → Bool := fun _ ds => decide (uptoBulkAll ds ≤ 1048576)
def OpenSpec.upto (s : _root_.Go.ChangeSpec) : _root_.Go.OpenSpec := { _root_.Go.OpenSpec.ofChange s with cond := some uptoSmall }

/-- 'laws.FnSpan', WHERE WHAT IT READS IS OF BULK AT MOST 1048576: true; the input reads as it did. -/
def fnSpanUptoRow : OpenClaim := { program := "ytbbdhlnldkkdbaa", sum := "c5901b189d15e9ce9b50aaa9bdda715060ff0a7d562723c1b082b47dfefb2960", func := "loop.example/pub-g01515/laws.FnSpan", spec := "fnSpan", apart := false, narrowed := true }
def FnSpanUptoSaid : Prop := fnSpanUptoRow.holds Try.pinned (OpenSpec.upto fnSpanSpec)

/-- 'laws.FnPoint', WHERE WHAT IT READS IS OF BULK AT MOST 1048576: true; the input reads as it did. -/
def fnPointUptoRow : OpenClaim := { program := "ytbbdhlnldkkdbaa", sum := "c5901b189d15e9ce9b50aaa9bdda715060ff0a7d562723c1b082b47dfefb2960", func := "loop.example/pub-g01515/laws.FnPoint", spec := "fnPoint", apart := false, narrowed := true }
def FnPointUptoSaid : Prop := fnPointUptoRow.holds Try.pinned (OpenSpec.upto fnPointSpec)

/-- 'laws.FnToPositionBeyond', WHERE WHAT IT READS IS OF BULK AT MOST 1048576: true; the input reads as it did. -/
def fnToPositionBeyondUptoRow : OpenClaim := { program := "ytbbdhlnldkkdbaa", sum := "c5901b189d15e9ce9b50aaa9bdda715060ff0a7d562723c1b082b47dfefb2960", func := "loop.example/pub-g01515/laws.FnToPositionBeyond", spec := "fnToPositionBeyond", apart := false, narrowed := true }
def FnToPositionBeyondUptoSaid : Prop := fnToPositionBeyondUptoRow.holds Try.pinned (OpenSpec.upto fnToPositionBeyondSpec)

/-- 'laws.FnToOffsetBeyond', WHERE WHAT IT READS IS OF BULK AT MOST 1048576: true; the input reads as it did. -/
def fnToOffsetBeyondUptoRow : OpenClaim := { program := "ytbbdhlnldkkdbaa", sum := "c5901b189d15e9ce9b50aaa9bdda715060ff0a7d562723c1b082b47dfefb2960", func := "loop.example/pub-g01515/laws.FnToOffsetBeyond", spec := "fnToOffsetBeyond", inPlace := ["internal/bytealg.IndexByteString"], apart := false, narrowed := true }
def FnToOffsetBeyondUptoSaid : Prop := fnToOffsetBeyondUptoRow.holds Try.pinned (OpenSpec.upto fnToOffsetBeyondSpec)

/-- 'laws.FnCompareOffsets', WHERE WHAT IT READS IS OF BULK AT MOST 1048576: true; the input reads as it did. -/
def fnCompareOffsetsUptoRow : OpenClaim := { program := "ytbbdhlnldkkdbaa", sum := "c5901b189d15e9ce9b50aaa9bdda715060ff0a7d562723c1b082b47dfefb2960", func := "loop.example/pub-g01515/laws.FnCompareOffsets", spec := "fnCompareOffsets", unfollowed := true, recurses := true, apart := false, narrowed := true }
def FnCompareOffsetsUptoSaid : Prop := fnCompareOffsetsUptoRow.holds Try.pinned (OpenSpec.upto fnCompareOffsetsSpec)

/-- 'laws.FnComparePlaces', WHERE WHAT IT READS IS OF BULK AT MOST 1048576: true; the input reads as it did. -/
def fnComparePlacesUptoRow : OpenClaim := { program := "ytbbdhlnldkkdbaa", sum := "c5901b189d15e9ce9b50aaa9bdda715060ff0a7d562723c1b082b47dfefb2960", func := "loop.example/pub-g01515/laws.FnComparePlaces", spec := "fnComparePlaces", apart := false, narrowed := true }
def FnComparePlacesUptoSaid : Prop := fnComparePlacesUptoRow.holds Try.pinned (OpenSpec.upto fnComparePlacesSpec)

/-- 'laws.FnToPosition', WHERE WHAT IT READS IS OF BULK AT MOST 1048576: true; the input reads as it did. -/
def fnToPositionUptoRow : OpenClaim := { program := "ytbbdhlnldkkdbaa", sum := "c5901b189d15e9ce9b50aaa9bdda715060ff0a7d562723c1b082b47dfefb2960", func := "loop.example/pub-g01515/laws.FnToPosition", spec := "fnToPosition", apart := false, narrowed := true }
def FnToPositionUptoSaid : Prop := fnToPositionUptoRow.holds Try.pinned (OpenSpec.upto fnToPositionSpec)

/-- 'laws.FnToOffset', WHERE WHAT IT READS IS OF BULK AT MOST 1048576: true; the input reads as it did. -/
def fnToOffsetUptoRow : OpenClaim := { program := "ytbbdhlnldkkdbaa", sum := "c5901b189d15e9ce9b50aaa9bdda715060ff0a7d562723c1b082b47dfefb2960", func := "loop.example/pub-g01515/laws.FnToOffset", spec := "fnToOffset", apart := false, narrowed := true }
def FnToOffsetUptoSaid : Prop := fnToOffsetUptoRow.holds Try.pinned (OpenSpec.upto fnToOffsetSpec)

/-- 'laws.FnToUTF16', WHERE WHAT IT READS IS OF BULK AT MOST 1048576: true; the input reads as it did. -/
def fnToUTF16UptoRow : OpenClaim := { program := "ytbbdhlnldkkdbaa", sum := "c5901b189d15e9ce9b50aaa9bdda715060ff0a7d562723c1b082b47dfefb2960", func := "loop.example/pub-g01515/laws.FnToUTF16", spec := "fnToUTF16", apart := false, narrowed := true }
def FnToUTF16UptoSaid : Prop := fnToUTF16UptoRow.holds Try.pinned (OpenSpec.upto fnToUTF16Spec)

/-- 'laws.FnWithAll', WHERE WHAT IT READS IS OF BULK AT MOST 1048576: true; the input reads as it did. -/
def fnWithAllUptoRow : OpenClaim := { program := "ytbbdhlnldkkdbaa", sum := "c5901b189d15e9ce9b50aaa9bdda715060ff0a7d562723c1b082b47dfefb2960", func := "loop.example/pub-g01515/laws.FnWithAll", spec := "fnWithAll", unfollowed := true, recurses := true, apart := false, narrowed := true }
def FnWithAllUptoSaid : Prop := fnWithAllUptoRow.holds Try.pinned (OpenSpec.upto fnWithAllSpec)

/-- 'laws.FnWithOffset', WHERE WHAT IT READS IS OF BULK AT MOST 1048576: true; the input reads as it did. -/
def fnWithOffsetUptoRow : OpenClaim := { program := "ytbbdhlnldkkdbaa", sum := "c5901b189d15e9ce9b50aaa9bdda715060ff0a7d562723c1b082b47dfefb2960", func := "loop.example/pub-g01515/laws.FnWithOffset", spec := "fnWithOffset", unfollowed := true, recurses := true, apart := false, narrowed := true }
def FnWithOffsetUptoSaid : Prop := fnWithOffsetUptoRow.holds Try.pinned (OpenSpec.upto fnWithOffsetSpec)

/-- 'laws.FnWithPosition', WHERE WHAT IT READS IS OF BULK AT MOST 1048576: true; the input reads as it did. -/
def fnWithPositionUptoRow : OpenClaim := { program := "ytbbdhlnldkkdbaa", sum := "c5901b189d15e9ce9b50aaa9bdda715060ff0a7d562723c1b082b47dfefb2960", func := "loop.example/pub-g01515/laws.FnWithPosition", spec := "fnWithPosition", unfollowed := true, recurses := true, apart := false, narrowed := true }
def FnWithPositionUptoSaid : Prop := fnWithPositionUptoRow.holds Try.pinned (OpenSpec.upto fnWithPositionSpec)

end Rows
end Go.Proofs.Ytbbdhlnldkkdbaa
