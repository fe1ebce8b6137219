/- Worlds in which two points are made out of two others. No condition. -/
import Derived.Test.YtckgdkjgllopmaaDoorSpansM
import Derived.Test.YtckgdkjgllopmaaDoorPa
set_option linter.unusedVariables false
set_option linter.unusedSimpArgs false
namespace Go.Proofs.YtckgdkjgllopmaaDoor
open Go.RowKit

theorem SB.drew_ {g : Nat} {W w : World} (h : SB g W w) : SB g W w.drew := ⟨h.1, h.2.1, h.2.2.drew⟩
theorem World.size_drew_ (w : World) : w.drew.heap.size = w.heap.size := rfl

/-- What the statement leaves: two new points beside the two that were there. -/
def CutW (w wc : World) (g7 g8 g9 g10 : Nat) (p q r s : Array Value) : Prop := Blk wc g7 25 p ∧ Blk wc g8 25 q ∧ Blk wc g9 25 r ∧ Blk wc g10 25 s ∧ Below w.heap.size w wc

theorem cutW_of {w W wc : World} {g7 g8 g9 g10 : Nat} {p q r s : Array Value} (hw : Below w.heap.size w W) (hW : w.heap.size ≤ W.heap.size) (h1 : Blk W g7 25 p) (h2 : Blk W g8 25 q) (hS : SB W.heap.size W wc) (h3 : Blk wc g9 25 r) (h4 : Blk wc g10 25 s) : CutW w wc g7 g8 g9 g10 p q r s :=
  ⟨h1.below hS.2.2 h1.lt, h2.below hS.2.2 h2.lt, h3, h4, hw.trans (hS.2.2.mono hW)⟩

theorem cutW_of2 {w wc wx : World} {g9 g10 g11 g12 : Nat} {p q r s : Array Value} (H : Off2 g11 g12 wc wx) (hbc : Below w.heap.size w wc) (hz : w.heap.size ≤ g11) (hz2 : w.heap.size ≤ g12) (k9 : Blk wc g9 25 p) (k10 : Blk wc g10 25 q) (n1 : g9 < g11) (n2 : g9 < g12) (n3 : g10 < g11) (n4 : g10 < g12) (h3 : Blk wx g11 25 r) (h4 : Blk wx g12 25 s) : CutW w wx g9 g10 g11 g12 p q r s :=
  ⟨(H.block g9 k9.lt (by omega) (by omega)).trans k9, (H.block g10 k10.lt (by omega) (by omega)).trans k10, h3, h4, hbc.trans (Off2.below (g := g11) (h := g12) H hz hz2 hbc.size)⟩

theorem put3_ {w : World} {g t : Nat} {x0 y0 z0 x y z : Value} (h : Blk w g t #[x0, y0, z0]) : Blk (((w.setCell ⟨g, 0, none⟩ x).setCell ⟨g, 1, none⟩ y).setCell ⟨g, 2, none⟩ z) g t #[x, y, z] := ((h.set_ 0 x).set_ 1 y).set_ 2 z
end Go.Proofs.YtckgdkjgllopmaaDoor
