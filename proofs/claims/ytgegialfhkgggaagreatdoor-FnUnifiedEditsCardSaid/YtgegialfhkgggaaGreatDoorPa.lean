/- Small lemmas on worlds; walks of points and spans, and of spec.IsNear. No condition but sizes. -/
import Derived.WalkKit
import Derived.WalkSpells
import Derived.WalkLawsBesides
import Derived.Handy
import Derived.Deep.RegionHeld3
import Derived.Deep.DrawnRows
import Derived.Test.YtgegialfhkgggaaGreatDoorProg
import Derived.BigGuardPart
set_option linter.unusedVariables false
set_option linter.unusedSimpArgs false
namespace Go.Proofs.YtgegialfhkgggaaGreatDoor
open Go.RowKit

/-- Below is kept by the frame of a call: old cells and marks read as before. -/
theorem bcell {W w1 : World} (hb : Below W.heap.size W w1) : (∀ b o, b < W.heap.size → w1.cell? ⟨b, o, none⟩ = W.cell? ⟨b, o, none⟩) ∧ (∀ b o, b < W.heap.size → w1.frozen? ⟨b, o, none⟩ = W.frozen? ⟨b, o, none⟩) :=
  ⟨fun b o h => hb.cell (p := ⟨b, o, none⟩) h, fun b o h => hb.frozen (p := ⟨b, o, none⟩) h⟩

theorem lt_of_cell {w : World} {a : Addr} {v : Value} (h : w.cell? a = some v) : a.block < w.heap.size := World.block_lt_of_cell? w a h

/-- A cell that is there is there behind a call that keeps old memory. -/
theorem kcell {W w1 : World} (hb : Below W.heap.size W w1) {a : Addr} {v : Value} (h : W.cell? a = some v) : w1.cell? a = some v := (hb.cell (lt_of_cell h)).trans h

/-- Behind a call that keeps old memory what was below stays below. -/
theorem kbelow {B : Nat} {w W w1 : World} (h : Below B w W) (hB : B ≤ W.heap.size) (hb : Below W.heap.size W w1) : Below B w w1 := h.trans (hb.mono hB)

/-- A block that is known whole. -/
def Blk (w : World) (g : Nat) (t : TypeId) (cs : Array Value) : Prop := w.heap[g]? = some (.cells cs t (0, 0))

section
variable {w w' : World} {g : Nat} {t : TypeId} {cs : Array Value}
theorem Blk.lt (h : Blk w g t cs) : g < w.heap.size := by
  rcases Nat.lt_or_ge g w.heap.size with hlt | hge
  · exact hlt
  · unfold Blk at h; rw [Array.getElem?_eq_none hge] at h; cases h
theorem Blk.cell (h : Blk w g t cs) (i : Nat) : w.cell? ⟨g, i, none⟩ = cs[i]? := cell_of_row w g i cs t (0, 0) h
theorem Blk.frozen (h : Blk w g t cs) (i : Nat) : w.frozen? ⟨g, i, none⟩ = false := by
  unfold Blk at h
  simp [World.frozen?, h]
theorem Blk.new (w : World) (t : TypeId) (cs : Array Value) : Blk (w.alloc (.cells cs t)) w.heap.size t cs := heap_alloc_new w _
theorem Blk.newAt {w : World} {g : Nat} {t : TypeId} {cs : Array Value} (h : w.heap.size = g) : Blk (w.alloc (.cells cs t)) g t cs := h ▸ Blk.new w t cs
theorem Blk.drew (h : Blk w g t cs) : Blk w.drew g t cs := h
theorem Blk.alloc (h : Blk w g t cs) (o : Obj) : Blk (w.alloc o) g t cs := (Below.heap_alloc w o g h.lt).trans h
theorem Blk.set_ (h : Blk w g t cs) (i : Nat) (u : Value) : Blk (w.setCell ⟨g, i, none⟩ u) g t (cs.setIfInBounds i u) := by
  unfold Blk at h ⊢
  simp [World.setCell, Array.getElem?_modify, h]
theorem Blk.far (h : Blk w g t cs) {p : Addr} (hp : g ≠ p.block) (u : Value) : Blk (w.setCell p u) g t cs := (Below.heap_setCell w p u g hp).trans h
theorem Blk.below {B : Nat} (h : Blk w g t cs) (hb : Below B w w') (hg : g < B) : Blk w' g t cs := (hb.block g hg).trans h
theorem Blk.kept (h : Blk w g t cs) (hb : Below w.heap.size w w') : Blk w' g t cs := h.below hb h.lt
theorem Blk.grown {row : Option Nat} (h : Blk w g t cs) (hb : w.grownBy w' row) (hg : some g ≠ row) : Blk w' g t cs := (hb.block g h.lt hg).trans h
theorem Blk.ne_ {g' : Nat} {t' : TypeId} {cs' : Array Value} (h : Blk w g t cs) (h' : Blk w g' t' cs') (hne : t ≠ t') : g ≠ g' := by
  rintro rfl
  unfold Blk at h h'
  rw [h] at h'
  injection h' with h'
  injection h' with _ ht
  exact hne ht
/-- Three cells of a block, with their marks. -/
theorem Blk.three {x y z : Value} (h : Blk w g t #[x, y, z]) : (w.cell? ⟨g, 0, none⟩ = some x ∧ w.cell? ⟨g, 1, none⟩ = some y ∧ w.cell? ⟨g, 2, none⟩ = some z) ∧ (w.frozen? ⟨g, 0, none⟩ = false ∧ w.frozen? ⟨g, 1, none⟩ = false ∧ w.frozen? ⟨g, 2, none⟩ = false) :=
  ⟨⟨h.cell 0, h.cell 1, h.cell 2⟩, h.frozen 0, h.frozen 1, h.frozen 2⟩
/-- Seven cells of a block, with their marks. -/
theorem Blk.seven {a b c d e f k : Value} (h : Blk w g t #[a, b, c, d, e, f, k]) :
    (w.cell? ⟨g, 0, none⟩ = some a ∧ w.cell? ⟨g, 1, none⟩ = some b ∧ w.cell? ⟨g, 2, none⟩ = some c ∧ w.cell? ⟨g, 3, none⟩ = some d ∧ w.cell? ⟨g, 4, none⟩ = some e ∧ w.cell? ⟨g, 5, none⟩ = some f ∧ w.cell? ⟨g, 6, none⟩ = some k) ∧
    (w.frozen? ⟨g, 0, none⟩ = false ∧ w.frozen? ⟨g, 1, none⟩ = false ∧ w.frozen? ⟨g, 2, none⟩ = false ∧ w.frozen? ⟨g, 3, none⟩ = false ∧ w.frozen? ⟨g, 4, none⟩ = false ∧ w.frozen? ⟨g, 5, none⟩ = false ∧ w.frozen? ⟨g, 6, none⟩ = false) :=
  ⟨⟨h.cell 0, h.cell 1, h.cell 2, h.cell 3, h.cell 4, h.cell 5, h.cell 6⟩, h.frozen 0, h.frozen 1, h.frozen 2, h.frozen 3, h.frozen 4, h.frozen 5, h.frozen 6⟩
end
end Go.Proofs.YtgegialfhkgggaaGreatDoor
namespace Go.Proofs.YtgegialfhkgggaaGreatDoor
open Go.RowKit
/-- A cell that is there keeps its mark behind a call that keeps old memory. -/
theorem kfrozen {W w1 : World} (hb : Below W.heap.size W w1) {a : Addr} {v : Value} (h : W.cell? a = some v) (hf : W.frozen? a = false) : w1.frozen? a = false := (hb.frozen (lt_of_cell h)).trans hf

/-- The world at hand gets a name of its own. -/
theorem wp_gen {P : Program} {c : Code} {Q : Exit → Act → World → Prop} {a : Act} {W : World} (h : ∀ W', W' = W → c.wp P Q a W') : c.wp P Q a W := h W rfl

/-! The i-th of n new blocks. -/
theorem blk1_1 {w W : World} {t : TypeId} {cs : Array Value} (h : W = (w.alloc (.cells cs t))) : Blk W (w.heap.size) t cs := by rw [h]; exact (Blk.newAt (by simp))
theorem blk2_1 {w W : World} {t : TypeId} {cs : Array Value} {o2 : Obj} (h : W = ((w.alloc (.cells cs t)).alloc o2)) : Blk W (w.heap.size) t cs := by rw [h]; exact ((Blk.newAt (by simp)).alloc _)
theorem blk2_2 {w W : World} {t : TypeId} {cs : Array Value} {o1 : Obj} (h : W = ((w.alloc o1).alloc (.cells cs t))) : Blk W (w.heap.size + 1) t cs := by rw [h]; exact (Blk.newAt (by simp))
theorem blk3_1 {w W : World} {t : TypeId} {cs : Array Value} {o2 o3 : Obj} (h : W = (((w.alloc (.cells cs t)).alloc o2).alloc o3)) : Blk W (w.heap.size) t cs := by rw [h]; exact (((Blk.newAt (by simp)).alloc _).alloc _)
theorem blk3_2 {w W : World} {t : TypeId} {cs : Array Value} {o1 o3 : Obj} (h : W = (((w.alloc o1).alloc (.cells cs t)).alloc o3)) : Blk W (w.heap.size + 1) t cs := by rw [h]; exact ((Blk.newAt (by simp)).alloc _)
theorem blk3_3 {w W : World} {t : TypeId} {cs : Array Value} {o1 o2 : Obj} (h : W = (((w.alloc o1).alloc o2).alloc (.cells cs t))) : Blk W (w.heap.size + 1 + 1) t cs := by rw [h]; exact (Blk.newAt (by simp))
theorem blk4_1 {w W : World} {t : TypeId} {cs : Array Value} {o2 o3 o4 : Obj} (h : W = ((((w.alloc (.cells cs t)).alloc o2).alloc o3).alloc o4)) : Blk W (w.heap.size) t cs := by rw [h]; exact ((((Blk.newAt (by simp)).alloc _).alloc _).alloc _)
theorem blk4_2 {w W : World} {t : TypeId} {cs : Array Value} {o1 o3 o4 : Obj} (h : W = ((((w.alloc o1).alloc (.cells cs t)).alloc o3).alloc o4)) : Blk W (w.heap.size + 1) t cs := by rw [h]; exact (((Blk.newAt (by simp)).alloc _).alloc _)
theorem blk4_3 {w W : World} {t : TypeId} {cs : Array Value} {o1 o2 o4 : Obj} (h : W = ((((w.alloc o1).alloc o2).alloc (.cells cs t)).alloc o4)) : Blk W (w.heap.size + 1 + 1) t cs := by rw [h]; exact ((Blk.newAt (by simp)).alloc _)
theorem blk4_4 {w W : World} {t : TypeId} {cs : Array Value} {o1 o2 o3 : Obj} (h : W = ((((w.alloc o1).alloc o2).alloc o3).alloc (.cells cs t))) : Blk W (w.heap.size + 1 + 1 + 1) t cs := by rw [h]; exact (Blk.newAt (by simp))
theorem blk5_1 {w W : World} {t : TypeId} {cs : Array Value} {o2 o3 o4 o5 : Obj} (h : W = (((((w.alloc (.cells cs t)).alloc o2).alloc o3).alloc o4).alloc o5)) : Blk W (w.heap.size) t cs := by rw [h]; exact (((((Blk.newAt (by simp)).alloc _).alloc _).alloc _).alloc _)
theorem blk5_2 {w W : World} {t : TypeId} {cs : Array Value} {o1 o3 o4 o5 : Obj} (h : W = (((((w.alloc o1).alloc (.cells cs t)).alloc o3).alloc o4).alloc o5)) : Blk W (w.heap.size + 1) t cs := by rw [h]; exact ((((Blk.newAt (by simp)).alloc _).alloc _).alloc _)
theorem blk5_3 {w W : World} {t : TypeId} {cs : Array Value} {o1 o2 o4 o5 : Obj} (h : W = (((((w.alloc o1).alloc o2).alloc (.cells cs t)).alloc o4).alloc o5)) : Blk W (w.heap.size + 1 + 1) t cs := by rw [h]; exact (((Blk.newAt (by simp)).alloc _).alloc _)
theorem blk5_4 {w W : World} {t : TypeId} {cs : Array Value} {o1 o2 o3 o5 : Obj} (h : W = (((((w.alloc o1).alloc o2).alloc o3).alloc (.cells cs t)).alloc o5)) : Blk W (w.heap.size + 1 + 1 + 1) t cs := by rw [h]; exact ((Blk.newAt (by simp)).alloc _)
theorem blk5_5 {w W : World} {t : TypeId} {cs : Array Value} {o1 o2 o3 o4 : Obj} (h : W = (((((w.alloc o1).alloc o2).alloc o3).alloc o4).alloc (.cells cs t))) : Blk W (w.heap.size + 1 + 1 + 1 + 1) t cs := by rw [h]; exact (Blk.newAt (by simp))
/-- Below block g all is as it was at W: what holds all through a region that writes from block g on. -/
abbrev SB (g : Nat) (W w' : World) : Prop := (∀ b o, b < g → w'.cell? ⟨b, o, none⟩ = W.cell? ⟨b, o, none⟩) ∧ g ≤ w'.heap.size ∧ Below g W w'
theorem SB.start {g : Nat} {W : World} (hg : g ≤ W.heap.size) : SB g W W.drew := ⟨fun _ _ _ => rfl, hg, (Below.refl _ _).drew⟩
theorem SB.start' {g : Nat} {W : World} (hg : g ≤ W.heap.size) : SB g W W := ⟨fun _ _ _ => rfl, hg, Below.refl _ _⟩
theorem SB.of {g : Nat} {W w' : World} (hg : g ≤ w'.heap.size) (h : Below g W w') : SB g W w' := ⟨fun b o hb => h.cell (p := ⟨b, o, none⟩) hb, hg, h⟩
theorem SB.call {g : Nat} {W w1 w2 : World} (h : SB g W w1) (hb : Below w1.heap.size w1 w2) : SB g W w2 := SB.of (Nat.le_trans h.2.1 hb.size) (h.2.2.trans (hb.mono h.2.1))
theorem SB.set {g : Nat} {W w1 : World} (h : SB g W w1) {p : Addr} (hp : g ≤ p.block) (u : Value) : SB g W (w1.setCell p u) := SB.of (by simpa [World.setCell] using h.2.1) (h.2.2.setCell hp u)
theorem SB.alloc {g : Nat} {W w1 : World} (h : SB g W w1) (o : Obj) : SB g W (w1.alloc o) := SB.of (by have := h.2.1; simp; omega) (h.2.2.alloc h.2.1 o)
end Go.Proofs.YtgegialfhkgggaaGreatDoor
namespace Go.Proofs.YtgegialfhkgggaaGreatDoor
open Go.RowKit

/-- Every block of W but block g is as it was: what holds all through a region that writes block g. -/
abbrev SX (g : Nat) (W w' : World) : Prop := (∀ b o, b < W.heap.size → ¬ b = g → w'.cell? ⟨b, o, none⟩ = W.cell? ⟨b, o, none⟩) ∧ W.heap.size ≤ w'.heap.size ∧ W.grownBy w' (some g)
theorem grown_drew {a w : World} {row : Option Nat} (h : a.grownBy w row) : a.grownBy w.drew row := ⟨h.os, h.tape, h.output, h.size, h.block⟩
theorem SX.of {g : Nat} {W w' : World} (h : W.grownBy w' (some g)) : SX g W w' :=
  ⟨fun b o hb hg => World.cell?_of_block (a := ⟨b, o, none⟩) (h.block b hb (fun e => hg (by injection e))), h.size, h⟩
theorem SX.start {g : Nat} {W : World} : SX g W W.drew := SX.of (grown_drew (World.grownBy.refl W _))
theorem SX.call {g : Nat} {W w1 w2 : World} (h : SX g W w1) (hb : Below w1.heap.size w1 w2) : SX g W w2 :=
  SX.of ⟨hb.os.trans h.2.2.os, hb.tape.trans h.2.2.tape, hb.output.trans h.2.2.output, Nat.le_trans h.2.1 hb.size, fun k hk hne => (hb.block k (Nat.lt_of_lt_of_le hk h.2.1)).trans (h.2.2.block k hk hne)⟩
theorem SX.set {g : Nat} {W w1 : World} (h : SX g W w1) {p : Addr} (hp : p.block = g) (u : Value) : SX g W (w1.setCell p u) :=
  SX.of ⟨h.2.2.os, h.2.2.tape, h.2.2.output, by simpa [World.setCell] using h.2.1, fun k hk hne => (Below.heap_setCell w1 p u k (fun e => hne (by rw [e, hp]))).trans (h.2.2.block k hk hne)⟩
theorem SX.alloc {g : Nat} {W w1 : World} (h : SX g W w1) (o : Obj) : SX g W (w1.alloc o) :=
  SX.of ⟨h.2.2.os, h.2.2.tape, h.2.2.output, by have := h.2.1; simp; omega, fun k hk hne => (Below.heap_alloc w1 o k (Nat.lt_of_lt_of_le hk h.2.1)).trans (h.2.2.block k hk hne)⟩
theorem SX.below {g B : Nat} {W w' : World} (h : W.grownBy w' (some g)) (hB : B ≤ g) (hW : B ≤ W.heap.size) : Below B W w' :=
  ⟨h.os, h.tape, h.output, h.size, fun k hk => h.block k (by omega) (fun e => by injection e; omega)⟩
end Go.Proofs.YtgegialfhkgggaaGreatDoor
namespace Go.Proofs.YtgegialfhkgggaaGreatDoor
open Go.RowKit
/-- New blocks, and writes to blocks g and h alone. -/
structure Off2 (g h : Nat) (W w' : World) : Prop where
  os : w'.os = W.os
  tape : w'.tape = W.tape
  output : w'.output = W.output
  size : W.heap.size ≤ w'.heap.size
  block : ∀ k, k < W.heap.size → k ≠ g → k ≠ h → w'.heap[k]? = W.heap[k]?
abbrev SY (g h : Nat) (W w' : World) : Prop := (∀ b o, b < W.heap.size → ¬ b = g → ¬ b = h → w'.cell? ⟨b, o, none⟩ = W.cell? ⟨b, o, none⟩) ∧ W.heap.size ≤ w'.heap.size ∧ Off2 g h W w'
theorem SY.of {g h : Nat} {W w' : World} (H : Off2 g h W w') : SY g h W w' :=
  ⟨fun b o hb h1 h2 => World.cell?_of_block (a := ⟨b, o, none⟩) (H.block b hb h1 h2), H.size, H⟩
theorem SY.start {g h : Nat} {W : World} : SY g h W W.drew := SY.of ⟨rfl, rfl, rfl, Nat.le_refl _, fun _ _ _ _ => rfl⟩
theorem SY.call {g h : Nat} {W w1 w2 : World} (H : SY g h W w1) (hb : Below w1.heap.size w1 w2) : SY g h W w2 :=
  SY.of ⟨hb.os.trans H.2.2.os, hb.tape.trans H.2.2.tape, hb.output.trans H.2.2.output, Nat.le_trans H.2.1 hb.size, fun k hk h1 h2 => (hb.block k (Nat.lt_of_lt_of_le hk H.2.1)).trans (H.2.2.block k hk h1 h2)⟩
theorem SY.set {g h : Nat} {W w1 : World} (H : SY g h W w1) {p : Addr} (hp : p.block = g ∨ p.block = h) (u : Value) : SY g h W (w1.setCell p u) :=
  SY.of ⟨H.2.2.os, H.2.2.tape, H.2.2.output, by simpa [World.setCell] using H.2.1, fun k hk h1 h2 => (Below.heap_setCell w1 p u k (by rcases hp with e | e <;> omega)).trans (H.2.2.block k hk h1 h2)⟩
theorem Off2.below {g h B : Nat} {W w' : World} (H : Off2 g h W w') (h1 : B ≤ g) (h2 : B ≤ h) (hW : B ≤ W.heap.size) : Below B W w' :=
  ⟨H.os, H.tape, H.output, H.size, fun k hk => H.block k (by omega) (by omega) (by omega)⟩
end Go.Proofs.YtgegialfhkgggaaGreatDoor
namespace Go.Proofs.YtgegialfhkgggaaGreatDoor
open Go.RowKit

def cl (l : Int) : Int := if l < 0 then 0 else l
def cc (l c : Int) : Int := if c ≤ 0 then (if 0 < cl l then 1 else 0) else c
def co (l c o : Int) : Int := if o = 0 ∧ (1 < cl l ∨ 1 < cc l c) then -1 else o

theorem pt_eq {a b c a' b' c' : Int} (h1 : a = a') (h2 : b = b') (h3 : c = c') : Ending.returned (.agg #[.int .i64 a, .int .i64 b, .int .i64 c]) = Ending.returned (.agg #[.int .i64 a', .int .i64 b', .int .i64 c']) := by rw [h1, h2, h3]

set_option maxHeartbeats 4000000 in
theorem newPoint_any (l c o : Int) (w : World) :
    Calls Tryz.prog 43 #[.int .i64 l, .int .i64 c, .int .i64 o] w fun e w' => e = .returned (.agg #[.int .i64 (cl l), .int .i64 (cc l c), .int .i64 (co l c o)]) ∧ Below w.heap.size w w' := by
  have ho : (o == 0) = true ∨ (o == 0) = false := by cases (o == 0) <;> simp
  rcases ho with ho | ho <;> by_cases h1 : l < 0 <;> by_cases h2 : c ≤ 0 <;> by_cases h3 : 0 < l <;> by_cases h4 : 1 < l <;> by_cases h5 : 1 < c
  all_goals first
    | (exfalso; omega)
    | (go_enter Tryz.func43, Tryz.ntmps43
       go_wp2
       go_returns
       refine ⟨pt_eq ?_ ?_ ?_, by go_grown⟩ <;> simp only [cl, cc, co] <;> simp at ho <;> (repeat' split) <;> omega)
end Go.Proofs.YtgegialfhkgggaaGreatDoor
namespace Go.Proofs.YtgegialfhkgggaaGreatDoor
open Go.RowKit

/-- The end of a span is put at its start: it is no point, or all zero. -/
def atSt (l c o : Int) : Bool := (!(decide (0 < l) || decide (0 ≤ o))) || (l == 0 && (c == 0 && o == 0))

theorem sp_eq {u : ByteArray} {a b c d e f a' b' c' d' e' f' : Int} (h1 : a = a') (h2 : b = b') (h3 : c = c') (h4 : d = d') (h5 : e = e') (h6 : f = f') :
    Ending.returned (.agg #[.string u, .int .i64 a, .int .i64 b, .int .i64 c, .int .i64 d, .int .i64 e, .int .i64 f]) = Ending.returned (.agg #[.string u, .int .i64 a', .int .i64 b', .int .i64 c', .int .i64 d', .int .i64 e', .int .i64 f']) := by
  rw [h1, h2, h3, h4, h5, h6]

/-- What the end of a span becomes. -/
def eN (l c o x y : Int) : Int := if atSt l c o then x else y
theorem eN_start {l c o x y : Int} (h : atSt l c o = true) : eN l c o x y = x := by unfold eN; rw [if_pos h]
theorem eN_keep {l c o x y : Int} (h : atSt l c o = false) : eN l c o x y = y := by unfold eN; rw [if_neg (by simp [h])]

set_option maxHeartbeats 2000000 in
theorem new_any (u : ByteArray) (l c o l2 c2 o2 : Int) (w : World) :
    Calls Tryz.prog 42 #[.string u, .agg #[.int .i64 l, .int .i64 c, .int .i64 o], .agg #[.int .i64 l2, .int .i64 c2, .int .i64 o2]] w fun e w' =>
      e = .returned (.agg #[.string u, .int .i64 l, .int .i64 c, .int .i64 o, .int .i64 (eN l2 c2 o2 l l2), .int .i64 (eN l2 c2 o2 c c2), .int .i64 (eN l2 c2 o2 o o2)]) ∧ Below w.heap.size w w' := by
  go_enter Tryz.func42, Tryz.ntmps42
  go_wp2
  all_goals
    go_returns
    refine ⟨sp_eq ?_ ?_ ?_ ?_ ?_ ?_, by go_grown⟩ <;> simp only [eN, atSt] <;> simp_all <;> omega
end Go.Proofs.YtgegialfhkgggaaGreatDoor
namespace Go.Proofs.YtgegialfhkgggaaGreatDoor
open Go.RowKit
attribute [local go_sem ↓] Go.wp_at_zero Go.wp_at_succ

set_option maxHeartbeats 1000000 in
theorem pointTo_any (l c o : Int) (w : World) :
    Calls Tryz.prog 48 #[.agg #[.int .i64 l, .int .i64 c, .int .i64 o]] w fun e w' => e = .returned (.agg #[.int .i64 (cl l), .int .i64 (cc l c), .int .i64 (co l c o)]) ∧ Below w.heap.size w w' := by
  go_enter Tryz.func48, Tryz.ntmps48
  go_wp2_with fail
  refine (newPoint_any _ _ _ _).mono ?_
  rintro e w1 ⟨rfl, hb⟩
  have hbb : Below w.heap.size w w1 := Below.trans (by go_grown) (hb.mono (by simp; omega))
  have hz := hb.size
  simp at hz
  have hk := (Blk.kept (Blk.new _ _ _) hb).three
  simp at hk
  clear hb
  go_wp2
  exact bodyPost_ret (v := .agg #[.int .i64 (cl l), .int .i64 (cc l c), .int .i64 (co l c o)]) (by simp [results, Tryz.results48, go_sem, hk]) rfl ⟨rfl, by go_grown⟩

/-- What a point tells. -/
def oL (l : Int) : Int := if 0 < l then l else 0
def oC (l c : Int) : Int := if 0 < l then c else 0
def oO (o : Int) : Int := if 0 ≤ o then o else -1

set_option maxHeartbeats 1000000 in
theorem pointOf_any (l c o : Int) (w : World) :
    Calls Tryz.prog 37 #[.agg #[.int .i64 l, .int .i64 c, .int .i64 o]] w fun e w' => e = .returned (.agg #[.int .i64 (oL l), .int .i64 (oC l c), .int .i64 (oO o)]) ∧ Below w.heap.size w w' := by
  by_cases h1 : 0 < l <;> by_cases h2 : 0 ≤ o
  all_goals
    go_enter Tryz.func37, Tryz.ntmps37
    go_wp2
    go_returns
    refine ⟨pt_eq ?_ ?_ ?_, by go_grown⟩ <;> simp only [oL, oC, oO] <;> split <;> omega

end Go.Proofs.YtgegialfhkgggaaGreatDoor
namespace Go.Proofs.YtgegialfhkgggaaGreatDoor
open Go.RowKit
attribute [local go_sem ↓] Go.wp_at_zero Go.wp_at_succ

section
variable (u : ByteArray) (l c o l2 c2 o2 : Int) (w : World)
theorem uri_any : Calls Tryz.prog 80 #[.agg #[.string u, .int .i64 l, .int .i64 c, .int .i64 o, .int .i64 l2, .int .i64 c2, .int .i64 o2]] w fun e w' => e = .returned (.string u) ∧ Below w.heap.size w w' := by
  go_enter Tryz.func80, Tryz.ntmps80
  go_wp2
  go_returns
  exact ⟨rfl, by go_grown⟩
theorem start_any : Calls Tryz.prog 38 #[.agg #[.string u, .int .i64 l, .int .i64 c, .int .i64 o, .int .i64 l2, .int .i64 c2, .int .i64 o2]] w fun e w' => e = .returned (.agg #[.int .i64 l, .int .i64 c, .int .i64 o]) ∧ Below w.heap.size w w' := by
  go_enter Tryz.func38, Tryz.ntmps38
  go_wp2
  go_returns
  exact ⟨rfl, by go_grown⟩
theorem end_any : Calls Tryz.prog 39 #[.agg #[.string u, .int .i64 l, .int .i64 c, .int .i64 o, .int .i64 l2, .int .i64 c2, .int .i64 o2]] w fun e w' => e = .returned (.agg #[.int .i64 l2, .int .i64 c2, .int .i64 o2]) ∧ Below w.heap.size w w' := by
  go_enter Tryz.func39, Tryz.ntmps39
  go_wp2
  go_returns
  exact ⟨rfl, by go_grown⟩
/-- A point is told. -/
def told (l o : Int) : Bool := decide (0 < l) || decide (0 ≤ o)
theorem isValid_any : Calls Tryz.prog 79 #[.agg #[.string u, .int .i64 l, .int .i64 c, .int .i64 o, .int .i64 l2, .int .i64 c2, .int .i64 o2]] w fun e w' => e = .returned (.bool (told l o)) ∧ Below w.heap.size w w' := by
  by_cases h1 : 0 < l <;> by_cases h2 : 0 ≤ o
  all_goals
    go_enter Tryz.func79, Tryz.ntmps79
    go_wp2
    go_returns
    exact ⟨by simp [told, h1, h2], by go_grown⟩
end

end Go.Proofs.YtgegialfhkgggaaGreatDoor
namespace Go.Proofs.YtgegialfhkgggaaGreatDoor
open Go.RowKit
theorem hide {p : Prop} (h : p) : Hid p := h
attribute [local go_sem ↓] Go.wp_at_zero Go.wp_at_succ

/-- What a slice of numbers holds. -/
def Ints (w : World) (A : Option Addr) (zs : List Int) : Prop := ∀ i, i < zs.length → ∃ b o, A = some ⟨b, o, none⟩ ∧ w.cell? ⟨b, o + i, none⟩ = some (.int .i64 (zs.getD i 0))
theorem Ints.blk {w : World} {g : Nat} {t : TypeId} {cs : Array Value} {zs : List Int} (h : Blk w g t cs) (hz : cs.toList = zs.map (Value.int .i64)) : Ints w (some ⟨g, 0, none⟩) zs := by
  intro i hi
  refine ⟨g, 0, rfl, ?_⟩
  rw [Nat.zero_add, h.cell, ← Array.getElem?_toList, hz]
  simp [List.getD_eq_getElem?_getD, List.getElem?_eq_getElem hi]

/-- All numbers lie between the least and a million. -/
def near (least : Int) (zs : List Int) : Bool := zs.all fun x => decide (least ≤ x) && decide (x ≤ 1000000)
theorem near_bound {least : Int} {zs : List Int} (h : near least zs = true) : ∀ x ∈ zs, least ≤ x ∧ x ≤ 1000000 := by
  simpa [near] using h
theorem near_succ {least : Int} {zs : List Int} {k : Nat} (hk : k < zs.length) (h : near least (zs.take k) = true) (h1 : ¬ zs.getD k 0 < least) (h2 : ¬ 1000000 < zs.getD k 0) : near least (zs.take (k + 1)) = true := by
  rw [List.take_succ_eq_append_getElem hk]
  simp only [List.getD_eq_getElem?_getD, List.getElem?_eq_getElem hk, Option.getD_some] at h1 h2
  simp only [near, List.all_append, List.all_cons, List.all_nil, Bool.and_true, Bool.and_eq_true, decide_eq_true_eq] at h ⊢
  exact ⟨h, by omega, by omega⟩
theorem near_false {least : Int} {zs : List Int} {k : Nat} (hk : k < zs.length) (h : zs.getD k 0 < least ∨ 1000000 < zs.getD k 0) : near least zs = false := by
  rw [Bool.eq_false_iff]
  intro hn
  have := near_bound hn zs[k] (List.getElem_mem _)
  simp only [List.getD_eq_getElem?_getD, List.getElem?_eq_getElem hk, Option.getD_some] at h
  omega
theorem ret_bool {a b : Bool} (h : a = b) : Ending.returned (.bool a) = Ending.returned (.bool b) := by rw [h]
theorem ret_int {a b : Int} (h : a = b) : Ending.returned (.int .i64 a) = Ending.returned (.int .i64 b) := by rw [h]

end Go.Proofs.YtgegialfhkgggaaGreatDoor
namespace Go.Proofs.YtgegialfhkgggaaGreatDoor
open Go.RowKit
attribute [local go_sem ↓] Go.wp_at_zero Go.wp_at_succ
theorem pOffset_any (l c o : Int) (h : 0 ≤ o) (w : World) : Calls Tryz.prog 45 #[.agg #[.int .i64 l, .int .i64 c, .int .i64 o]] w fun e w' => e = .returned (.int .i64 o) ∧ Below w.heap.size w w' := by
  go_enter Tryz.func45, Tryz.ntmps45
  go_wp2
  go_ret
  exact ⟨rfl, by go_grown⟩
theorem pLine_any (l c o : Int) (h : 0 < l) (w : World) : Calls Tryz.prog 51 #[.agg #[.int .i64 l, .int .i64 c, .int .i64 o]] w fun e w' => e = .returned (.int .i64 l) ∧ Below w.heap.size w w' := by
  go_enter Tryz.func51, Tryz.ntmps51
  go_wp2
  go_ret
  exact ⟨rfl, by go_grown⟩
theorem pColumn_any (l c o : Int) (h : 0 < l) (w : World) : Calls Tryz.prog 64 #[.agg #[.int .i64 l, .int .i64 c, .int .i64 o]] w fun e w' => e = .returned (.int .i64 c) ∧ Below w.heap.size w w' := by
  go_enter Tryz.func64, Tryz.ntmps64
  go_wp2
  go_ret
  exact ⟨rfl, by go_grown⟩
end Go.Proofs.YtgegialfhkgggaaGreatDoor
