/- More small lemmas on worlds: a cell's mark, a world under a name of its own, what holds all through a region. No condition. -/
import Derived.Test.YtbbdhlnldkkdbaaBase
import Derived.Deep.RegionHeld3
import Derived.Deep.DrawnRows
namespace Go.Proofs.Ytbbdhlnldkkdbaa
open Go.RowKit
/-- A cell that is there keeps its mark behind a call that keeps old memory. -/
theorem kfrozen {W w1 : World} (hb : Below W.heap.size W w1) {a : Addr} {v : Value} (h : W.cell? a = some v) (hf : W.frozen? a = false) : w1.frozen? a = false := (hb.frozen (lt_of_cell h)).trans hf

/-- The world at hand gets a name of its own. -/
theorem wp_gen {P : Program} {c : Code} {Q : Exit → Act → World → Prop} {a : Act} {W : World} (h : ∀ W', W' = W → c.wp P Q a W') : c.wp P Q a W := h W rfl

/-! The i-th of n new blocks. -/
theorem blk1_1 {w W : World} {t : TypeId} {cs : Array Value} (h : W = (w.alloc (.cells cs t))) : Blk W (w.heap.size) t cs := by rw [h]; exact (Blk.newAt (by simp))
theorem blk2_1 {w W : World} {t : TypeId} {cs : Array Value} {o2 : Obj} (h : W = ((w.alloc (.cells cs t)).alloc o2)) : Blk W (w.heap.size) t cs := by rw [h]; exact ((Blk.newAt (by simp)).alloc _)
theorem blk2_2 {w W : World} {t : TypeId} {cs : Array Value} {o1 : Obj} (h : W = ((w.alloc o1).alloc (.cells cs t))) : Blk W (w.heap.size + 1) t cs := by rw [h]; exact (Blk.newAt (by simp))
theorem blk3_1 {w W : World} {t : TypeId} {cs : Array Value} {o2 o3 : Obj} (h : W = (((w.alloc (.cells cs t)).alloc o2).alloc o3)) : Blk W (w.heap.size) t cs := by rw [h]; exact (((Blk.newAt (by simp)).alloc _).alloc _)
theorem blk3_2 {w W : World} {t : TypeId} {cs : Array Value} {o1 o3 : Obj} (h : W = (((w.alloc o1).alloc (.cells cs t)).alloc o3)) : Blk W (w.heap.size + 1) t cs := by rw [h]; exact ((Blk.newAt (by simp)).alloc _)
theorem blk3_3 {w W : World} {t : TypeId} {cs : Array Value} {o1 o2 : Obj} (h : W = (((w.alloc o1).alloc o2).alloc (.cells cs t))) : Blk W (w.heap.size + 1 + 1) t cs := by rw [h]; exact (Blk.newAt (by simp))
theorem blk4_1 {w W : World} {t : TypeId} {cs : Array Value} {o2 o3 o4 : Obj} (h : W = ((((w.alloc (.cells cs t)).alloc o2).alloc o3).alloc o4)) : Blk W (w.heap.size) t cs := by rw [h]; exact ((((Blk.newAt (by simp)).alloc _).alloc _).alloc _)
theorem blk4_2 {w W : World} {t : TypeId} {cs : Array Value} {o1 o3 o4 : Obj} (h : W = ((((w.alloc o1).alloc (.cells cs t)).alloc o3).alloc o4)) : Blk W (w.heap.size + 1) t cs := by rw [h]; exact (((Blk.newAt (by simp)).alloc _).alloc _)
theorem blk4_3 {w W : World} {t : TypeId} {cs : Array Value} {o1 o2 o4 : Obj} (h : W = ((((w.alloc o1).alloc o2).alloc (.cells cs t)).alloc o4)) : Blk W (w.heap.size + 1 + 1) t cs := by rw [h]; exact ((Blk.newAt (by simp)).alloc _)
theorem blk4_4 {w W : World} {t : TypeId} {cs : Array Value} {o1 o2 o3 : Obj} (h : W = ((((w.alloc o1).alloc o2).alloc o3).alloc (.cells cs t))) : Blk W (w.heap.size + 1 + 1 + 1) t cs := by rw [h]; exact (Blk.newAt (by simp))
theorem blk5_1 {w W : World} {t : TypeId} {cs : Array Value} {o2 o3 o4 o5 : Obj} (h : W = (((((w.alloc (.cells cs t)).alloc o2).alloc o3).alloc o4).alloc o5)) : Blk W (w.heap.size) t cs := by rw [h]; exact (((((Blk.newAt (by simp)).alloc _).alloc _).alloc _).alloc _)
theorem blk5_2 {w W : World} {t : TypeId} {cs : Array Value} {o1 o3 o4 o5 : Obj} (h : W = (((((w.alloc o1).alloc (.cells cs t)).alloc o3).alloc o4).alloc o5)) : Blk W (w.heap.size + 1) t cs := by rw [h]; exact ((((Blk.newAt (by simp)).alloc _).alloc _).alloc _)
theorem blk5_3 {w W : World} {t : TypeId} {cs : Array Value} {o1 o2 o4 o5 : Obj} (h : W = (((((w.alloc o1).alloc o2).alloc (.cells cs t)).alloc o4).alloc o5)) : Blk W (w.heap.size + 1 + 1) t cs := by rw [h]; exact (((Blk.newAt (by simp)).alloc _).alloc _)
theorem blk5_4 {w W : World} {t : TypeId} {cs : Array Value} {o1 o2 o3 o5 : Obj} (h : W = (((((w.alloc o1).alloc o2).alloc o3).alloc (.cells cs t)).alloc o5)) : Blk W (w.heap.size + 1 + 1 + 1) t cs := by rw [h]; exact ((Blk.newAt (by simp)).alloc _)
theorem blk5_5 {w W : World} {t : TypeId} {cs : Array Value} {o1 o2 o3 o4 : Obj} (h : W = (((((w.alloc o1).alloc o2).alloc o3).alloc o4).alloc (.cells cs t))) : Blk W (w.heap.size + 1 + 1 + 1 + 1) t cs := by rw [h]; exact (Blk.newAt (by simp))
/-- Below block g all is as it was at W: what holds all through a region that writes from block g on. -/
abbrev SB (g : Nat) (W w' : World) : Prop := (∀ b o, b < g → w'.cell? ⟨b, o, none⟩ = W.cell? ⟨b, o, none⟩) ∧ g ≤ w'.heap.size ∧ Below g W w'
theorem SB.start {g : Nat} {W : World} (hg : g ≤ W.heap.size) : SB g W W.drew := ⟨fun _ _ _ => rfl, hg, (Below.refl _ _).drew⟩
theorem SB.start' {g : Nat} {W : World} (hg : g ≤ W.heap.size) : SB g W W := ⟨fun _ _ _ => rfl, hg, Below.refl _ _⟩
theorem SB.of {g : Nat} {W w' : World} (hg : g ≤ w'.heap.size) (h : Below g W w') : SB g W w' := ⟨fun b o hb => h.cell (p := ⟨b, o, none⟩) hb, hg, h⟩
theorem SB.call {g : Nat} {W w1 w2 : World} (h : SB g W w1) (hb : Below w1.heap.size w1 w2) : SB g W w2 := SB.of (Nat.le_trans h.2.1 hb.size) (h.2.2.trans (hb.mono h.2.1))
theorem SB.set {g : Nat} {W w1 : World} (h : SB g W w1) {p : Addr} (hp : g ≤ p.block) (u : Value) : SB g W (w1.setCell p u) := SB.of (by simpa [World.setCell] using h.2.1) (h.2.2.setCell hp u)
theorem SB.alloc {g : Nat} {W w1 : World} (h : SB g W w1) (o : Obj) : SB g W (w1.alloc o) := SB.of (by have := h.2.1; simp; omega) (h.2.2.alloc h.2.1 o)
end Go.Proofs.Ytbbdhlnldkkdbaa
