/- What holds all through a region that writes one block: all other blocks are as they were. No condition. -/
import Derived.Test.YtbbdhlnldkkdbaaBaseB
namespace Go.Proofs.Ytbbdhlnldkkdbaa
open Go.RowKit

/-- Every block of W but block g is as it was: what holds all through a region that writes block g. -/
abbrev SX (g : Nat) (W w' : World) : Prop := (∀ b o, b < W.heap.size → ¬ b = g → w'.cell? ⟨b, o, none⟩ = W.cell? ⟨b, o, none⟩) ∧ W.heap.size ≤ w'.heap.size ∧ W.grownBy w' (some g)
theorem grown_drew {a w : World} {row : Option Nat} (h : a.grownBy w row) : a.grownBy w.drew row := ⟨h.os, h.tape, h.output, h.size, h.block⟩
theorem SX.of {g : Nat} {W w' : World} (h : W.grownBy w' (some g)) : SX g W w' :=
  ⟨fun b o hb hg => World.cell?_of_block (a := ⟨b, o, none⟩) (h.block b hb (fun e => hg (by injection e))), h.size, h⟩
theorem SX.start {g : Nat} {W : World} : SX g W W.drew := SX.of (grown_drew (World.grownBy.refl W _))
theorem SX.call {g : Nat} {W w1 w2 : World} (h : SX g W w1) (hb : Below w1.heap.size w1 w2) : SX g W w2 :=
  SX.of ⟨hb.os.trans h.2.2.os, hb.tape.trans h.2.2.tape, hb.output.trans h.2.2.output, Nat.le_trans h.2.1 hb.size, fun k hk hne => (hb.block k (Nat.lt_of_lt_of_le hk h.2.1)).trans (h.2.2.block k hk hne)⟩
theorem SX.set {g : Nat} {W w1 : World} (h : SX g W w1) {p : Addr} (hp : p.block = g) (u : Value) : SX g W (w1.setCell p u) :=
  SX.of ⟨h.2.2.os, h.2.2.tape, h.2.2.output, by simpa [World.setCell] using h.2.1, fun k hk hne => (Below.heap_setCell w1 p u k (fun e => hne (by rw [e, hp]))).trans (h.2.2.block k hk hne)⟩
theorem SX.alloc {g : Nat} {W w1 : World} (h : SX g W w1) (o : Obj) : SX g W (w1.alloc o) :=
  SX.of ⟨h.2.2.os, h.2.2.tape, h.2.2.output, by have := h.2.1; simp; omega, fun k hk hne => (Below.heap_alloc w1 o k (Nat.lt_of_lt_of_le hk h.2.1)).trans (h.2.2.block k hk hne)⟩
theorem SX.below {g B : Nat} {W w' : World} (h : W.grownBy w' (some g)) (hB : B ≤ g) (hW : B ≤ W.heap.size) : Below B W w' :=
  ⟨h.os, h.tape, h.output, h.size, fun k hk => h.block k (by omega) (fun e => by injection e; omega)⟩
end Go.Proofs.Ytbbdhlnldkkdbaa
