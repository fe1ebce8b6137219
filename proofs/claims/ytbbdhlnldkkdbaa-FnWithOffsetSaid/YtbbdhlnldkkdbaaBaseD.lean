/- What holds all through a region that writes two blocks: all other blocks are as they were. No condition. -/
import Derived.Test.YtbbdhlnldkkdbaaBaseC
namespace Go.Proofs.Ytbbdhlnldkkdbaa
open Go.RowKit
/-- New blocks, and writes to blocks g and h alone. -/
structure Off2 (g h : Nat) (W w' : World) : Prop where
  os : w'.os = W.os
  tape : w'.tape = W.tape
  output : w'.output = W.output
  size : W.heap.size ≤ w'.heap.size
  block : ∀ k, k < W.heap.size → k ≠ g → k ≠ h → w'.heap[k]? = W.heap[k]?
abbrev SY (g h : Nat) (W w' : World) : Prop := (∀ b o, b < W.heap.size → ¬ b = g → ¬ b = h → w'.cell? ⟨b, o, none⟩ = W.cell? ⟨b, o, none⟩) ∧ W.heap.size ≤ w'.heap.size ∧ Off2 g h W w'
theorem SY.of {g h : Nat} {W w' : World} (H : Off2 g h W w') : SY g h W w' :=
  ⟨fun b o hb h1 h2 => World.cell?_of_block (a := ⟨b, o, none⟩) (H.block b hb h1 h2), H.size, H⟩
theorem SY.start {g h : Nat} {W : World} : SY g h W W.drew := SY.of ⟨rfl, rfl, rfl, Nat.le_refl _, fun _ _ _ _ => rfl⟩
theorem SY.call {g h : Nat} {W w1 w2 : World} (H : SY g h W w1) (hb : Below w1.heap.size w1 w2) : SY g h W w2 :=
  SY.of ⟨hb.os.trans H.2.2.os, hb.tape.trans H.2.2.tape, hb.output.trans H.2.2.output, Nat.le_trans H.2.1 hb.size, fun k hk h1 h2 => (hb.block k (Nat.lt_of_lt_of_le hk H.2.1)).trans (H.2.2.block k hk h1 h2)⟩
theorem SY.set {g h : Nat} {W w1 : World} (H : SY g h W w1) {p : Addr} (hp : p.block = g ∨ p.block = h) (u : Value) : SY g h W (w1.setCell p u) :=
  SY.of ⟨H.2.2.os, H.2.2.tape, H.2.2.output, by simpa [World.setCell] using H.2.1, fun k hk h1 h2 => (Below.heap_setCell w1 p u k (by rcases hp with e | e <;> omega)).trans (H.2.2.block k hk h1 h2)⟩
theorem Off2.below {g h B : Nat} {W w' : World} (H : Off2 g h W w') (h1 : B ≤ g) (h2 : B ≤ h) (hW : B ≤ W.heap.size) : Below B W w' :=
  ⟨H.os, H.tape, H.output, H.size, fun k hk => H.block k (by omega) (by omega) (by omega)⟩
end Go.Proofs.Ytbbdhlnldkkdbaa
