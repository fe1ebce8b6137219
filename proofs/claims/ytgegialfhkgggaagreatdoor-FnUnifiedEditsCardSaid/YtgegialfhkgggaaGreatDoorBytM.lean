/- Laws: a row of bytes that the call has made is appended to. No condition but sizes. -/
import Derived.Test.YtgegialfhkgggaaGreatDoorPi
import Derived.Deep.AppendLies
import Derived.Lib.OthersKept
import Derived.Laws.IdiomStrings
import Derived.Test.YtgegialfhkgggaaGreatDoorPl
set_option linter.unusedVariables false
set_option linter.unusedSimpArgs false
namespace Go.Proofs.YtgegialfhkgggaaGreatDoor
open Go.RowKit

/-- A row of bytes of the call's own. -/
def Byt (B : Nat) (w : World) (v : Value) (l : List UInt8) : Prop := w.ownsRow B 5 1 v l.length (Lib.byteCells l) ∧ B ≤ w.heap.size
/-- Nothing else has changed than rows of bytes at B and behind. -/
def Nb (B : Nat) (w w' : World) : Prop := Below B w w' ∧ w.heap.size ≤ w'.heap.size ∧ ∀ k t cs, t ≠ 5 → Blk w k t cs → Blk w' k t cs
theorem Nb.refl (B : Nat) (w : World) : Nb B w w := ⟨Below.refl _ _, Nat.le_refl _, fun _ _ _ _ h => h⟩
theorem Nb.trans {B : Nat} {w w1 w2 : World} (h : Nb B w w1) (h2 : Nb B w1 w2) : Nb B w w2 := ⟨h.1.trans h2.1, Nat.le_trans h.2.1 h2.2.1, fun k t cs ht hb => h2.2.2 k t cs ht (h.2.2 k t cs ht hb)⟩
theorem Nb.drew {B : Nat} {w w1 : World} (h : Nb B w w1) : Nb B w w1.drew := ⟨h.1.drew, h.2.1, h.2.2⟩
theorem Nb.alloc {B : Nat} {w w1 : World} (h : Nb B w w1) (hB : B ≤ w1.heap.size) (o : Obj) : Nb B w (w1.alloc o) := ⟨h.1.alloc hB o, by have := h.2.1; simp only [World.size_alloc]; omega, fun k t cs ht hb => (h.2.2 k t cs ht hb).alloc o⟩
theorem Byt.drew {B : Nat} {w : World} {v : Value} {l : List UInt8} (h : Byt B w v l) : Byt B w.drew v l := h
theorem Byt.alloc {B : Nat} {w : World} {v : Value} {l : List UInt8} (h : Byt B w v l) (o : Obj) : Byt B (w.alloc o) v l := ⟨h.1.alloc o, by have := h.2; simp only [World.size_alloc]; omega⟩
theorem Byt.nil {B : Nat} {w : World} (h : B ≤ w.heap.size) : Byt B w (.slice none 0 0) [] := ⟨⟨rfl, Or.inl ⟨rfl, rfl⟩⟩, h⟩
theorem byteCells_app (a b : List UInt8) : Lib.byteCells (a ++ b) = Lib.byteCells a ++ Lib.byteCells b := by simp [Lib.byteCells]
/-- Rows of one byte that others have made are kept. -/
def Kp (l : List UInt8) (v : Value) (w w' : World) : Prop := (v = .slice none 0 0 ∨ 2 ≤ l.length) → ∀ g x, Blk w g 5 #[x] → Blk w' g 5 #[x]
theorem kp_grown {B : Nat} {w w' : World} {v : Value} {l : List UInt8} (hv : Byt B w v l) (hg : w.grownBy w' v.ownBlock) : Kp l v w w' := by
  intro hl g x hc
  refine hc.grown hg (fun e => ?_)
  rcases hl with rfl | hl
  · simp [Value.ownBlock] at e
  · rcases hv.1.2 with ⟨rfl, _⟩ | ⟨g', cap, cur, rfl, _, h2, h3, _, h4, _⟩
    · simp [Value.ownBlock] at e
    · simp [Value.ownBlock] at e
      subst e
      unfold Blk at hc
      rw [h2] at hc
      injection hc with hc
      injection hc with hc _
      subst hc
      simp at h4
      omega
theorem byt_grown {B : Nat} {w w' : World} {v v' : Value} {l r : List UInt8} (hv : Byt B w v l) (hown : w'.ownsRow B 5 1 v' (l.length + r.length) (Lib.byteCells l ++ Lib.byteCells r)) (hg : w.grownBy w' v.ownBlock) : Byt B w' v' (l ++ r) ∧ Nb B w w' := by
  refine ⟨⟨by rw [List.length_append, byteCells_app]; exact hown, Nat.le_trans hv.2 hg.size⟩, (Below.refl B w).grown hg hv.2 (fun k hk => (hv.1.lt k hk).1), hg.size, fun k t cs ht hc => hc.grown hg (fun e => ?_)⟩
  rcases hv.1.2 with ⟨rfl, _⟩ | ⟨g, cap, cur, rfl, _, h2, _⟩
  · simp [Value.ownBlock] at e
  · simp [Value.ownBlock] at e
    subst e
    unfold Blk at hc
    rw [h2] at hc
    injection hc with hc
    injection hc with _ hc
    exact ht hc.symm
section
variable {ops : Array Oper} {o : Oper} {a : Act} {w : World} {K : Act → World → Prop} {Q : Exit → Act → World → Prop} {E : Prop}
/-- 'append(b, s...)' of a string, at a step of a region. -/
theorem step_str (hgd : o.guard = none) (sl x : Operand) (ho : o.op = .call { callee := .builtin .append, args := #[sl, x], argTypes := #[105, 9] }) (B : Nat) (v : Value) (l : List UInt8) (hs : a.eval sl = v) (hv : Byt B w v l) (s : ByteArray) (hx : a.eval x = .string s)
    (hlen : l.length + s.size ≤ 140737488355328) (h : ∀ v' w', Byt B w' v' (l ++ s.data.toList) → Nb B w w' → Kp l v w w' → K (a.put o.dst v') w') : if Region.wanted o (yielded ops a.tmps) = true then Oper.wp Tryz.prog o a w K Q else E := by
  obtain ⟨i0, hi, hz0, hz1, hz2⟩ := info_parts info_byte
  have hw : Region.wanted o (yielded ops a.tmps) = true := by simp [Region.wanted, hgd]
  rw [if_pos hw]
  obtain ⟨v', w', hr, h2, h3, _⟩ := Lib.run_append_own_string (P := Tryz.prog) w B 105 9 o.type 5 i0 Tryz.underlying105 Tryz.underlying9 hi hz0 hz1 hz2 v l.length (Lib.byteCells l) hv.1 s (by unfold maxLen; omega) hlen hv.2
  unfold Oper.wp execOp
  simp only [ho, resolve, invoke, builtin, Sem.run_bind, Sem.run_pure, Result.andThen_ok, List.map_toArray, List.map_cons, List.map_nil, hs, hx, hr]
  obtain ⟨q1, q2⟩ := byt_grown (r := s.data.toList) hv (by rw [Array.length_toList]; exact h2) h3
  exact h v' w' q1 q2 (kp_grown hv h3)
/-- 'append(b, c)' of one byte, that lies in a block of its own. -/
theorem step_one (hgd : o.guard = none) (sl x : Operand) (ho : o.op = .call { callee := .builtin .append, args := #[sl, x], argTypes := #[105, 105] }) (B : Nat) (v : Value) (l : List UInt8) (hs : a.eval sl = v) (hv : Byt B w v l) (g c : Nat) (b : UInt8) (hx : a.eval x = .slice (some ⟨g, 0, none⟩) 1 c)
    (hc : w.cell? ⟨g, 0, none⟩ = some (.int .u8 b.toNat)) (hlen : l.length + 1 ≤ 140737488355328) (h : ∀ v' w', Byt B w' v' (l ++ [b]) → Nb B w w' → Kp l v w w' → K (a.put o.dst v') w') : if Region.wanted o (yielded ops a.tmps) = true then Oper.wp Tryz.prog o a w K Q else E := by
  obtain ⟨i0, hi, hz0, hz1, hz2⟩ := info_parts info_byte
  have hw : Region.wanted o (yielded ops a.tmps) = true := by simp [Region.wanted, hgd]
  rw [if_pos hw]
  obtain ⟨g2, cap, w', hr, h2, h3, _, _⟩ := run_append_lies (P := Tryz.prog) w 105 o.type B 5 i0 _ 1 1 Tryz.underlying105 hi hz0 hz1 hz2 rfl (by omega) v l.length (Lib.byteCells l) hv.1 ⟨g, 0, none⟩ 1 c (Lib.byteCells [b]) rfl (fun j u hu => by
    have hadd : (⟨g, 0, none⟩ : Addr).add j = ⟨g, j, none⟩ := by unfold Addr.add; split <;> simp_all
    rw [hadd]
    cases j with
    | zero => simp [Lib.byteCells] at hu; rw [hc, hu]
    | succ j => simp [Lib.byteCells] at hu) (by simp [Lib.byteCells, Value.oneCell']) (by omega) (by unfold maxLen; omega) (by omega) hv.2 _ rfl
  unfold Oper.wp execOp
  simp only [ho, resolve, invoke, builtin, Sem.run_bind, Sem.run_pure, Result.andThen_ok, List.map_toArray, List.map_cons, List.map_nil, hs, hx, hr]
  obtain ⟨q1, q2⟩ := byt_grown (r := [b]) hv h2 h3
  exact h _ w' q1 q2 (kp_grown hv h3)
/-- At a plain region. -/
theorem wpl_str {rest : List Oper} {Q : Exit → Act → World → Prop} (hgd : o.guard = none) (sl x : Operand) (ho : o.op = .call { callee := .builtin .append, args := #[sl, x], argTypes := #[105, 9] }) (B : Nat) (v : Value) (l : List UInt8) (hs : a.eval sl = v) (hv : Byt B w v l) (s : ByteArray) (hx : a.eval x = .string s)
    (hlen : l.length + s.size ≤ 140737488355328) (h : ∀ v' w', Byt B w' v' (l ++ s.data.toList) → Nb B w w' → Kp l v w w' → wpList Tryz.prog ops Q rest (a.put o.dst v') w') : wpList Tryz.prog ops Q (o :: rest) a w := by
  obtain ⟨i0, hi, hz0, hz1, hz2⟩ := info_parts info_byte
  refine Lib.wpList_append_own_string w hgd sl x 105 9 ho B 5 i0 Tryz.underlying105 Tryz.underlying9 hi hz0 hz1 hz2 v l.length (Lib.byteCells l) hs hv.1 s hx (by unfold maxLen; omega) hlen hv.2 ?_
  intro v' w' h2 h3 _
  obtain ⟨q1, q2⟩ := byt_grown (r := s.data.toList) hv (by rw [Array.length_toList]; exact h2) h3
  exact h v' w' q1 q2 (kp_grown hv h3)
end
/-- 'string(b)'. -/
theorem byt_string {B : Nat} {w : World} {v : Value} {l : List UInt8} (hv : Byt B w v l) (h0 : 0 < l.length) : (convert 105 9 v).run Tryz.prog w = .ok (.string (Lines.toB l)) w := by
  have hown := hv.1
  obtain ⟨g, cap, rfl, _, hlt⟩ := hown.form h0
  refine run_convert_bytes_back w 105 9 5 ⟨g, 0, none⟩ cap l Tryz.underlying105 Tryz.underlying5 Tryz.underlying9 (fun j hj => ?_)
  rw [show (⟨g, 0, none⟩ : Addr).add j = ⟨g, j, none⟩ from by unfold Addr.add; split <;> simp_all, hown.cellAt j (by omega)]
  simp [Lib.byteCells]
  exact ⟨_, List.getElem?_eq_getElem hj, rfl⟩
end Go.Proofs.YtgegialfhkgggaaGreatDoor
