/- Walks: edits compared and sorted, stable. No condition but sizes. -/
import Derived.Test.YtgegialfhkgggaaGreatDoorPa
import Derived.Test.YtgegialfhkgggaaGreatDoorPd
import Derived.Test.YtgegialfhkgggaaGreatDoorPl
import Derived.BigRegion
import Derived.IntWalk
import Derived.Laws.IdiomCopy
import Derived.Deep.RegionHeld3
import Derived.Deep.QuietTactic
import Derived.BigQuiet
import Derived.Deep.DeepCutAuto
set_option linter.unusedVariables false
set_option linter.unusedSimpArgs false
namespace Go.Proofs.YtgegialfhkgggaaGreatDoor
open Go.RowKit
attribute [local go_sem ↓] Go.wp_at_zero Go.wp_at_succ

/-- -1, 0 or 1. -/
def sgn (a b : Int) : Int := if a < b then -1 else if b < a then 1 else 0
/-- Two points compared: by their offsets if the first has no line, else by lines and columns. -/
def cmpP (l c o l2 c2 o2 : Int) : Int := if 0 < l then (if l < l2 then -1 else if l2 < l then 1 else sgn c c2) else sgn o o2
/-- Two names compared. -/
def cmpU (u v : ByteArray) : Int := if (u.toList == v.toList) = true then 0 else if Op.bytesLess u.toList v.toList = true then -1 else 1
/-- Two spans compared. -/
def cmpS (u : ByteArray) (l c o l2 c2 o2 : Int) (v : ByteArray) (a b d a2 b2 d2 : Int) : Int :=
  if cmpU u v = 0 then (if cmpP l c o a b d = 0 then cmpP l2 c2 o2 a2 b2 d2 else cmpP l c o a b d) else cmpU u v

set_option maxHeartbeats 1000000 in
theorem comparePoint_any (l c o l2 c2 o2 : Int) (w : World) : Calls Tryz.prog 108 #[.agg #[.int .i64 l, .int .i64 c, .int .i64 o], .agg #[.int .i64 l2, .int .i64 c2, .int .i64 o2]] w fun e w' => e = .returned (.int .i64 (cmpP l c o l2 c2 o2)) ∧ Below w.heap.size w w' := by
  by_cases h0 : 0 < l
  · by_cases h1 : l < l2
    · go_enter Tryz.func108, Tryz.ntmps108
      go_wp2
      go_ret
      exact ⟨ret_int (by simp only [cmpP, sgn]; (repeat' split) <;> omega), by go_grown⟩
    · by_cases h2 : l2 < l
      · go_enter Tryz.func108, Tryz.ntmps108
        go_wp2
        go_ret
        exact ⟨ret_int (by simp only [cmpP, sgn]; (repeat' split) <;> omega), by go_grown⟩
      · by_cases h3 : c < c2 <;> by_cases h4 : c2 < c
        all_goals first
          | (exfalso; omega)
          | (go_enter Tryz.func108, Tryz.ntmps108
             go_wp2
             go_ret
             exact ⟨ret_int (by simp only [cmpP, sgn]; (repeat' split) <;> omega), by go_grown⟩)
  · by_cases h3 : o < o2 <;> by_cases h4 : o2 < o
    all_goals first
      | (exfalso; omega)
      | (go_enter Tryz.func108, Tryz.ntmps108
         go_wp2
         go_ret
         exact ⟨ret_int (by simp only [cmpP, sgn]; (repeat' split) <;> omega), by go_grown⟩)

theorem compareURI_any (u v : ByteArray) (w : World) : Calls Tryz.prog 107 #[.string u, .string v] w fun e w' => e = .returned (.int .i64 (cmpU u v)) ∧ w = w' := by
  cases h1 : (u.toList == v.toList) <;> cases h2 : Op.bytesLess u.toList v.toList
  all_goals
    go_enter Tryz.func107, Tryz.ntmps107
    go_wp2
    go_ret
    exact ⟨ret_int (by simp only [cmpU, h1, h2]; rfl), rfl⟩

set_option maxHeartbeats 1000000 in
theorem sCompare_any (u : ByteArray) (l c o l2 c2 o2 : Int) (v : ByteArray) (a b d a2 b2 d2 : Int) (w : World) :
    Calls Tryz.prog 95 #[.agg #[.string u, .int .i64 l, .int .i64 c, .int .i64 o, .int .i64 l2, .int .i64 c2, .int .i64 o2], .agg #[.string v, .int .i64 a, .int .i64 b, .int .i64 d, .int .i64 a2, .int .i64 b2, .int .i64 d2]] w fun e w' =>
      e = .returned (.int .i64 (cmpS u l c o l2 c2 o2 v a b d a2 b2 d2)) ∧ Below w.heap.size w w' := by
  obtain ⟨r, hr⟩ : ∃ r, cmpU u v = r := ⟨_, rfl⟩
  obtain ⟨r1, hr1⟩ : ∃ r, cmpP l c o a b d = r := ⟨_, rfl⟩
  have hU := fun W => compareURI_any u v W
  have hP := fun W => comparePoint_any l c o a b d W
  rw [hr] at hU
  rw [hr1] at hP
  have HU := hide hU
  have HP := hide hP
  have HR := hide hr
  have HR1 := hide hr1
  clear hU hP hr hr1
  have hr0 : (r != 0) = true ∨ (r != 0) = false := by cases (r != 0) <;> simp
  have hr10 : (r1 != 0) = true ∨ (r1 != 0) = false := by cases (r1 != 0) <;> simp
  rcases hr0 with h0 | h0
  · clear hr10
    go_enter Tryz.func95, Tryz.ntmps95
    go_wp2_with fail
    refine wp_gen ?_
    intro W hW
    have hbl : Below w.heap.size w W := by rw [hW]; go_grown
    have b1 := blk2_1 hW
    have b2 := blk2_2 hW
    clear hW
    have lt1 := b1.lt
    have lt2 := b2.lt
    have f1 := b1.seven
    have f2 := b2.seven
    clear b1 b2
    go_region_held3 (fun w' => (∀ b o, b < W.heap.size → w'.cell? ⟨b, o, none⟩ = W.cell? ⟨b, o, none⟩) ∧ W.heap.size ≤ w'.heap.size ∧ Below (W.heap.size) W w')
    (first
      | (with_reducible exact SB.start (by omega))
      | (go_split_ands; (with_reducible refine SB.call ?_ hb); exact ⟨by assumption, by assumption, by assumption⟩))
    (first
      | (go_at_call 80; refine (uri_any _ _ _ _ _ _ _ _).mono ?_; rintro e w1 ⟨rfl, hb⟩)
      | (go_at_call 107; refine (HU.out _).mono ?_; rintro e w1 ⟨rfl, rfl⟩; have hb := Below.refl w1.heap.size w1))
    go_wp2
    go_split_ands
    go_ret
    exact ⟨ret_int (by have := HR.out; have h := bne_iff_ne.1 h0; simp only [cmpS, this]; rw [if_neg h]), hbl.trans (Below.mono (B := W.heap.size) (by assumption) hbl.size)⟩
  · have h0' : r = 0 := by simpa using h0
    rcases hr10 with h1 | h1
    · replace h0' := hide h0'
      go_enter Tryz.func95, Tryz.ntmps95
      go_wp2_with fail
      refine wp_gen ?_
      intro W hW
      have hbl : Below w.heap.size w W := by rw [hW]; go_grown
      have b1 := blk2_1 hW
      have b2 := blk2_2 hW
      clear hW
      have lt1 := b1.lt
      have lt2 := b2.lt
      have f1 := b1.seven
      have f2 := b2.seven
      clear b1 b2
      go_region_held3 (fun w' => (∀ b o, b < W.heap.size → w'.cell? ⟨b, o, none⟩ = W.cell? ⟨b, o, none⟩) ∧ W.heap.size ≤ w'.heap.size ∧ Below (W.heap.size) W w')
    (first
      | (with_reducible exact SB.start (by omega))
      | (go_split_ands; (with_reducible refine SB.call ?_ hb); exact ⟨by assumption, by assumption, by assumption⟩))
    (first
      | (go_at_call 80; refine (uri_any _ _ _ _ _ _ _ _).mono ?_; rintro e w1 ⟨rfl, hb⟩)
      | (go_at_call 107; refine (HU.out _).mono ?_; rintro e w1 ⟨rfl, rfl⟩; have hb := Below.refl w1.heap.size w1))
      go_wp2_with fail
      refine (HP.out _).mono ?_
      rintro e w2 ⟨rfl, hb2⟩
      go_split_ands
      have hbl2 : Below w.heap.size w w2 := (hbl.trans (Below.mono (B := W.heap.size) (by assumption) hbl.size)).trans (hb2.mono (Nat.le_trans hbl.size (by assumption)))
      go_wp2
      go_ret
      exact ⟨ret_int (by have := HR.out; have h := bne_iff_ne.1 h1; have t := HR1.out; simp only [cmpS, this, t, h0'.out, if_true]; rw [if_neg h]), hbl2⟩
    · replace h0' := hide h0'
      have h1' : r1 = 0 := by simpa using h1
      replace h1' := hide h1'
      go_enter Tryz.func95, Tryz.ntmps95
      go_wp2_with fail
      refine wp_gen ?_
      intro W hW
      have hbl : Below w.heap.size w W := by rw [hW]; go_grown
      have b1 := blk2_1 hW
      have b2 := blk2_2 hW
      clear hW
      have lt1 := b1.lt
      have lt2 := b2.lt
      have f1 := b1.seven
      have f2 := b2.seven
      clear b1 b2
      go_region_held3 (fun w' => (∀ b o, b < W.heap.size → w'.cell? ⟨b, o, none⟩ = W.cell? ⟨b, o, none⟩) ∧ W.heap.size ≤ w'.heap.size ∧ Below (W.heap.size) W w')
    (first
      | (with_reducible exact SB.start (by omega))
      | (go_split_ands; (with_reducible refine SB.call ?_ hb); exact ⟨by assumption, by assumption, by assumption⟩))
    (first
      | (go_at_call 80; refine (uri_any _ _ _ _ _ _ _ _).mono ?_; rintro e w1 ⟨rfl, hb⟩)
      | (go_at_call 107; refine (HU.out _).mono ?_; rintro e w1 ⟨rfl, rfl⟩; have hb := Below.refl w1.heap.size w1))
      go_wp2_with fail
      refine (HP.out _).mono ?_
      rintro e w2 ⟨rfl, hb2⟩
      go_split_ands
      have hbl2 : Below w.heap.size w w2 := (hbl.trans (Below.mono (B := W.heap.size) (by assumption) hbl.size)).trans (hb2.mono (Nat.le_trans hbl.size (by assumption)))
      have hs2 : SB W.heap.size W w2 := SB.call ⟨by assumption, by assumption, by assumption⟩ hb2
      have hc2 := hs2.1
      go_wp2_with fail
      refine (comparePoint_any _ _ _ _ _ _ _).mono ?_
      rintro e w3 ⟨rfl, hb3⟩
      have hbl3 : Below w.heap.size w w3 := hbl2.trans (hb3.mono hbl2.size)
      go_wp2
      go_ret
      exact ⟨ret_int (by have := HR.out; have t := HR1.out; simp only [cmpS, this, t, h0'.out, h1'.out, if_true]), hbl3⟩
end Go.Proofs.YtgegialfhkgggaaGreatDoor
namespace Go.Proofs.YtgegialfhkgggaaGreatDoor
open Go.RowKit
attribute [local go_sem ↓] Go.wp_at_zero Go.wp_at_succ

/-- Two edits compared by their spans. -/
def cmpEd (e f : Ed) : Int := cmpS e.u e.l e.c e.o e.l2 e.c2 e.o2 f.u f.l f.c f.o f.l2 f.c2 f.o2
theorem cmpEd_any (e f : Ed) (w : World) : Calls Tryz.prog 94 #[.agg #[.string e.u, .int .i64 e.l, .int .i64 e.c, .int .i64 e.o, .int .i64 e.l2, .int .i64 e.c2, .int .i64 e.o2, .string e.t], .agg #[.string f.u, .int .i64 f.l, .int .i64 f.c, .int .i64 f.o, .int .i64 f.l2, .int .i64 f.c2, .int .i64 f.o2, .string f.t]] w fun en w' =>
    en = .returned (.int .i64 (cmpEd e f)) ∧ Below w.heap.size w w' := by
  go_enter Tryz.func94, Tryz.ntmps94
  go_wp2_with fail
  refine (sCompare_any _ _ _ _ _ _ _ _ _ _ _ _ _ _ _).mono ?_
  rintro en w1 ⟨rfl, hb⟩
  have hbl : Below w.heap.size w w1 := Below.trans (by go_grown) (hb.mono (by simp; omega))
  go_wp2
  go_ret
  exact ⟨rfl, hbl⟩

end Go.Proofs.YtgegialfhkgggaaGreatDoor
namespace Go.Proofs.YtgegialfhkgggaaGreatDoor
open Go.RowKit Stab
attribute [local go_sem ↓] Go.wp_at_zero Go.wp_at_succ
/-- Rows of edits, in the order t. -/
def Rw (w : World) (b o n : Nat) (g : Nat → Ed) (t : Nat → Nat) : Prop := ∀ i, i < n → ∀ j, j < 8 → w.cell? ⟨b, o + i * 8 + j, none⟩ = some ((edCells (g (t i))).getD j undef) ∧ w.frozen? ⟨b, o + i * 8 + j, none⟩ = false
/-- What a sorting step leaves. -/
def SrtRes (w : World) (b o n : Nat) (g : Nat → Ed) (t' : Nat → Nat) (e : Ending) (w' : World) : Prop := e = .returned (.tuple #[]) ∧ Rw w' b o n g t' ∧ w.grownBy w' (some b)
/-- Eight cells of a row. -/
def Row8 (w : World) (b o : Nat) (e : Ed) : Prop := (w.cell? ⟨b, o, none⟩ = some (.string e.u) ∧ w.cell? ⟨b, o + 1, none⟩ = some (.int .i64 e.l) ∧ w.cell? ⟨b, o + 2, none⟩ = some (.int .i64 e.c) ∧ w.cell? ⟨b, o + 3, none⟩ = some (.int .i64 e.o) ∧ w.cell? ⟨b, o + 4, none⟩ = some (.int .i64 e.l2) ∧ w.cell? ⟨b, o + 5, none⟩ = some (.int .i64 e.c2) ∧ w.cell? ⟨b, o + 6, none⟩ = some (.int .i64 e.o2) ∧ w.cell? ⟨b, o + 7, none⟩ = some (.string e.t)) ∧
  (w.frozen? ⟨b, o, none⟩ = false ∧ w.frozen? ⟨b, o + 1, none⟩ = false ∧ w.frozen? ⟨b, o + 2, none⟩ = false ∧ w.frozen? ⟨b, o + 3, none⟩ = false ∧ w.frozen? ⟨b, o + 4, none⟩ = false ∧ w.frozen? ⟨b, o + 5, none⟩ = false ∧ w.frozen? ⟨b, o + 6, none⟩ = false ∧ w.frozen? ⟨b, o + 7, none⟩ = false)
theorem Rw.row {w : World} {b o n : Nat} {g : Nat → Ed} {t : Nat → Nat} (h : Rw w b o n g t) {i : Nat} (hi : i < n) : Row8 w b (o + i * 8) (g (t i)) :=
  ⟨⟨(h i hi 0 (by omega)).1, (h i hi 1 (by omega)).1, (h i hi 2 (by omega)).1, (h i hi 3 (by omega)).1, (h i hi 4 (by omega)).1, (h i hi 5 (by omega)).1, (h i hi 6 (by omega)).1, (h i hi 7 (by omega)).1⟩,
   (h i hi 0 (by omega)).2, (h i hi 1 (by omega)).2, (h i hi 2 (by omega)).2, (h i hi 3 (by omega)).2, (h i hi 4 (by omega)).2, (h i hi 5 (by omega)).2, (h i hi 6 (by omega)).2, (h i hi 7 (by omega)).2⟩
theorem Row8.kept {w w1 : World} {b o : Nat} {e : Ed} (h : Row8 w b o e) (hb : Below w.heap.size w w1) : Row8 w1 b o e := by
  obtain ⟨⟨h0, h1, h2, h3, h4, h5, h6, h7⟩, f0, f1, f2, f3, f4, f5, f6, f7⟩ := h
  exact ⟨⟨kcell hb h0, kcell hb h1, kcell hb h2, kcell hb h3, kcell hb h4, kcell hb h5, kcell hb h6, kcell hb h7⟩, kfrozen hb h0 f0, kfrozen hb h1 f1, kfrozen hb h2 f2, kfrozen hb h3 f3, kfrozen hb h4 f4, kfrozen hb h5 f5, kfrozen hb h6 f6, kfrozen hb h7 f7⟩
/-- Eight stores into a row. -/
def put8 (w : World) (b p : Nat) (e : Ed) : World := (((((((w.setCell ⟨b, p, none⟩ (.string e.u)).setCell ⟨b, p + 1, none⟩ (.int .i64 e.l)).setCell ⟨b, p + 2, none⟩ (.int .i64 e.c)).setCell ⟨b, p + 3, none⟩ (.int .i64 e.o)).setCell ⟨b, p + 4, none⟩ (.int .i64 e.l2)).setCell ⟨b, p + 5, none⟩ (.int .i64 e.c2)).setCell ⟨b, p + 6, none⟩ (.int .i64 e.o2)).setCell ⟨b, p + 7, none⟩ (.string e.t)

theorem put8_eq (w : World) (b p : Nat) (e : Ed) : put8 w b p e = w.setCells b p (edCells e) := rfl
theorem ed_len (e : Ed) : (edCells e).length = 8 := rfl
theorem grown_setCells (b : Nat) : ∀ (vs : List Value) (p : Nat) {a w : World}, a.grownBy w (some b) → a.grownBy (w.setCells b p vs) (some b)
  | [], _, _, _, h => h
  | v :: r, p, a, w, h => grown_setCells b r (p + 1) (SX.set (p := ⟨b, p, none⟩) (SX.of h) rfl v).2.2
theorem Rw.lt {w : World} {b o n : Nat} {g : Nat → Ed} {t : Nat → Nat} (h : Rw w b o n g t) (hn : 0 < n) : b < w.heap.size := by
  have := lt_of_cell (h 0 hn 0 (by omega)).1; exact this
theorem Rw.grown {w w1 : World} {b o n : Nat} {g : Nat → Ed} {t : Nat → Nat} (h : Rw w b o n g t) (hb : Below w.heap.size w w1) : Rw w1 b o n g t :=
  fun i hi j hj => ⟨kcell hb (h i hi j hj).1, kfrozen hb (h i hi j hj).1 (h i hi j hj).2⟩
theorem cells_in {w : World} {b p : Nat} {vs : List Value} (h : ∀ c, c < vs.length → (w.cell? ⟨b, p + c, none⟩).isSome = true) {c : Nat} (hc : c < vs.length) : (w.setCells b p vs).cell? ⟨b, p + c, none⟩ = some (vs.getD c undef) := by
  rw [World.cell?_setCells_in b vs p w h c hc, List.getD_eq_getElem?_getD, List.getElem?_eq_getElem hc]; rfl
theorem cells_out {w : World} {b p q : Nat} {vs : List Value} (h : q < p ∨ p + vs.length ≤ q) : (w.setCells b p vs).cell? ⟨b, q, none⟩ = w.cell? ⟨b, q, none⟩ :=
  World.cell?_setCells_out b vs p w ⟨b, q, none⟩ (fun _ _ => h)
theorem swap_cells {w : World} {b o n : Nat} {F : Nat → List Value} (hF : ∀ k, (F k).length = 8) (h : ∀ k, k < n → ∀ c, c < 8 → w.cell? ⟨b, o + k * 8 + c, none⟩ = some ((F k).getD c undef)) {i j : Nat} (hi : i < n) (hj : j < n) (hne : i ≠ j) (k : Nat) (hk : k < n) (c : Nat) (hc : c < 8) :
    ((w.setCells b (o + i * 8) (F j)).setCells b (o + j * 8) (F i)).cell? ⟨b, o + k * 8 + c, none⟩ = some ((if k = i then F j else if k = j then F i else F k).getD c undef) := by
  have some1 : ∀ k, k < n → ∀ c, c < 8 → (w.cell? ⟨b, o + k * 8 + c, none⟩).isSome = true := fun k hk c hc => by rw [h k hk c hc]; rfl
  by_cases e1 : k = i
  · subst e1
    rw [if_pos rfl, cells_out (by rw [hF]; omega), cells_in (fun c hc => some1 k hk c (by rw [hF] at hc; exact hc)) (by rw [hF]; exact hc)]
  · rw [if_neg e1]
    by_cases e2 : k = j
    · subst e2
      rw [if_pos rfl, cells_in (fun c hc => ?_) (by rw [hF]; exact hc)]
      rw [hF] at hc
      rw [cells_out (by rw [hF]; omega)]
      exact some1 k hk c hc
    · rw [if_neg e2, cells_out (by rw [hF]; omega), cells_out (by rw [hF]; omega), h k hk c hc]
theorem drew_cell (w : World) (a : Addr) : w.drew.cell? a = w.cell? a := rfl
theorem drew_frozen (w : World) (a : Addr) : w.drew.frozen? a = w.frozen? a := rfl
/-- Two rows exchanged in memory. -/
theorem rw_swap {w : World} {b o n : Nat} {g : Nat → Ed} {t : Nat → Nat} (h : Rw w b o n g t) {i j : Nat} (hi : i < n) (hj : j < n) (hne : i ≠ j) :
    Rw (put8 (put8 w b (o + i * 8) (g (t j))) b (o + j * 8) (g (t i))).drew b o n g (sw t i j) := by
  intro k hk c hc
  rw [put8_eq, put8_eq]
  have h1 := swap_cells (w := w) (b := b) (o := o) (n := n) (F := fun k => edCells (g (t k))) (fun _ => rfl) (fun k hk c hc => (h k hk c hc).1) hi hj hne k hk c hc
  have h2 : ((w.setCells b (o + i * 8) (edCells (g (t j)))).setCells b (o + j * 8) (edCells (g (t i)))).frozen? ⟨b, o + k * 8 + c, none⟩ = false := by
    rw [World.frozen?_setCells, World.frozen?_setCells]; exact (h k hk c hc).2
  rw [drew_cell, drew_frozen]
  refine ⟨?_, h2⟩
  have e : edCells (g (sw t i j k)) = if k = i then edCells (g (t j)) else if k = j then edCells (g (t i)) else edCells (g (t k)) := by
    unfold sw
    by_cases e1 : k = i
    · rw [if_pos e1, if_pos e1]
    · rw [if_neg e1, if_neg e1]
      by_cases e2 : k = j
      · rw [if_pos e2, if_pos e2]
      · rw [if_neg e2, if_neg e2]
  rw [e]
  exact h1
theorem grown_swap {a w : World} {b p q : Nat} {e f : Ed} (h : a.grownBy w (some b)) : a.grownBy (put8 (put8 w b p e) b q f).drew (some b) := by
  rw [put8_eq, put8_eq]
  exact grown_drew (grown_setCells b _ _ (grown_setCells b _ _ h))

set_option maxHeartbeats 4000000 in
set_option maxRecDepth 100000 in
theorem swapRange_any (g : Nat → Ed) (t : Nat → Nat) (b o n c x y m : Nat) (fn : Value) (w : World) (hR : Rw w b o n g t) (h1 : x + m ≤ y) (h2 : y + m ≤ n) (hn : n ≤ 1000000) :
    Calls Tryz.prog 125 #[.slice (some ⟨b, o, none⟩) n c, .int .i64 x, .int .i64 y, .int .i64 m, fn] w (SrtRes w b o n g (swr t x y m)) := by
  have HR := hide hR
  clear hR
  go_enter Tryz.func125, Tryz.ntmps125
  go_wp2
  go_loopw [10] (fun iv wr => ∃ k : Nat, iv = .int .i64 k ∧ k ≤ m ∧ Hid (Rw wr b o n g (swr t x y k) ∧ w.grownBy wr (some b))) (fun iv _ => m - (intOf iv).toNat)
  case atStart => exact ⟨0, rfl, Nat.zero_le _, hide ⟨by rw [swr_zero]; exact HR.out, World.grownBy.refl _ _⟩⟩
  case round =>
    obtain ⟨k, rfl, hk, hcr⟩ := hrel
    by_cases hlt : k < m
    · obtain ⟨hrw, hgr⟩ := hcr.out
      obtain ⟨p, hp⟩ : ∃ p, p = x + k := ⟨_, rfl⟩
      obtain ⟨q, hq⟩ : ∃ q, q = y + k := ⟨_, rfl⟩
      have r1 := hrw.row (show p < n by omega)
      have r2 := hrw.row (show q < n by omega)
      have s1 : IntKind.i64.wrap ((x : Int) + (k : Int)) = (p : Int) := by rw [IntWalk.i64_in _ (by omega)]; omega
      have s2 : IntKind.i64.wrap ((y : Int) + (k : Int)) = (q : Int) := by rw [IntWalk.i64_in _ (by omega)]; omega
      have pn : (p : Int) < (n : Int) := by omega
      have qn : (q : Int) < (n : Int) := by omega
      have pn' : p < n := by omega
      have qn' : q < n := by omega
      have hS : Hid (∀ e1 e2, g (swr t x y k p) = e1 → g (swr t x y k q) = e2 → Rw (put8 (put8 wr b (o + p * 8) e2) b (o + q * 8) e1).drew b o n g (swr t x y (k + 1)) ∧ w.grownBy (put8 (put8 wr b (o + p * 8) e2) b (o + q * 8) e1).drew (some b)) := hide (by
        rintro e1 e2 rfl rfl
        refine ⟨?_, grown_swap hgr⟩
        have hsw := rw_swap hrw (show p < n by omega) (show q < n by omega) (by omega)
        have es : sw (swr t x y k) p q = swr t x y (k + 1) := by rw [hp, hq]; exact swr_succ _ _ _ _ (by omega)
        rw [es] at hsw
        exact hsw)
      generalize he1 : g (swr t x y k p) = e1 at *
      generalize he2 : g (swr t x y k q) = e2 at *
      have HS := hide (hS.out _ _ rfl rfl)
      clear hS he1 he2
      obtain ⟨a0, a1, a2, a3, a4, a5, a6, a7⟩ := e1
      obtain ⟨b0, b1, b2, b3, b4, b5, b6, b7⟩ := e2
      unfold Row8 at r1 r2
      dsimp only at r1 r2
      have Hp := hide hp
      have Hq := hide hq
      clear hp hq hrw hgr hcr
      generalize hP : o + p * 8 = P at *
      generalize hQ : o + q * 8 = Q at *
      have hPQ : P + 8 ≤ Q := by have := Hp.out; have := Hq.out; omega
      have HP := hide hP
      have HQ := hide hQ
      go_wp2_with fail
      go_region
      go_wp2
      go_roundw
      case rel => exact ⟨k + 1, by go_num, by omega, hide HS.out⟩
      case measure => simp [intOf]; omega
    · have : k = m := by omega
      subst this
      have hfin : Hid (Rw wr b o n g (swr t x y k) ∧ w.grownBy wr (some b)) := hcr
      clear hcr
      go_wp2
      go_end0
      exact ⟨rfl, hfin.out.1, hfin.out.2⟩
end Go.Proofs.YtgegialfhkgggaaGreatDoor
namespace Go.Proofs.YtgegialfhkgggaaGreatDoor
open Go.RowKit Stab
attribute [local go_sem ↓] Go.wp_at_zero Go.wp_at_succ

theorem gtrans_ {a W w1 : World} {g : Nat} (h : a.grownBy W (some g)) (h2 : W.grownBy w1 (some g)) : a.grownBy w1 (some g) :=
  ⟨h2.os.trans h.os, h2.tape.trans h.tape, h2.output.trans h.output, Nat.le_trans h.size h2.size, fun k hk hne => (h2.block k (Nat.lt_of_lt_of_le hk h.size) hne).trans (h.block k hk hne)⟩

set_option maxHeartbeats 4000000 in
set_option maxRecDepth 100000 in
theorem rotate_any (g : Nat → Ed) (t : Nat → Nat) (b o n c x m y : Nat) (fn : Value) (w : World) (hR : Rw w b o n g t) (h1 : x < m) (h2 : m < y) (h3 : y ≤ n) (hn : n ≤ 1000000) :
    Calls Tryz.prog 122 #[.slice (some ⟨b, o, none⟩) n c, .int .i64 x, .int .i64 m, .int .i64 y, fn] w (SrtRes w b o n g (rot t x m y)) := by
  have HR := hide hR
  clear hR
  have e1 : IntKind.i64.wrap ((m : Int) - (x : Int)) = ((m - x : Nat) : Int) := by rw [IntWalk.i64_in _ (by omega)]; omega
  have e2 : IntKind.i64.wrap ((y : Int) - (m : Int)) = ((y - m : Nat) : Int) := by rw [IntWalk.i64_in _ (by omega)]; omega
  have e1' : ((m : Int) - (x : Int)) = ((m - x : Nat) : Int) := by omega
  have e2' : ((y : Int) - (m : Int)) = ((y - m : Nat) : Int) := by omega
  go_enter Tryz.func122, Tryz.ntmps122
  go_wp2
  clear e1 e2 e1' e2'
  go_loopw [10, 11] (fun iv jv wr => ∃ i j : Nat, iv = .int .i64 i ∧ jv = .int .i64 j ∧ 1 ≤ i ∧ 1 ≤ j ∧ i ≤ m - x ∧ j ≤ y - m ∧ Hid (∃ t2, Rw wr b o n g t2 ∧ w.grownBy wr (some b) ∧ rot t2 (m - i) m (m + j) = rot t x m y)) (fun iv jv _ => (intOf iv).toNat + (intOf jv).toNat)
  case atStart => exact ⟨m - x, y - m, rfl, rfl, by omega, by omega, Nat.le_refl _, Nat.le_refl _, hide ⟨t, HR.out, World.grownBy.refl _ _, by rw [show m - (m - x) = x by omega, show m + (y - m) = y by omega]⟩⟩
  case round =>
    obtain ⟨i, j, rfl, rfl, hi, hj, hi2, hj2, hcr⟩ := hrel
    obtain ⟨t2, hrw, hgr, hrot⟩ := hcr.out
    clear hcr
    rcases Nat.lt_trichotomy j i with hlt | heq | hlt
    · have HH := hide hrw
      have HG := hide hgr
      have HT := hide hrot
      have ne : ((i : Int) != (j : Int)) = true := by simp; omega
      have gt : (j : Int) < (i : Int) := by omega
      have gt' : j < i := hlt
      have w1 : IntKind.i64.wrap ((m : Int) - (i : Int)) = ((m - i : Nat) : Int) := by rw [IntWalk.i64_in _ (by omega)]; omega
      have w1' : ((m : Int) - (i : Int)) = ((m - i : Nat) : Int) := by omega
      clear hrw hgr hrot
      go_wp2_with fail
      refine (swapRange_any g t2 b o n c (m - i) m j fn _ HH.out (by omega) (by omega) hn).mono ?_
      rintro e w1 ⟨rfl, hr1, hg1⟩
      have HS := hide (show ∃ t2, Rw w1 b o n g t2 ∧ w.grownBy w1 (some b) ∧ rot t2 (m - (i - j)) m (m + j) = rot t x m y from ⟨_, hr1, gtrans_ HG.out hg1, by rw [rot_left t2 m i j gt' (by omega)]; exact HT.out⟩)
      clear hr1 hg1 w1'
      have w2 : ((i : Int) - (j : Int)) = ((i - j : Nat) : Int) := by omega
      go_wp2
      go_roundw
      case rel => exact ⟨i - j, j, by first | rfl | (rw [w2]), rfl, by omega, by omega, by omega, by omega, HS⟩
      case measure => simp [intOf]; omega
    · subst heq
      have HH := hide hrw
      have HG := hide hgr
      have HT := hide hrot
      have ne : ((j : Int) != (j : Int)) = false := by simp
      have w1 : IntKind.i64.wrap ((m : Int) - (j : Int)) = ((m - j : Nat) : Int) := by rw [IntWalk.i64_in _ (by omega)]; omega
      have w1' : ((m : Int) - (j : Int)) = ((m - j : Nat) : Int) := by omega
      clear hrw hgr hrot
      go_wp2_with fail
      refine (swapRange_any g t2 b o n c (m - j) m j fn _ HH.out (by omega) (by omega) hn).mono ?_
      rintro e w1 ⟨rfl, hr1, hg1⟩
      have HS := hide (show Rw w1 b o n g (rot t x m y) ∧ w.grownBy w1 (some b) from ⟨by rw [rot_last t2 m j (by omega), HT.out] at hr1; exact hr1, gtrans_ HG.out hg1⟩)
      clear hr1 hg1 w1'
      go_wp2
      go_end0
      exact ⟨rfl, HS.out.1, HS.out.2⟩
    · have HH := hide hrw
      have HG := hide hgr
      have HT := hide hrot
      have ne : ((i : Int) != (j : Int)) = true := by simp; omega
      have gt : ¬ (j : Int) < (i : Int) := by omega
      have gt' : ¬ j < i := by omega
      have w1 : IntKind.i64.wrap ((m : Int) - (i : Int)) = ((m - i : Nat) : Int) := by rw [IntWalk.i64_in _ (by omega)]; omega
      have w1' : ((m : Int) - (i : Int)) = ((m - i : Nat) : Int) := by omega
      have w3 : ((m : Int) + (j : Int) - (i : Int)) = ((m + j - i : Nat) : Int) := by omega
      clear hrw hgr hrot
      go_wp2_with fail
      refine (swapRange_any g t2 b o n c (m - i) (m + j - i) i fn _ HH.out (by omega) (by omega) hn).mono ?_
      rintro e w1 ⟨rfl, hr1, hg1⟩
      have HS := hide (show ∃ t2, Rw w1 b o n g t2 ∧ w.grownBy w1 (some b) ∧ rot t2 (m - i) m (m + (j - i)) = rot t x m y from ⟨_, hr1, gtrans_ HG.out hg1, by rw [rot_right t2 m i j hlt (by omega)]; exact HT.out⟩)
      clear hr1 hg1 w1' w3
      have w2 : ((j : Int) - (i : Int)) = ((j - i : Nat) : Int) := by omega
      go_wp2
      go_roundw
      case rel => exact ⟨i, j - i, rfl, by first | rfl | (rw [w2]), by omega, by omega, by omega, by omega, HS⟩
      case measure => simp [intOf]; omega

/-- How two edits compare, by their numbers. -/
def ltE (g : Nat → Ed) (i j : Nat) : Bool := decide (cmpEd (g i) (g j) < 0)

set_option maxHeartbeats 4000000 in
set_option maxRecDepth 100000 in
theorem insertion_any (g : Nat → Ed) (t : Nat → Nat) (b o n c x y : Nat) (w : World) (hR : Rw w b o n g t) (hxy : x ≤ y) (h3 : y ≤ n) (hn : n ≤ 1000000) (W : Weak n (ltE g)) (hI : Into t n) (htag : ∀ p q, x ≤ p → p < q → q < y → t p < t q) :
    Calls Tryz.prog 114 #[.slice (some ⟨b, o, none⟩) n c, .int .i64 x, .int .i64 y, .func (.func 94) #[] #[]] w fun e w' => ∃ t', SrtRes w b o n g t' e w' ∧ Sub t t' x y ∧ Srt (ltE g) t' x y := by
  have HR := hide hR
  have HW := hide W
  have HI := hide hI
  have HT := hide htag
  clear hR W hI htag
  go_enter Tryz.func114, Tryz.ntmps114
  go_wp2
  go_loopw [8] (fun iv wr => ∃ i : Nat, iv = .int .i64 i ∧ x + 1 ≤ i ∧ i ≤ y + 1 ∧ Hid (∃ t2, Rw wr b o n g t2 ∧ w.grownBy wr (some b) ∧ Sub t t2 x (min i y) ∧ Srt (ltE g) t2 x (min i y))) (fun iv _ => y + 1 - (intOf iv).toNat)
  case atStart => exact ⟨x + 1, by go_num, Nat.le_refl _, by omega, hide ⟨t, HR.out, World.grownBy.refl _ _, Sub.refl _ _ _, fun i j h1 h2 h3 => by omega⟩⟩
  case round =>
    obtain ⟨i, rfl, hi1, hi2, hcr⟩ := hrel
    obtain ⟨t2, hrw, hgr, hsub, hsrt⟩ := hcr.out
    clear hcr
    by_cases hlt : i < y
    · rw [Nat.min_eq_left (by omega)] at hsub hsrt
      have hin2 : Into t2 n := hsub.into (by omega) HI.out
      have hins : Ins (ltE g) t2 t2 x i i y := Ins.start (by omega) hsrt (fun p h1 h2 => by
        obtain ⟨k', q1, q2, e⟩ := hsub.ins p h1 h2
        rw [e, hsub.out i (by omega)]
        exact HT.out _ _ q1 q2 hlt)
      have HH := hide (show Rw wr b o n g t2 ∧ w.grownBy wr (some b) from ⟨hrw, hgr⟩)
      have HSub := hide hsub
      have HIns := hide hins
      have HIn2 := hide hin2
      clear hrw hgr hsub hsrt hin2 hins
      obtain ⟨wo, hwo⟩ : ∃ wo : World, wo = wr := ⟨_, rfl⟩
      subst hwo
      go_wp2_with fail
      go_loopw [9] (fun jv wr => ∃ j : Nat, jv = .int .i64 j ∧ j ≤ i ∧ Hid (∃ t3, Rw wr b o n g t3 ∧ w.grownBy wr (some b) ∧ Ins (ltE g) t2 t3 x i j y)) (fun jv _ => (intOf jv).toNat)
      case atStart => exact ⟨i, rfl, Nat.le_refl _, hide ⟨t2, HH.out.1, HH.out.2, HIns.out⟩⟩
      case round =>
        obtain ⟨j, rfl, hji, hcr⟩ := hrel
        obtain ⟨t3, hrw, hgr, hins⟩ := hcr.out
        clear hcr
        have haj := hins.aj
        have hin3 : Into t3 n := hins.sub.into (by omega) HIn2.out
        have HStop := hide (fun (w' : World) (hb : Below wr.heap.size wr w') (hl : j = x ∨ ltE g (t3 j) (t3 (j - 1)) = false) => (show ∃ t2, Rw w' b o n g t2 ∧ w.grownBy w' (some b) ∧ Sub t t2 x (min (i + 1) y) ∧ Srt (ltE g) t2 x (min (i + 1) y) from
          ⟨t3, hrw.grown hb, by exact ⟨hb.os.trans hgr.os, hb.tape.trans hgr.tape, hb.output.trans hgr.output, Nat.le_trans hgr.size hb.size, fun k hk hne => (hb.block k (Nat.lt_of_lt_of_le hk hgr.size)).trans (hgr.block k hk hne)⟩,
            by rw [Nat.min_eq_left (by omega)]; exact (HSub.out.wide (Nat.le_refl _) (by omega)).trans hins.sub, by rw [Nat.min_eq_left (by omega)]; exact hins.stop HW.out (by omega) hin3 hl⟩))
        by_cases hxj : j = x
        · have hxj' : x = j := hxj.symm
          subst hxj'
          have d1 : decide (x < x) = false := by simp
          have HS := hide (fun w' hb => HStop.out w' hb (Or.inl rfl))
          clear hrw hgr hins hin3 HStop
          go_wp2_with fail
          go_quiet (fail)
          go_wp2
          go_roundw
          case rel => exact ⟨i + 1, by go_num, by omega, by omega, hide (HS.out _ ⟨rfl, rfl, rfl, Nat.le_refl _, fun _ _ => rfl⟩)⟩
          case measure => simp [intOf]; omega
        · obtain ⟨p, hp⟩ : ∃ p, p = j - 1 := ⟨_, rfl⟩
          have hp1 : j = p + 1 := by omega
          have r1 := hrw.row (show j < n by omega)
          have r2 := hrw.row (show p < n by omega)
          have hlb := hrw.lt (by omega)
          have hS : Hid (∀ e1 e2, g (t3 j) = e1 → g (t3 p) = e2 → ∀ w', Below wr.heap.size wr w' → Rw (put8 (put8 w' b (o + j * 8) e2) b (o + p * 8) e1).drew b o n g (sw t3 j p) ∧ w.grownBy (put8 (put8 w' b (o + j * 8) e2) b (o + p * 8) e1).drew (some b)) := hide (by
            rintro e1 e2 rfl rfl w' hb
            exact ⟨rw_swap (hrw.grown hb) (show j < n by omega) (show p < n by omega) (by omega), grown_swap ⟨hb.os.trans hgr.os, hb.tape.trans hgr.tape, hb.output.trans hgr.output, Nat.le_trans hgr.size hb.size, fun k hk hne => (hb.block k (Nat.lt_of_lt_of_le hk hgr.size)).trans (hgr.block k hk hne)⟩⟩)
          have hL : Hid (∀ e1 e2, g (t3 j) = e1 → g (t3 p) = e2 → (cmpEd e1 e2 < 0 → ltE g (t3 j) (t3 p) = true) ∧ (¬ cmpEd e1 e2 < 0 → ltE g (t3 j) (t3 p) = false)) := hide (by
            rintro e1 e2 rfl rfl
            exact ⟨fun h => by unfold ltE; simpa using h, fun h => by unfold ltE; simpa using h⟩)
          have HIn := hide hins
          have HStay := hide (fun (w' : World) (hb : Below wr.heap.size wr w') => (hrw.grown hb))
          generalize he1 : g (t3 j) = e1 at *
          generalize he2 : g (t3 p) = e2 at *
          have HS := hide (hS.out _ _ rfl rfl)
          have HL := hide (hL.out _ _ rfl rfl)
          have HC := hide (fun W => cmpEd_any e1 e2 W)
          generalize hr : cmpEd e1 e2 = r at *
          clear hS hL he1 he2 hr hrw hgr hins
          obtain ⟨a0, a1, a2, a3, a4, a5, a6, a7⟩ := e1
          obtain ⟨b0, b1, b2, b3, b4, b5, b6, b7⟩ := e2
          have s1 : IntKind.i64.wrap ((j : Int) - 1) = (p : Int) := by rw [IntWalk.i64_in _ (by omega)]; omega
          have pn : (p : Int) < (n : Int) := by omega
          have qn : (j : Int) < (n : Int) := by omega
          have pn' : p < n := by omega
          have qn' : j < n := by omega
          have g1 : (x : Int) < (j : Int) := by omega
          have g2 : x < j := by omega
          generalize hP : o + p * 8 = P at *
          generalize hQ : o + j * 8 = Q at *
          have hPQ : P + 8 = Q := by omega
          have HPQ := hide hPQ
          have hle : P + 8 ≤ Q := by omega
          have Hp1 := hide hp1
          have R1 := hide r1
          have R2 := hide r2
          unfold Row8 at r1 r2
          dsimp only at r1 r2
          clear hPQ hxj hp hp1
          by_cases hr0 : r < 0
          · have HStep := hide (show Ins (ltE g) t2 (sw t3 j p) x i p y from by
              have h1 := HIn.out
              have h2 := HL.out.1 hr0
              have h3 := Hp1.out
              rw [h3] at h1 h2 ⊢
              exact h1.step (by omega) h2)
            clear HL HStop HStay
            go_wp2_with fail
            go_region_held3 (fun w' => (∀ b o, b < wr.heap.size → w'.cell? ⟨b, o, none⟩ = wr.cell? ⟨b, o, none⟩) ∧ wr.heap.size ≤ w'.heap.size ∧ Below (wr.heap.size) wr w')
    (first
      | (with_reducible exact SB.start (by omega))
      | (go_split_ands; (with_reducible refine SB.call ?_ hb); exact ⟨by assumption, by assumption, by assumption⟩))
    (first
      | (go_at_call 94; refine (HC.out _).mono ?_; rintro e w1 ⟨rfl, hb⟩))
            have hbw : Below wr.heap.size wr w1 := by (go_split_ands; assumption)
            have q1 := R1.out.kept hbw
            have q2 := R2.out.kept hbw
            unfold Row8 at q1 q2
            dsimp only at q1 q2
            rename_i hHeld
            clear r1 r2 hHeld hb
            go_wp2_with fail
            go_region
            go_wp2
            go_roundw
            case rel => exact ⟨p, by go_num, by omega, hide ⟨_, (HS.out w1 hbw).1, (HS.out w1 hbw).2, HStep.out⟩⟩
            case measure => simp [intOf]; omega
          · have hl := HL.out.2 hr0
            have HS2 := hide (fun w' hb => HStop.out w' hb (Or.inr (by have h3 := Hp1.out; rw [show j - 1 = p by omega]; exact hl)))
            clear HL HStop HStay HS hl
            go_wp2_with fail
            go_region_held3 (fun w' => (∀ b o, b < wr.heap.size → w'.cell? ⟨b, o, none⟩ = wr.cell? ⟨b, o, none⟩) ∧ wr.heap.size ≤ w'.heap.size ∧ Below (wr.heap.size) wr w')
    (first
      | (with_reducible exact SB.start (by omega))
      | (go_split_ands; (with_reducible refine SB.call ?_ hb); exact ⟨by assumption, by assumption, by assumption⟩))
    (first
      | (go_at_call 94; refine (HC.out _).mono ?_; rintro e w1 ⟨rfl, hb⟩))
            have hbw : Below wr.heap.size wr w1 := by (go_split_ands; assumption)
            clear r1 r2 hb
            go_wp2
            go_roundw
            case rel => exact ⟨i + 1, by go_num, by omega, by omega, hide (HS2.out w1 hbw)⟩
            case measure => simp [intOf]; omega
    · have hm : min i y = y ∨ (y ≤ x ∨ y = x + 1) := by omega
      have hfin : Hid (∃ t', (Rw wr b o n g t' ∧ w.grownBy wr (some b)) ∧ Sub t t' x y ∧ Srt (ltE g) t' x y) := hide ⟨t2, ⟨hrw, hgr⟩, by rw [Nat.min_eq_right (by omega)] at hsub hsrt; exact ⟨hsub, hsrt⟩⟩
      clear hrw hgr hsub hsrt hm
      go_wp2
      go_end0
      obtain ⟨t', h1, h2, h3⟩ := hfin.out
      exact ⟨t', ⟨rfl, h1.1, h1.2⟩, h2, h3⟩
end Go.Proofs.YtgegialfhkgggaaGreatDoor
namespace Go.Proofs.YtgegialfhkgggaaGreatDoor
open Go.RowKit Stab
attribute [local go_sem ↓] Go.wp_at_zero Go.wp_at_succ

theorem gbelow {a W w1 : World} {row : Option Nat} (h : a.grownBy W row) (hb : Below W.heap.size W w1) : a.grownBy w1 row :=
  ⟨hb.os.trans h.os, hb.tape.trans h.tape, hb.output.trans h.output, Nat.le_trans h.size hb.size, fun k hk hne => (hb.block k (Nat.lt_of_lt_of_le hk h.size)).trans (h.block k hk hne)⟩
/-- What a merge leaves. -/
def MrgRes (w : World) (b o n : Nat) (g : Nat → Ed) (t : Nat → Nat) (x y : Nat) (e : Ending) (w' : World) : Prop := ∃ t', SrtRes w b o n g t' e w' ∧ Sub t t' x y ∧ Srt (ltE g) t' x y
theorem ltE_of {g : Nat → Ed} {i j : Nat} {r : Int} (h : cmpEd (g i) (g j) = r) : (r < 0 → ltE g i j = true) ∧ (¬ r < 0 → ltE g i j = false) := by
  unfold ltE; rw [h]; exact ⟨fun h => by simpa using h, fun h => by simpa using h⟩

set_option maxHeartbeats 8000000 in
set_option maxRecDepth 100000 in
theorem symLeft_any (g : Nat → Ed) (t : Nat → Nat) (b o n c x m y : Nat) (w : World) (hR : Rw w b o n g t) (hm : m = x + 1) (h2 : m < y) (h3 : y ≤ n) (hn : n ≤ 1000000) (W : Weak n (ltE g)) (hI : Into t n) (hT : Two (ltE g) t x m y) :
    Calls Tryz.prog 115 #[.slice (some ⟨b, o, none⟩) n c, .int .i64 x, .int .i64 m, .int .i64 y, .func (.func 94) #[] #[]] w (MrgRes w b o n g t x y) := by
  have HR := hide hR
  have HW := hide W
  have HI := hide hI
  have HT := hide hT
  have HM := hide hm
  have c1 : ((m : Int) - (x : Int) == 1) = true := by simp; omega
  have b1 : x < m := by omega
  clear hR W hI hT hm
  go_enter Tryz.func115, Tryz.ntmps115
  go_wp2
  clear c1
  go_loopw [10, 11] (fun iv jv wr => ∃ i j : Nat, iv = .int .i64 i ∧ jv = .int .i64 j ∧ m ≤ i ∧ i ≤ j ∧ j ≤ y ∧ Hid ((i = m ∨ ltE g (t (i - 1)) (t x) = true) ∧ (j = y ∨ ltE g (t j) (t x) = false) ∧ Below w.heap.size w wr)) (fun iv jv _ => (intOf jv).toNat - (intOf iv).toNat)
  case atStart => exact ⟨m, y, rfl, rfl, Nat.le_refl _, by omega, Nat.le_refl _, hide ⟨Or.inl rfl, Or.inl rfl, Below.refl _ _⟩⟩
  case round =>
    obtain ⟨i, j, rfl, rfl, hi1, hij, hj, hcr⟩ := hrel
    by_cases hlt : i < j
    · obtain ⟨hlo, hhi, hbl⟩ := hcr.out
      obtain ⟨h, hh⟩ : ∃ h : Nat, h = (i + j) / 2 := ⟨_, rfl⟩
      have s1 : ((i : Int) + (j : Int)) / 2 = (h : Int) := by omega
      have hih : i ≤ h := by omega
      have hhj : h < j := by omega
      have hrw := HR.out.grown hbl
      have hbB := hrw.lt (by omega)
      obtain ⟨e1, he1⟩ : ∃ e, g (t h) = e := ⟨_, rfl⟩
      obtain ⟨e2, he2⟩ : ∃ e, g (t x) = e := ⟨_, rfl⟩
      obtain ⟨r, hr⟩ : ∃ r, cmpEd e1 e2 = r := ⟨_, rfl⟩
      have r1 := hrw.row (show h < n by omega)
      have r2 := hrw.row (show x < n by omega)
      rw [he1] at r1
      rw [he2] at r2
      have hlt2 := ltE_of (g := g) (i := t h) (j := t x) (r := r) (by rw [he1, he2]; exact hr)
      have HC := hide (fun W => cmpEd_any e1 e2 W)
      rw [hr] at HC
      clear he1 he2 hr
      obtain ⟨a0, a1, a2, a3, a4, a5, a6, a7⟩ := e1
      obtain ⟨b0, b1, b2, b3, b4, b5, b6, b7⟩ := e2
      unfold Row8 at r1 r2
      dsimp only at r1 r2
      generalize hP : o + h * 8 = P at *
      generalize hQ : o + x * 8 = Q at *
      have l1 : (h : Int) < (n : Int) := by omega
      have l2 : (x : Int) < (n : Int) := by omega
      have l1' : h < n := by omega
      have l2' : x < n := by omega
      have HLo := hide hlo
      have HHi := hide hhi
      have HBl := hide hbl
      have HL := hide hlt2
      clear hlo hhi hbl hlt2 hcr hrw hh
      by_cases hr0 : r < 0
      · have hl := hide (HL.out.1 hr0)
        clear HL
        go_wp2_with fail
        go_region_held3 (fun w' => (∀ b o, b < wr.heap.size → w'.cell? ⟨b, o, none⟩ = wr.cell? ⟨b, o, none⟩) ∧ wr.heap.size ≤ w'.heap.size ∧ Below (wr.heap.size) wr w')
    (first
      | (with_reducible exact SB.start (by omega))
      | (go_split_ands; (with_reducible refine SB.call ?_ hb); exact ⟨by assumption, by assumption, by assumption⟩))
    (first
      | (go_at_call 94; refine (HC.out _).mono ?_; rintro e w1 ⟨rfl, hb⟩))
        have hbw : Below wr.heap.size wr w1 := by (go_split_ands; assumption)
        clear r1 r2 hb
        go_wp2
        go_roundw
        case rel => exact ⟨h + 1, j, by go_num, rfl, by omega, by omega, by omega, hide ⟨Or.inr hl.out, HHi.out, HBl.out.trans (hbw.mono HBl.out.size)⟩⟩
        case measure => simp [intOf]; omega
      · have hl := hide (HL.out.2 hr0)
        clear HL
        go_wp2_with fail
        go_region_held3 (fun w' => (∀ b o, b < wr.heap.size → w'.cell? ⟨b, o, none⟩ = wr.cell? ⟨b, o, none⟩) ∧ wr.heap.size ≤ w'.heap.size ∧ Below (wr.heap.size) wr w')
    (first
      | (with_reducible exact SB.start (by omega))
      | (go_split_ands; (with_reducible refine SB.call ?_ hb); exact ⟨by assumption, by assumption, by assumption⟩))
    (first
      | (go_at_call 94; refine (HC.out _).mono ?_; rintro e w1 ⟨rfl, hb⟩))
        have hbw : Below wr.heap.size wr w1 := by (go_split_ands; assumption)
        clear r1 r2 hb
        go_wp2
        go_roundw
        case rel => exact ⟨i, h, rfl, rfl, by omega, by omega, by omega, hide ⟨HLo.out, Or.inr hl.out, HBl.out.trans (hbw.mono HBl.out.size)⟩⟩
        case measure => simp [intOf]; omega
    · have : i = j := by omega
      subst this
      have hb0 : ∃ q, i = q + 1 := ⟨i - 1, by omega⟩
      obtain ⟨q, hq⟩ := hb0
      have HFin := hide (show Sub t (up t x q) x y ∧ Srt (ltE g) (up t x q) x y from by
        obtain ⟨h1, h4, _⟩ := hcr.out
        have hT := HT.out
        have hM := HM.out
        subst hM
        have hs := up_srt HW.out hT (by omega) HI.out hi1 hj h1 h4
        rw [show i - 1 = q by omega] at hs
        exact ⟨up_sub (by omega) (by omega), hs⟩)
      have HB := hide hcr.out.2.2
      have s0 : (i : Int) - 1 = (q : Int) := by omega
      have hqx : x ≤ q := by have := HM.out; omega
      have hqy : q < y := by omega
      clear hcr hq HT
      go_wp2
      go_loopw [13] (fun kv wr => ∃ k : Nat, kv = .int .i64 k ∧ x ≤ k ∧ k ≤ q ∧ Hid (Rw wr b o n g (up t x k) ∧ w.grownBy wr (some b))) (fun kv _ => q - (intOf kv).toNat)
      case atStart => exact ⟨x, rfl, Nat.le_refl _, hqx, hide ⟨by rw [up_zero]; exact HR.out.grown HB.out, gbelow (World.grownBy.refl _ _) HB.out⟩⟩
      case round =>
        obtain ⟨k, rfl, hk1, hk2, hcr⟩ := hrel
        obtain ⟨hrw, hgr⟩ := hcr.out
        clear hcr
        by_cases hkq : k < q
        · obtain ⟨p, hp⟩ : ∃ p, p = k + 1 := ⟨_, rfl⟩
          have s1 : IntKind.i64.wrap ((k : Int) + 1) = (p : Int) := by rw [IntWalk.i64_in _ (by omega)]; omega
          have s1' : ((k : Int) + 1) = (p : Int) := by omega
          have l1 : (k : Int) < (n : Int) := by omega
          have l2 : (p : Int) < (n : Int) := by omega
          have l1' : k < n := by omega
          have l2' : p < n := by omega
          have hlb := hrw.lt (by omega)
          have r1 := hrw.row (show k < n by omega)
          have r2 := hrw.row (show p < n by omega)
          have hS : Hid (∀ e1 e2, g (up t x k k) = e1 → g (up t x k p) = e2 → Rw (put8 (put8 wr b (o + k * 8) e2) b (o + p * 8) e1).drew b o n g (sw (up t x k) k p) ∧ w.grownBy (put8 (put8 wr b (o + k * 8) e2) b (o + p * 8) e1).drew (some b)) := hide (by
            rintro e1 e2 rfl rfl
            exact ⟨rw_swap hrw (show k < n by omega) (show p < n by omega) (by omega), grown_swap hgr⟩)
          generalize he1 : g (up t x k k) = e1 at *
          generalize he2 : g (up t x k p) = e2 at *
          have HS := hide (hS.out _ _ rfl rfl)
          clear hS he1 he2 hrw hgr
          obtain ⟨a0, a1, a2, a3, a4, a5, a6, a7⟩ := e1
          obtain ⟨b0, b1, b2, b3, b4, b5, b6, b7⟩ := e2
          generalize hP : o + k * 8 = P at *
          generalize hQ : o + p * 8 = Q at *
          have hPQ : P + 8 ≤ Q := by omega
          unfold Row8 at r1 r2
          dsimp only at r1 r2
          have hup := hide (show sw (up t x k) k p = up t x p from by rw [hp]; exact up_succ t x k hk1)
          have Hp := hide hp
          clear hp s1'
          go_wp2_with fail
          go_region
          go_wp2
          go_roundw
          case rel => exact ⟨p, by first | rfl | go_num, by have := Hp.out; omega, by have := Hp.out; omega, hide (by rw [← hup.out]; exact HS.out)⟩
          case measure => have := Hp.out; simp [intOf]; omega
        · have : k = q := by omega
          subst this
          have hfin : Hid (MrgRes w b o n g t x y (.returned (.tuple #[])) wr) := hide ⟨_, ⟨rfl, hrw, hgr⟩, HFin.out.1, HFin.out.2⟩
          clear hrw hgr
          go_wp2
          go_end0
          exact hfin.out

set_option maxHeartbeats 8000000 in
set_option maxRecDepth 100000 in
theorem symRight_any (g : Nat → Ed) (t : Nat → Nat) (b o n c x m y : Nat) (w : World) (hR : Rw w b o n g t) (hm : y = m + 1) (h2 : x + 1 < m) (h3 : y ≤ n) (hn : n ≤ 1000000) (W : Weak n (ltE g)) (hI : Into t n) (hT : Two (ltE g) t x m y) :
    Calls Tryz.prog 115 #[.slice (some ⟨b, o, none⟩) n c, .int .i64 x, .int .i64 m, .int .i64 y, .func (.func 94) #[] #[]] w (MrgRes w b o n g t x y) := by
  have HR := hide hR
  have HW := hide W
  have HI := hide hI
  have HT := hide hT
  have HM := hide hm
  have c1 : ((m : Int) - (x : Int) == 1) = false := by simp; omega
  have c2 : ((y : Int) - (m : Int) == 1) = true := by simp; omega
  have b1 : x < m := by omega
  have b2 : m < n := by omega
  clear hR W hI hT hm
  go_enter Tryz.func115, Tryz.ntmps115
  go_wp2
  clear c1 c2
  go_loopw [14, 15] (fun iv jv wr => ∃ i j : Nat, iv = .int .i64 i ∧ jv = .int .i64 j ∧ x ≤ i ∧ i ≤ j ∧ j ≤ m ∧ Hid ((i = x ∨ ltE g (t m) (t (i - 1)) = false) ∧ (j = m ∨ ltE g (t m) (t j) = true) ∧ Below w.heap.size w wr)) (fun iv jv _ => (intOf jv).toNat - (intOf iv).toNat)
  case atStart => exact ⟨x, m, rfl, rfl, Nat.le_refl _, by omega, Nat.le_refl _, hide ⟨Or.inl rfl, Or.inl rfl, Below.refl _ _⟩⟩
  case round =>
    obtain ⟨i, j, rfl, rfl, hi1, hij, hj, hcr⟩ := hrel
    by_cases hlt : i < j
    · obtain ⟨hlo, hhi, hbl⟩ := hcr.out
      obtain ⟨h, hh⟩ : ∃ h : Nat, h = (i + j) / 2 := ⟨_, rfl⟩
      have s1 : ((i : Int) + (j : Int)) / 2 = (h : Int) := by omega
      have hih : i ≤ h := by omega
      have hhj : h < j := by omega
      have hrw := HR.out.grown hbl
      have hbB := hrw.lt (by omega)
      obtain ⟨e1, he1⟩ : ∃ e, g (t m) = e := ⟨_, rfl⟩
      obtain ⟨e2, he2⟩ : ∃ e, g (t h) = e := ⟨_, rfl⟩
      obtain ⟨r, hr⟩ : ∃ r, cmpEd e1 e2 = r := ⟨_, rfl⟩
      have r1 := hrw.row (show m < n by omega)
      have r2 := hrw.row (show h < n by omega)
      rw [he1] at r1
      rw [he2] at r2
      have hlt2 := ltE_of (g := g) (i := t m) (j := t h) (r := r) (by rw [he1, he2]; exact hr)
      have HC := hide (fun W => cmpEd_any e1 e2 W)
      rw [hr] at HC
      clear he1 he2 hr
      obtain ⟨a0, a1, a2, a3, a4, a5, a6, a7⟩ := e1
      obtain ⟨b0, b1, b2, b3, b4, b5, b6, b7⟩ := e2
      unfold Row8 at r1 r2
      dsimp only at r1 r2
      generalize hP : o + m * 8 = P at *
      generalize hQ : o + h * 8 = Q at *
      have l1 : (h : Int) < (n : Int) := by omega
      have l2 : (m : Int) < (n : Int) := by omega
      have l1' : h < n := by omega
      have HLo := hide hlo
      have HHi := hide hhi
      have HBl := hide hbl
      have HL := hide hlt2
      clear hlo hhi hbl hlt2 hcr hrw hh
      by_cases hr0 : r < 0
      · have hl := hide (HL.out.1 hr0)
        clear HL
        go_wp2_with fail
        go_region_held3 (fun w' => (∀ b o, b < wr.heap.size → w'.cell? ⟨b, o, none⟩ = wr.cell? ⟨b, o, none⟩) ∧ wr.heap.size ≤ w'.heap.size ∧ Below (wr.heap.size) wr w')
    (first
      | (with_reducible exact SB.start (by omega))
      | (go_split_ands; (with_reducible refine SB.call ?_ hb); exact ⟨by assumption, by assumption, by assumption⟩))
    (first
      | (go_at_call 94; refine (HC.out _).mono ?_; rintro e w1 ⟨rfl, hb⟩))
        have hbw : Below wr.heap.size wr w1 := by (go_split_ands; assumption)
        clear r1 r2 hb
        go_wp2
        go_roundw
        case rel => exact ⟨i, h, rfl, rfl, by omega, by omega, by omega, hide ⟨HLo.out, Or.inr hl.out, HBl.out.trans (hbw.mono HBl.out.size)⟩⟩
        case measure => simp [intOf]; omega
      · have hl := hide (HL.out.2 hr0)
        have hd : (!decide (r < 0)) = true := by simpa using hr0
        clear HL
        go_wp2_with fail
        go_region_held3 (fun w' => (∀ b o, b < wr.heap.size → w'.cell? ⟨b, o, none⟩ = wr.cell? ⟨b, o, none⟩) ∧ wr.heap.size ≤ w'.heap.size ∧ Below (wr.heap.size) wr w')
    (first
      | (with_reducible exact SB.start (by omega))
      | (go_split_ands; (with_reducible refine SB.call ?_ hb); exact ⟨by assumption, by assumption, by assumption⟩))
    (first
      | (go_at_call 94; refine (HC.out _).mono ?_; rintro e w1 ⟨rfl, hb⟩))
        have hbw : Below wr.heap.size wr w1 := by (go_split_ands; assumption)
        clear r1 r2 hb
        go_wp2
        go_roundw
        case rel => exact ⟨h + 1, j, by go_num, rfl, by omega, by omega, by omega, hide ⟨Or.inr hl.out, HHi.out, HBl.out.trans (hbw.mono HBl.out.size)⟩⟩
        case measure => simp [intOf]; omega
    · have : i = j := by omega
      subst this
      have HFin := hide (show Sub t (dn t m i) x y ∧ Srt (ltE g) (dn t m i) x y from by
        obtain ⟨h1, h4, _⟩ := hcr.out
        have hT := HT.out
        have hM := HM.out
        subst hM
        exact ⟨dn_sub hj hi1, dn_srt HW.out hT (by omega) HI.out hi1 hj h1 h4⟩)
      have HB := hide hcr.out.2.2
      clear hcr HT
      go_wp2
      go_loopw [17] (fun kv wr => ∃ k : Nat, kv = .int .i64 k ∧ i ≤ k ∧ k ≤ m ∧ Hid (Rw wr b o n g (dn t m k) ∧ w.grownBy wr (some b))) (fun kv _ => (intOf kv).toNat)
      case atStart => exact ⟨m, rfl, hj, Nat.le_refl _, hide ⟨by rw [dn_zero]; exact HR.out.grown HB.out, gbelow (World.grownBy.refl _ _) HB.out⟩⟩
      case round =>
        obtain ⟨k, rfl, hk1, hk2, hcr⟩ := hrel
        obtain ⟨hrw, hgr⟩ := hcr.out
        clear hcr
        by_cases hkq : i < k
        · obtain ⟨p, hp⟩ : ∃ p, p = k - 1 := ⟨_, rfl⟩
          have hpk : k = p + 1 := by omega
          have s1 : IntKind.i64.wrap ((k : Int) - 1) = (p : Int) := by rw [IntWalk.i64_in _ (by omega)]; omega
          have g1 : (i : Int) < (k : Int) := by omega
          have l1 : (k : Int) < (n : Int) := by omega
          have l2 : (p : Int) < (n : Int) := by omega
          have l1' : k < n := by omega
          have l2' : p < n := by omega
          have hlb := hrw.lt (by omega)
          have r1 := hrw.row (show k < n by omega)
          have r2 := hrw.row (show p < n by omega)
          have hS : Hid (∀ e1 e2, g (dn t m k k) = e1 → g (dn t m k p) = e2 → Rw (put8 (put8 wr b (o + k * 8) e2) b (o + p * 8) e1).drew b o n g (sw (dn t m k) k p) ∧ w.grownBy (put8 (put8 wr b (o + k * 8) e2) b (o + p * 8) e1).drew (some b)) := hide (by
            rintro e1 e2 rfl rfl
            exact ⟨rw_swap hrw (show k < n by omega) (show p < n by omega) (by omega), grown_swap hgr⟩)
          generalize he1 : g (dn t m k k) = e1 at *
          generalize he2 : g (dn t m k p) = e2 at *
          have HS := hide (hS.out _ _ rfl rfl)
          clear hS he1 he2 hrw hgr
          obtain ⟨a0, a1, a2, a3, a4, a5, a6, a7⟩ := e1
          obtain ⟨b0, b1, b2, b3, b4, b5, b6, b7⟩ := e2
          generalize hP : o + k * 8 = P at *
          generalize hQ : o + p * 8 = Q at *
          have hPQ : Q + 8 ≤ P := by omega
          unfold Row8 at r1 r2
          dsimp only at r1 r2
          have hup := hide (show sw (dn t m k) k p = dn t m p from by rw [hpk]; exact dn_succ t m p (by omega))
          have Hp := hide hpk
          clear hp hpk
          go_wp2_with fail
          go_region
          go_wp2
          go_roundw
          case rel => exact ⟨p, by first | rfl | (have := Hp.out; go_num), by have := Hp.out; omega, by have := Hp.out; omega, hide (by rw [← hup.out]; exact HS.out)⟩
          case measure => have := Hp.out; simp [intOf]; omega
        · have : k = i := by omega
          subst this
          have hfin : Hid (MrgRes w b o n g t x y (.returned (.tuple #[])) wr) := hide ⟨_, ⟨rfl, hrw, hgr⟩, HFin.out.1, HFin.out.2⟩
          clear hrw hgr
          go_wp2
          go_end0
          exact hfin.out
end Go.Proofs.YtgegialfhkgggaaGreatDoor
namespace Go.Proofs.YtgegialfhkgggaaGreatDoor
open Go.RowKit Stab
attribute [local go_sem ↓] Go.wp_at_zero Go.wp_at_succ

/-- The parts of a merge put together. -/
theorem sym_fin {lt : Nat → Nat → Bool} {n x m y s e mid : Nat} {t t1 t2 : Nat → Nat} (W : Weak n lt) (ht : Into t n) (hy : y ≤ n) (h : Cut lt t x m y s e mid) (s1 : Sub (rot t s m e) t1 x mid) (r1 : Srt lt t1 x mid) (s2 : Sub t1 t2 mid y) (r2 : Srt lt t2 mid y) :
    Sub t t2 x y ∧ Srt lt t2 x y := by
  have hmid : x ≤ mid ∧ mid ≤ y := by have := h.as; have := h.sm; have := h.me; have := h.eb; have := h.mid_eq; omega
  refine ⟨((rot_sub h.sm h.me).wide h.as h.eb).trans ((s1.wide (Nat.le_refl _) hmid.2).trans (s2.wide hmid.1 (Nat.le_refl _))), ?_⟩
  exact halves (h.ahead W ht hy) s1 r1 s2 r2
theorem sym_two {lt : Nat → Nat → Bool} {x m y s e mid : Nat} {t t1 : Nat → Nat} (h : Cut lt t x m y s e mid) (s1 : Sub (rot t s m e) t1 x mid) : Two lt t1 mid e y := by
  have := h.sm; have := h.me; have := h.eb; have := h.mid_eq
  exact h.right.out s1 (Or.inr (Nat.le_refl _)) ⟨by omega, by omega⟩
theorem cut_of {lt : Nat → Nat → Bool} {x m y s mid s0 r0 : Nat} {t : Nat → Nat} (hT : Two lt t x m y) (hxm : x < m) (hmy : m < y) (hmid : mid = (x + y) / 2) (h0 : (mid < m ∧ s0 = mid + m - y ∧ r0 = mid) ∨ (m ≤ mid ∧ s0 = x ∧ r0 = m)) (hs : s0 ≤ s) (hr : s ≤ r0)
    (h1 : s = s0 ∨ lt (t (mid + m - s)) (t (s - 1)) = false) (h2 : s = r0 ∨ lt (t (mid + m - 1 - s)) (t s) = true) : Cut lt t x m y s (mid + m - s) mid := by
  refine ⟨hT, by omega, by omega, by omega, by omega, by omega, ?_, ?_⟩
  · rcases h1 with h1 | h1
    · rcases h0 with h0 | h0
      · exact Or.inr (Or.inl (by omega))
      · exact Or.inl (by omega)
    · exact Or.inr (Or.inr h1)
  · rcases h2 with h2 | h2
    · rcases h0 with h0 | h0
      · exact Or.inr (Or.inl (by omega))
      · exact Or.inl (by omega)
    · refine Or.inr (Or.inr ?_)
      rw [show mid + m - s - 1 = mid + m - 1 - s by omega]; exact h2

set_option maxHeartbeats 16000000 in
set_option maxRecDepth 100000 in
theorem symGen_any (g : Nat → Ed) (t : Nat → Nat) (b o n c x m y d mid s0 r0 : Nat) (w : World) (hR : Rw w b o n g t) (h1 : x + 1 < m) (h2 : m + 1 < y) (h3 : y ≤ n) (hn : n ≤ 1000000) (W : Weak n (ltE g)) (hI : Into t n) (hT : Two (ltE g) t x m y)
    (hmid : mid = (x + y) / 2) (h0 : (mid < m ∧ s0 = mid + m - y ∧ r0 = mid) ∨ (m ≤ mid ∧ s0 = x ∧ r0 = m)) (hd : y - x ≤ d + 1)
    (IH : ∀ (t : Nat → Nat) (x m y : Nat) (w : World), y - x ≤ d → x < m → m < y → y ≤ n → Rw w b o n g t → Into t n → Two (ltE g) t x m y →
      Calls Tryz.prog 115 #[.slice (some ⟨b, o, none⟩) n c, .int .i64 x, .int .i64 m, .int .i64 y, .func (.func 94) #[] #[]] w (MrgRes w b o n g t x y)) :
    Calls Tryz.prog 115 #[.slice (some ⟨b, o, none⟩) n c, .int .i64 x, .int .i64 m, .int .i64 y, .func (.func 94) #[] #[]] w (MrgRes w b o n g t x y) := by
  have HR := hide hR
  have HW := hide W
  have HI := hide hI
  have HIH := hide IH
  have HCut := hide (fun s hs hr a1 a2 => cut_of (s := s) hT (by omega) (by omega) hmid h0 hs hr a1 a2)
  have c1 : ((m : Int) - (x : Int) == 1) = false := by simp; omega
  have c2 : ((y : Int) - (m : Int) == 1) = false := by simp; omega
  have hs0 : x ≤ s0 ∧ s0 ≤ r0 ∧ r0 ≤ m ∧ r0 ≤ mid ∧ mid + m ≤ s0 + y := by omega
  obtain ⟨k1, k2, k3, k4, k5⟩ := hs0
  have k6 := hide (show mid < m → s0 + y = mid + m from fun h => by omega)
  have hxm : x < mid := by omega
  have hmy : mid < y := by omega
  obtain ⟨N, hN⟩ : ∃ N, N = mid + m := ⟨_, rfl⟩
  obtain ⟨p, hp⟩ : ∃ p, p = N - 1 := ⟨_, rfl⟩
  have HN := hide hN
  have HP := hide hp
  have q1 : ((x : Int) + (y : Int)) / 2 = (mid : Int) := by omega
  have q2 : (mid : Int) + (m : Int) = (N : Int) := by omega
  have q3 : 1 ≤ N := by omega
  have q4 : N ≤ 2000000 := by omega
  have H0 := hide h0
  clear hR W hI hT hmid h0 IH hN hp
  go_enter Tryz.func115, Tryz.ntmps115
  go_upto_if 140 with fail
  clear c1 c2 q1 q2
  go_cut [20, 21] (fun a20 a21 wx => a20 = .int .i64 s0 ∧ a21 = .int .i64 r0 ∧ w = wx)
  case first =>
    rcases H0.out with ⟨z1, z2, z3⟩ | ⟨z1, z2, z3⟩
    · have z4 : (N : Int) - (y : Int) = (s0 : Int) := by have := HN.out; have := k6.out z1; omega
      subst z3
      clear z2
      go_wp2
      go_meet
      exact ⟨rfl, rfl, rfl⟩
    · have z4 : ¬ mid < m := by omega
      subst z3; subst z2
      go_wp2
      go_meet
      exact ⟨rfl, rfl, rfl⟩
  case rest =>
    obtain ⟨rfl, rfl, rfl⟩ := hcut
    go_wp2
    go_loopw [20, 21] (fun iv jv wr => ∃ i j : Nat, iv = .int .i64 i ∧ jv = .int .i64 j ∧ s0 ≤ i ∧ i ≤ j ∧ j ≤ r0 ∧ Hid ((i = s0 ∨ ltE g (t (N - i)) (t (i - 1)) = false) ∧ (j = r0 ∨ ltE g (t (p - j)) (t j) = true) ∧ Below w.heap.size w wr)) (fun iv jv _ => (intOf jv).toNat - (intOf iv).toNat)
    case atStart => exact ⟨s0, r0, rfl, rfl, Nat.le_refl _, k2, Nat.le_refl _, hide ⟨Or.inl rfl, Or.inl rfl, Below.refl _ _⟩⟩
    case round =>
      obtain ⟨i, j, rfl, rfl, hi1, hij, hj, hcr⟩ := hrel
      by_cases hlt : i < j
      · obtain ⟨hlo, hhi, hbl⟩ := hcr.out
        obtain ⟨h, hh⟩ : ∃ h : Nat, h = (i + j) / 2 := ⟨_, rfl⟩
        have s1 : ((i : Int) + (j : Int)) / 2 = (h : Int) := by omega
        have hih : i ≤ h := by omega
        have hhj : h < j := by omega
        have hrw := HR.out.grown hbl
        have hbB := hrw.lt (by omega)
        have hpn : h < p ∧ p - h < n ∧ N - (h + 1) = p - h := by have := HN.out; have := HP.out; omega
        obtain ⟨hp1, hp2, hp3⟩ := hpn
        obtain ⟨q, hq⟩ : ∃ q, q = p - h := ⟨_, rfl⟩
        have s2 : IntKind.i64.wrap ((N : Int) - 1 - (h : Int)) = (q : Int) := by rw [IntWalk.i64_in _ (by omega)]; have := HP.out; omega
        rw [← hq] at hp2 hp3
        have HQ := hide hp3
        have HQ2 := hide hq
        obtain ⟨e1, he1⟩ : ∃ e, g (t q) = e := ⟨_, rfl⟩
        obtain ⟨e2, he2⟩ : ∃ e, g (t h) = e := ⟨_, rfl⟩
        obtain ⟨r, hr⟩ : ∃ r, cmpEd e1 e2 = r := ⟨_, rfl⟩
        have r1 := hrw.row (show q < n by omega)
        have r2 := hrw.row (show h < n by omega)
        rw [he1] at r1
        rw [he2] at r2
        have hlt2 := ltE_of (g := g) (i := t q) (j := t h) (r := r) (by rw [he1, he2]; exact hr)
        have HC := hide (fun W => cmpEd_any e1 e2 W)
        rw [hr] at HC
        clear he1 he2 hr
        obtain ⟨a0, a1, a2, a3, a4, a5, a6, a7⟩ := e1
        obtain ⟨b0, b1, b2, b3, b4, b5, b6, b7⟩ := e2
        unfold Row8 at r1 r2
        dsimp only at r1 r2
        generalize hP : o + q * 8 = P at *
        generalize hQ : o + h * 8 = Q at *
        have l1 : (h : Int) < (n : Int) := by omega
        have l2 : (q : Int) < (n : Int) := by omega
        have l1' : h < n := by omega
        have HLo := hide hlo
        have HHi := hide hhi
        have HBl := hide hbl
        have HL := hide hlt2
        clear hlo hhi hbl hlt2 hcr hrw hh hq hp3
        by_cases hr0 : r < 0
        · have hl := hide (HL.out.1 hr0)
          clear HL
          go_wp2_with fail
          go_region_held3 (fun w' => (∀ b o, b < wr.heap.size → w'.cell? ⟨b, o, none⟩ = wr.cell? ⟨b, o, none⟩) ∧ wr.heap.size ≤ w'.heap.size ∧ Below (wr.heap.size) wr w')
    (first
      | (with_reducible exact SB.start (by omega))
      | (go_split_ands; (with_reducible refine SB.call ?_ hb); exact ⟨by assumption, by assumption, by assumption⟩))
    (first
      | (go_at_call 94; refine (HC.out _).mono ?_; rintro e w1 ⟨rfl, hb⟩))
          have hbw : Below wr.heap.size wr w1 := by (go_split_ands; assumption)
          clear r1 r2 hb
          go_wp2
          go_roundw
          case rel => exact ⟨i, h, rfl, rfl, by omega, by omega, by omega, hide ⟨HLo.out, Or.inr (by rw [← HQ2.out]; exact hl.out), HBl.out.trans (hbw.mono HBl.out.size)⟩⟩
          case measure => simp [intOf]; omega
        · have hl := hide (HL.out.2 hr0)
          have hd : (!decide (r < 0)) = true := by simpa using hr0
          clear HL
          go_wp2_with fail
          go_region_held3 (fun w' => (∀ b o, b < wr.heap.size → w'.cell? ⟨b, o, none⟩ = wr.cell? ⟨b, o, none⟩) ∧ wr.heap.size ≤ w'.heap.size ∧ Below (wr.heap.size) wr w')
    (first
      | (with_reducible exact SB.start (by omega))
      | (go_split_ands; (with_reducible refine SB.call ?_ hb); exact ⟨by assumption, by assumption, by assumption⟩))
    (first
      | (go_at_call 94; refine (HC.out _).mono ?_; rintro e w1 ⟨rfl, hb⟩))
          have hbw : Below wr.heap.size wr w1 := by (go_split_ands; assumption)
          clear r1 r2 hb
          go_wp2
          go_roundw
          case rel => exact ⟨h + 1, j, by go_num, rfl, by omega, by omega, by omega, hide ⟨Or.inr (by rw [HQ.out, Nat.add_sub_cancel]; exact hl.out), HHi.out, HBl.out.trans (hbw.mono HBl.out.size)⟩⟩
          case measure => simp [intOf]; omega
      · have : i = j := by omega
        subst this
        obtain ⟨s, hsi⟩ : ∃ s, s = i := ⟨_, rfl⟩
        obtain ⟨e, he⟩ : ∃ e, e = N - s := ⟨_, rfl⟩
        have HK := hide (show Cut (ltE g) t x m y s e mid ∧ Rw wr b o n g t ∧ w.grownBy wr (some b) from by
          obtain ⟨a1, a2, a3⟩ := hcr.out
          have hN := HN.out
          have hP := HP.out
          rw [hN] at a1
          rw [hP, hN] at a2
          subst hsi
          rw [he, hN]
          exact ⟨HCut.out s hi1 hj a1 a2, HR.out.grown a3, gbelow (World.grownBy.refl _ _) a3⟩)
        have f1 := HK.out.1.as
        have f2 := HK.out.1.sm
        have f3 := HK.out.1.me
        have f4 := HK.out.1.eb
        have f5 := HK.out.1.mid_eq
        have s9 : (N : Int) - (s : Int) = (e : Int) := by have := HN.out; omega
        subst hsi
        clear hcr HCut he HR H0 k6 hlt hij hi1 hj k1 k2 k3 k4 k5
        by_cases v0 : s < m
        · by_cases v1 : s < mid
          · by_cases v2 : x < s
            · by_cases v3 : e < y
              · have u1 : s < m := by omega
                have u2 : m < e := by omega
                have u3 : x < s := by omega
                have u4 : s < mid := by omega
                have u5 : mid < e := by omega
                have u6 : e < y := by omega
                go_wp2_with fail
                refine (rotate_any g t b o n c s m e _ _ HK.out.2.1 u1 u2 (by omega) hn).mono ?_
                rintro en w1 ⟨rfl, hr1, hg1⟩
                have HA := hide (show Rw w1 b o n g (rot t s m e) ∧ w.grownBy w1 (some b) from ⟨hr1, gtrans_ HK.out.2.2 hg1⟩)
                clear hr1 hg1
                go_wp2_with fail
                refine (HIH.out (rot t s m e) x s mid _ (by omega) u3 u4 (by omega) HA.out.1 ((rot_sub (by omega) (by omega)).into (by omega) HI.out) HK.out.1.left).mono ?_
                rintro en w2 ⟨t1, ⟨rfl, hr1, hg1⟩, hs1, hq1⟩
                have HB := hide (show Rw w2 b o n g t1 ∧ w.grownBy w2 (some b) ∧ Sub (rot t s m e) t1 x mid ∧ Srt (ltE g) t1 x mid from ⟨hr1, gtrans_ HA.out.2 hg1, hs1, hq1⟩)
                clear hr1 hg1 hs1 hq1
                go_wp2_with fail
                refine (HIH.out _ mid e y _ (by omega) u5 u6 h3 HB.out.1 (HB.out.2.2.1.into (by omega) ((rot_sub (by omega) (by omega)).into (by omega) HI.out)) (sym_two HK.out.1 HB.out.2.2.1)).mono ?_
                rintro en w3 ⟨t2, ⟨rfl, hr1, hg1⟩, hs1, hq1⟩
                have HF := hide (show MrgRes w b o n g t x y (.returned (.tuple #[])) w3 from ⟨t2, ⟨rfl, hr1, gtrans_ HB.out.2.1 hg1⟩, sym_fin HW.out HI.out h3 HK.out.1 HB.out.2.2.1 HB.out.2.2.2 hs1 hq1⟩)
                clear hr1 hg1 hs1 hq1
                go_wp2
                go_end0
                exact HF.out
              · have u1 : s < m := by omega
                have u2 : m < e := by omega
                have u3 : x < s := by omega
                have u4 : s < mid := by omega
                have u5 : mid < e := by omega
                have u6 : ¬ e < y := by omega
                go_wp2_with fail
                refine (rotate_any g t b o n c s m e _ _ HK.out.2.1 u1 u2 (by omega) hn).mono ?_
                rintro en w1 ⟨rfl, hr1, hg1⟩
                have HA := hide (show Rw w1 b o n g (rot t s m e) ∧ w.grownBy w1 (some b) from ⟨hr1, gtrans_ HK.out.2.2 hg1⟩)
                clear hr1 hg1
                go_wp2_with fail
                refine (HIH.out (rot t s m e) x s mid _ (by omega) u3 u4 (by omega) HA.out.1 ((rot_sub (by omega) (by omega)).into (by omega) HI.out) HK.out.1.left).mono ?_
                rintro en w2 ⟨t1, ⟨rfl, hr1, hg1⟩, hs1, hq1⟩
                have HB := hide (show Rw w2 b o n g t1 ∧ w.grownBy w2 (some b) ∧ Sub (rot t s m e) t1 x mid ∧ Srt (ltE g) t1 x mid from ⟨hr1, gtrans_ HA.out.2 hg1, hs1, hq1⟩)
                clear hr1 hg1 hs1 hq1
                have HF := hide (show MrgRes w b o n g t x y (.returned (.tuple #[])) _ from ⟨_, ⟨rfl, HB.out.1, HB.out.2.1⟩, sym_fin HW.out HI.out h3 HK.out.1 HB.out.2.2.1 HB.out.2.2.2 (Sub.refl _ _ _) ((sym_two HK.out.1 HB.out.2.2.1).srt (by omega))⟩)
                go_wp2
                go_end0
                exact HF.out
            · by_cases v3 : e < y
              · have u1 : s < m := by omega
                have u2 : m < e := by omega
                have u3 : ¬ x < s := by omega
                have u4 : s < mid := by omega
                have u5 : mid < e := by omega
                have u6 : e < y := by omega
                go_wp2_with fail
                refine (rotate_any g t b o n c s m e _ _ HK.out.2.1 u1 u2 (by omega) hn).mono ?_
                rintro en w1 ⟨rfl, hr1, hg1⟩
                have HA := hide (show Rw w1 b o n g (rot t s m e) ∧ w.grownBy w1 (some b) from ⟨hr1, gtrans_ HK.out.2.2 hg1⟩)
                clear hr1 hg1
                have HB := hide (show Rw _ b o n g (rot t s m e) ∧ w.grownBy _ (some b) ∧ Sub (rot t s m e) (rot t s m e) x mid ∧ Srt (ltE g) (rot t s m e) x mid from ⟨HA.out.1, HA.out.2, Sub.refl _ _ _, HK.out.1.left.srt (by omega)⟩)
                go_wp2_with fail
                refine (HIH.out _ mid e y _ (by omega) u5 u6 h3 HB.out.1 (HB.out.2.2.1.into (by omega) ((rot_sub (by omega) (by omega)).into (by omega) HI.out)) (sym_two HK.out.1 HB.out.2.2.1)).mono ?_
                rintro en w3 ⟨t2, ⟨rfl, hr1, hg1⟩, hs1, hq1⟩
                have HF := hide (show MrgRes w b o n g t x y (.returned (.tuple #[])) w3 from ⟨t2, ⟨rfl, hr1, gtrans_ HB.out.2.1 hg1⟩, sym_fin HW.out HI.out h3 HK.out.1 HB.out.2.2.1 HB.out.2.2.2 hs1 hq1⟩)
                clear hr1 hg1 hs1 hq1
                go_wp2
                go_end0
                exact HF.out
              · have u1 : s < m := by omega
                have u2 : m < e := by omega
                have u3 : ¬ x < s := by omega
                have u4 : s < mid := by omega
                have u5 : mid < e := by omega
                have u6 : ¬ e < y := by omega
                go_wp2_with fail
                refine (rotate_any g t b o n c s m e _ _ HK.out.2.1 u1 u2 (by omega) hn).mono ?_
                rintro en w1 ⟨rfl, hr1, hg1⟩
                have HA := hide (show Rw w1 b o n g (rot t s m e) ∧ w.grownBy w1 (some b) from ⟨hr1, gtrans_ HK.out.2.2 hg1⟩)
                clear hr1 hg1
                have HB := hide (show Rw _ b o n g (rot t s m e) ∧ w.grownBy _ (some b) ∧ Sub (rot t s m e) (rot t s m e) x mid ∧ Srt (ltE g) (rot t s m e) x mid from ⟨HA.out.1, HA.out.2, Sub.refl _ _ _, HK.out.1.left.srt (by omega)⟩)
                have HF := hide (show MrgRes w b o n g t x y (.returned (.tuple #[])) _ from ⟨_, ⟨rfl, HB.out.1, HB.out.2.1⟩, sym_fin HW.out HI.out h3 HK.out.1 HB.out.2.2.1 HB.out.2.2.2 (Sub.refl _ _ _) ((sym_two HK.out.1 HB.out.2.2.1).srt (by omega))⟩)
                go_wp2
                go_end0
                exact HF.out
          · by_cases v2 : x < s
            · by_cases v3 : e < y
              · have u1 : s < m := by omega
                have u2 : ¬ m < e := by omega
                have u3 : x < s := by omega
                have u4 : ¬ s < mid := by omega
                have u5 : mid < e := by omega
                have u6 : e < y := by omega
                have HA := hide (show Rw wr b o n g (rot t s m e) ∧ w.grownBy wr (some b) from ⟨by rw [rot_none (by omega) (by omega) (by omega)]; exact HK.out.2.1, HK.out.2.2⟩)
                have HB := hide (show Rw _ b o n g (rot t s m e) ∧ w.grownBy _ (some b) ∧ Sub (rot t s m e) (rot t s m e) x mid ∧ Srt (ltE g) (rot t s m e) x mid from ⟨HA.out.1, HA.out.2, Sub.refl _ _ _, HK.out.1.left.srt (by omega)⟩)
                go_wp2_with fail
                refine (HIH.out _ mid e y _ (by omega) u5 u6 h3 HB.out.1 (HB.out.2.2.1.into (by omega) ((rot_sub (by omega) (by omega)).into (by omega) HI.out)) (sym_two HK.out.1 HB.out.2.2.1)).mono ?_
                rintro en w3 ⟨t2, ⟨rfl, hr1, hg1⟩, hs1, hq1⟩
                have HF := hide (show MrgRes w b o n g t x y (.returned (.tuple #[])) w3 from ⟨t2, ⟨rfl, hr1, gtrans_ HB.out.2.1 hg1⟩, sym_fin HW.out HI.out h3 HK.out.1 HB.out.2.2.1 HB.out.2.2.2 hs1 hq1⟩)
                clear hr1 hg1 hs1 hq1
                go_wp2
                go_end0
                exact HF.out
              · have u1 : s < m := by omega
                have u2 : ¬ m < e := by omega
                have u3 : x < s := by omega
                have u4 : ¬ s < mid := by omega
                have u5 : mid < e := by omega
                have u6 : ¬ e < y := by omega
                have HA := hide (show Rw wr b o n g (rot t s m e) ∧ w.grownBy wr (some b) from ⟨by rw [rot_none (by omega) (by omega) (by omega)]; exact HK.out.2.1, HK.out.2.2⟩)
                have HB := hide (show Rw _ b o n g (rot t s m e) ∧ w.grownBy _ (some b) ∧ Sub (rot t s m e) (rot t s m e) x mid ∧ Srt (ltE g) (rot t s m e) x mid from ⟨HA.out.1, HA.out.2, Sub.refl _ _ _, HK.out.1.left.srt (by omega)⟩)
                have HF := hide (show MrgRes w b o n g t x y (.returned (.tuple #[])) _ from ⟨_, ⟨rfl, HB.out.1, HB.out.2.1⟩, sym_fin HW.out HI.out h3 HK.out.1 HB.out.2.2.1 HB.out.2.2.2 (Sub.refl _ _ _) ((sym_two HK.out.1 HB.out.2.2.1).srt (by omega))⟩)
                go_wp2
                go_end0
                exact HF.out
            · by_cases v3 : e < y
              · have u1 : s < m := by omega
                have u2 : ¬ m < e := by omega
                have u3 : ¬ x < s := by omega
                have u4 : ¬ s < mid := by omega
                have u5 : mid < e := by omega
                have u6 : e < y := by omega
                have HA := hide (show Rw wr b o n g (rot t s m e) ∧ w.grownBy wr (some b) from ⟨by rw [rot_none (by omega) (by omega) (by omega)]; exact HK.out.2.1, HK.out.2.2⟩)
                have HB := hide (show Rw _ b o n g (rot t s m e) ∧ w.grownBy _ (some b) ∧ Sub (rot t s m e) (rot t s m e) x mid ∧ Srt (ltE g) (rot t s m e) x mid from ⟨HA.out.1, HA.out.2, Sub.refl _ _ _, HK.out.1.left.srt (by omega)⟩)
                go_wp2_with fail
                refine (HIH.out _ mid e y _ (by omega) u5 u6 h3 HB.out.1 (HB.out.2.2.1.into (by omega) ((rot_sub (by omega) (by omega)).into (by omega) HI.out)) (sym_two HK.out.1 HB.out.2.2.1)).mono ?_
                rintro en w3 ⟨t2, ⟨rfl, hr1, hg1⟩, hs1, hq1⟩
                have HF := hide (show MrgRes w b o n g t x y (.returned (.tuple #[])) w3 from ⟨t2, ⟨rfl, hr1, gtrans_ HB.out.2.1 hg1⟩, sym_fin HW.out HI.out h3 HK.out.1 HB.out.2.2.1 HB.out.2.2.2 hs1 hq1⟩)
                clear hr1 hg1 hs1 hq1
                go_wp2
                go_end0
                exact HF.out
              · have u1 : s < m := by omega
                have u2 : ¬ m < e := by omega
                have u3 : ¬ x < s := by omega
                have u4 : ¬ s < mid := by omega
                have u5 : mid < e := by omega
                have u6 : ¬ e < y := by omega
                have HA := hide (show Rw wr b o n g (rot t s m e) ∧ w.grownBy wr (some b) from ⟨by rw [rot_none (by omega) (by omega) (by omega)]; exact HK.out.2.1, HK.out.2.2⟩)
                have HB := hide (show Rw _ b o n g (rot t s m e) ∧ w.grownBy _ (some b) ∧ Sub (rot t s m e) (rot t s m e) x mid ∧ Srt (ltE g) (rot t s m e) x mid from ⟨HA.out.1, HA.out.2, Sub.refl _ _ _, HK.out.1.left.srt (by omega)⟩)
                have HF := hide (show MrgRes w b o n g t x y (.returned (.tuple #[])) _ from ⟨_, ⟨rfl, HB.out.1, HB.out.2.1⟩, sym_fin HW.out HI.out h3 HK.out.1 HB.out.2.2.1 HB.out.2.2.2 (Sub.refl _ _ _) ((sym_two HK.out.1 HB.out.2.2.1).srt (by omega))⟩)
                go_wp2
                go_end0
                exact HF.out
        · by_cases v1 : s < mid
          · by_cases v2 : x < s
            · by_cases v3 : e < y
              · have u1 : ¬ s < m := by omega
                have u2 : m < e := by omega
                have u3 : x < s := by omega
                have u4 : s < mid := by omega
                have u5 : ¬ mid < e := by omega
                have u6 : e < y := by omega
                have HA := hide (show Rw wr b o n g (rot t s m e) ∧ w.grownBy wr (some b) from ⟨by rw [rot_none (by omega) (by omega) (by omega)]; exact HK.out.2.1, HK.out.2.2⟩)
                go_wp2_with fail
                refine (HIH.out (rot t s m e) x s mid _ (by omega) u3 u4 (by omega) HA.out.1 ((rot_sub (by omega) (by omega)).into (by omega) HI.out) HK.out.1.left).mono ?_
                rintro en w2 ⟨t1, ⟨rfl, hr1, hg1⟩, hs1, hq1⟩
                have HB := hide (show Rw w2 b o n g t1 ∧ w.grownBy w2 (some b) ∧ Sub (rot t s m e) t1 x mid ∧ Srt (ltE g) t1 x mid from ⟨hr1, gtrans_ HA.out.2 hg1, hs1, hq1⟩)
                clear hr1 hg1 hs1 hq1
                have HF := hide (show MrgRes w b o n g t x y (.returned (.tuple #[])) _ from ⟨_, ⟨rfl, HB.out.1, HB.out.2.1⟩, sym_fin HW.out HI.out h3 HK.out.1 HB.out.2.2.1 HB.out.2.2.2 (Sub.refl _ _ _) ((sym_two HK.out.1 HB.out.2.2.1).srt (by omega))⟩)
                go_wp2
                go_end0
                exact HF.out
              · have u1 : ¬ s < m := by omega
                have u2 : m < e := by omega
                have u3 : x < s := by omega
                have u4 : s < mid := by omega
                have u5 : ¬ mid < e := by omega
                have u6 : ¬ e < y := by omega
                have HA := hide (show Rw wr b o n g (rot t s m e) ∧ w.grownBy wr (some b) from ⟨by rw [rot_none (by omega) (by omega) (by omega)]; exact HK.out.2.1, HK.out.2.2⟩)
                go_wp2_with fail
                refine (HIH.out (rot t s m e) x s mid _ (by omega) u3 u4 (by omega) HA.out.1 ((rot_sub (by omega) (by omega)).into (by omega) HI.out) HK.out.1.left).mono ?_
                rintro en w2 ⟨t1, ⟨rfl, hr1, hg1⟩, hs1, hq1⟩
                have HB := hide (show Rw w2 b o n g t1 ∧ w.grownBy w2 (some b) ∧ Sub (rot t s m e) t1 x mid ∧ Srt (ltE g) t1 x mid from ⟨hr1, gtrans_ HA.out.2 hg1, hs1, hq1⟩)
                clear hr1 hg1 hs1 hq1
                have HF := hide (show MrgRes w b o n g t x y (.returned (.tuple #[])) _ from ⟨_, ⟨rfl, HB.out.1, HB.out.2.1⟩, sym_fin HW.out HI.out h3 HK.out.1 HB.out.2.2.1 HB.out.2.2.2 (Sub.refl _ _ _) ((sym_two HK.out.1 HB.out.2.2.1).srt (by omega))⟩)
                go_wp2
                go_end0
                exact HF.out
            · by_cases v3 : e < y
              · have u1 : ¬ s < m := by omega
                have u2 : m < e := by omega
                have u3 : ¬ x < s := by omega
                have u4 : s < mid := by omega
                have u5 : ¬ mid < e := by omega
                have u6 : e < y := by omega
                have HA := hide (show Rw wr b o n g (rot t s m e) ∧ w.grownBy wr (some b) from ⟨by rw [rot_none (by omega) (by omega) (by omega)]; exact HK.out.2.1, HK.out.2.2⟩)
                have HB := hide (show Rw _ b o n g (rot t s m e) ∧ w.grownBy _ (some b) ∧ Sub (rot t s m e) (rot t s m e) x mid ∧ Srt (ltE g) (rot t s m e) x mid from ⟨HA.out.1, HA.out.2, Sub.refl _ _ _, HK.out.1.left.srt (by omega)⟩)
                have HF := hide (show MrgRes w b o n g t x y (.returned (.tuple #[])) _ from ⟨_, ⟨rfl, HB.out.1, HB.out.2.1⟩, sym_fin HW.out HI.out h3 HK.out.1 HB.out.2.2.1 HB.out.2.2.2 (Sub.refl _ _ _) ((sym_two HK.out.1 HB.out.2.2.1).srt (by omega))⟩)
                go_wp2
                go_end0
                exact HF.out
              · have u1 : ¬ s < m := by omega
                have u2 : m < e := by omega
                have u3 : ¬ x < s := by omega
                have u4 : s < mid := by omega
                have u5 : ¬ mid < e := by omega
                have u6 : ¬ e < y := by omega
                have HA := hide (show Rw wr b o n g (rot t s m e) ∧ w.grownBy wr (some b) from ⟨by rw [rot_none (by omega) (by omega) (by omega)]; exact HK.out.2.1, HK.out.2.2⟩)
                have HB := hide (show Rw _ b o n g (rot t s m e) ∧ w.grownBy _ (some b) ∧ Sub (rot t s m e) (rot t s m e) x mid ∧ Srt (ltE g) (rot t s m e) x mid from ⟨HA.out.1, HA.out.2, Sub.refl _ _ _, HK.out.1.left.srt (by omega)⟩)
                have HF := hide (show MrgRes w b o n g t x y (.returned (.tuple #[])) _ from ⟨_, ⟨rfl, HB.out.1, HB.out.2.1⟩, sym_fin HW.out HI.out h3 HK.out.1 HB.out.2.2.1 HB.out.2.2.2 (Sub.refl _ _ _) ((sym_two HK.out.1 HB.out.2.2.1).srt (by omega))⟩)
                go_wp2
                go_end0
                exact HF.out
          · by_cases v2 : x < s
            · by_cases v3 : e < y
              · have u1 : ¬ s < m := by omega
                have u2 : ¬ m < e := by omega
                have u3 : x < s := by omega
                have u4 : ¬ s < mid := by omega
                have u5 : ¬ mid < e := by omega
                have u6 : e < y := by omega
                have HA := hide (show Rw wr b o n g (rot t s m e) ∧ w.grownBy wr (some b) from ⟨by rw [rot_none (by omega) (by omega) (by omega)]; exact HK.out.2.1, HK.out.2.2⟩)
                have HB := hide (show Rw _ b o n g (rot t s m e) ∧ w.grownBy _ (some b) ∧ Sub (rot t s m e) (rot t s m e) x mid ∧ Srt (ltE g) (rot t s m e) x mid from ⟨HA.out.1, HA.out.2, Sub.refl _ _ _, HK.out.1.left.srt (by omega)⟩)
                have HF := hide (show MrgRes w b o n g t x y (.returned (.tuple #[])) _ from ⟨_, ⟨rfl, HB.out.1, HB.out.2.1⟩, sym_fin HW.out HI.out h3 HK.out.1 HB.out.2.2.1 HB.out.2.2.2 (Sub.refl _ _ _) ((sym_two HK.out.1 HB.out.2.2.1).srt (by omega))⟩)
                go_wp2
                go_end0
                exact HF.out
              · have u1 : ¬ s < m := by omega
                have u2 : ¬ m < e := by omega
                have u3 : x < s := by omega
                have u4 : ¬ s < mid := by omega
                have u5 : ¬ mid < e := by omega
                have u6 : ¬ e < y := by omega
                have HA := hide (show Rw wr b o n g (rot t s m e) ∧ w.grownBy wr (some b) from ⟨by rw [rot_none (by omega) (by omega) (by omega)]; exact HK.out.2.1, HK.out.2.2⟩)
                have HB := hide (show Rw _ b o n g (rot t s m e) ∧ w.grownBy _ (some b) ∧ Sub (rot t s m e) (rot t s m e) x mid ∧ Srt (ltE g) (rot t s m e) x mid from ⟨HA.out.1, HA.out.2, Sub.refl _ _ _, HK.out.1.left.srt (by omega)⟩)
                have HF := hide (show MrgRes w b o n g t x y (.returned (.tuple #[])) _ from ⟨_, ⟨rfl, HB.out.1, HB.out.2.1⟩, sym_fin HW.out HI.out h3 HK.out.1 HB.out.2.2.1 HB.out.2.2.2 (Sub.refl _ _ _) ((sym_two HK.out.1 HB.out.2.2.1).srt (by omega))⟩)
                go_wp2
                go_end0
                exact HF.out
            · by_cases v3 : e < y
              · have u1 : ¬ s < m := by omega
                have u2 : ¬ m < e := by omega
                have u3 : ¬ x < s := by omega
                have u4 : ¬ s < mid := by omega
                have u5 : ¬ mid < e := by omega
                have u6 : e < y := by omega
                have HA := hide (show Rw wr b o n g (rot t s m e) ∧ w.grownBy wr (some b) from ⟨by rw [rot_none (by omega) (by omega) (by omega)]; exact HK.out.2.1, HK.out.2.2⟩)
                have HB := hide (show Rw _ b o n g (rot t s m e) ∧ w.grownBy _ (some b) ∧ Sub (rot t s m e) (rot t s m e) x mid ∧ Srt (ltE g) (rot t s m e) x mid from ⟨HA.out.1, HA.out.2, Sub.refl _ _ _, HK.out.1.left.srt (by omega)⟩)
                have HF := hide (show MrgRes w b o n g t x y (.returned (.tuple #[])) _ from ⟨_, ⟨rfl, HB.out.1, HB.out.2.1⟩, sym_fin HW.out HI.out h3 HK.out.1 HB.out.2.2.1 HB.out.2.2.2 (Sub.refl _ _ _) ((sym_two HK.out.1 HB.out.2.2.1).srt (by omega))⟩)
                go_wp2
                go_end0
                exact HF.out
              · have u1 : ¬ s < m := by omega
                have u2 : ¬ m < e := by omega
                have u3 : ¬ x < s := by omega
                have u4 : ¬ s < mid := by omega
                have u5 : ¬ mid < e := by omega
                have u6 : ¬ e < y := by omega
                have HA := hide (show Rw wr b o n g (rot t s m e) ∧ w.grownBy wr (some b) from ⟨by rw [rot_none (by omega) (by omega) (by omega)]; exact HK.out.2.1, HK.out.2.2⟩)
                have HB := hide (show Rw _ b o n g (rot t s m e) ∧ w.grownBy _ (some b) ∧ Sub (rot t s m e) (rot t s m e) x mid ∧ Srt (ltE g) (rot t s m e) x mid from ⟨HA.out.1, HA.out.2, Sub.refl _ _ _, HK.out.1.left.srt (by omega)⟩)
                have HF := hide (show MrgRes w b o n g t x y (.returned (.tuple #[])) _ from ⟨_, ⟨rfl, HB.out.1, HB.out.2.1⟩, sym_fin HW.out HI.out h3 HK.out.1 HB.out.2.2.1 HB.out.2.2.2 (Sub.refl _ _ _) ((sym_two HK.out.1 HB.out.2.2.1).srt (by omega))⟩)
                go_wp2
                go_end0
                exact HF.out
end Go.Proofs.YtgegialfhkgggaaGreatDoor
namespace Go.Proofs.YtgegialfhkgggaaGreatDoor
open Go.RowKit Stab
attribute [local go_sem ↓] Go.wp_at_zero Go.wp_at_succ

theorem symMerge_any (g : Nat → Ed) (b o n c : Nat) (hn : n ≤ 1000000) (W : Weak n (ltE g)) : ∀ (d : Nat) (t : Nat → Nat) (x m y : Nat) (w : World), y - x ≤ d → x < m → m < y → y ≤ n → Rw w b o n g t → Into t n → Two (ltE g) t x m y →
    Calls Tryz.prog 115 #[.slice (some ⟨b, o, none⟩) n c, .int .i64 x, .int .i64 m, .int .i64 y, .func (.func 94) #[] #[]] w (MrgRes w b o n g t x y) := by
  intro d
  induction d with
  | zero => intro t x m y w h h1 h2; omega
  | succ d ih =>
    intro t x m y w h h1 h2 h3 hR hI hT
    by_cases e1 : m = x + 1
    · exact symLeft_any g t b o n c x m y w hR e1 h2 h3 hn W hI hT
    · by_cases e2 : y = m + 1
      · exact symRight_any g t b o n c x m y w hR e2 (by omega) h3 hn W hI hT
      · by_cases e3 : (x + y) / 2 < m
        · exact symGen_any g t b o n c x m y d _ _ _ w hR (by omega) (by omega) h3 hn W hI hT rfl (Or.inl ⟨e3, rfl, rfl⟩) h ih
        · exact symGen_any g t b o n c x m y d _ _ _ w hR (by omega) (by omega) h3 hn W hI hT rfl (Or.inr ⟨by omega, rfl, rfl⟩) h ih

/-- What the sort leaves. -/
def SortRes (w : World) (b o n : Nat) (g : Nat → Ed) (e : Ending) (w' : World) : Prop := ∃ t, SrtRes w b o n g t e w' ∧ Sorted (ltE g) t n
/-- Blocks of 20 are in order up to a. -/
def SIns (w wr : World) (b o n : Nat) (g : Nat → Ed) (m0 a : Nat) : Prop := ∃ t, Rw wr b o n g t ∧ w.grownBy wr (some b) ∧ Upto (ltE g) t 20 n m0 ∧ (∀ k, a ≤ k → t k = k) ∧ Into t n ∧ a = m0 * 20
theorem SIns.step {w : World} {b o n m0 a y : Nat} {g : Nat → Ed} {t t' : Nat → Nat} {w1 : World} (hrw : Rw w1 b o n g t') (hgr : w.grownBy w1 (some b)) (hu : Upto (ltE g) t 20 n m0) (hid : ∀ k, a ≤ k → t k = k) (hin : Into t n) (ha : a = m0 * 20) (hs : Sub t t' a y) (hq : Srt (ltE g) t' a y) (hy : y = min (a + 20) n) :
    SIns w w1 b o n g (m0 + 1) (a + 20) := by
  refine ⟨t', hrw, hgr, ?_, fun k hk => by rw [hs.out k (by omega)]; exact hid k (by omega), hs.into (by omega) hin, by omega⟩
  subst ha
  refine upto_snoc hu hs ?_
  have e : min ((m0 + 1) * 20) n = y := by omega
  rw [e]
  refine ⟨hq, fun i h1 h2 => ?_⟩
  obtain ⟨k', p1, p2, e'⟩ := hs.ins i h1 h2
  rw [e', hid k' p1]; exact ⟨p1, p2⟩
/-- Blocks of bs are in order. -/
def SFrom (w wr : World) (b o n : Nat) (g : Nat → Ed) (bs : Nat) : Prop := ∃ t, Rw wr b o n g t ∧ w.grownBy wr (some b) ∧ From (ltE g) t bs n 0 ∧ Into t n
/-- Blocks of bs are merged to blocks of twice the size, up to a. -/
def SMrg (w wr : World) (b o n : Nat) (g : Nat → Ed) (bs m0 a : Nat) : Prop := ∃ t, Rw wr b o n g t ∧ w.grownBy wr (some b) ∧ Upto (ltE g) t (2 * bs) n m0 ∧ From (ltE g) t bs n (2 * m0) ∧ Into t n ∧ a = m0 * (2 * bs)
theorem smrg_two {n bs m0 a : Nat} {g : Nat → Ed} {t : Nat → Nat} (hf : From (ltE g) t bs n (2 * m0)) (ha : a = m0 * (2 * bs)) (hlt : a + bs < n) : Run (ltE g) t a (a + bs) ∧ Run (ltE g) t (a + bs) (min (a + 2 * bs) n) := by
  have h := from_two hf
  rw [← ha] at h
  rw [Nat.min_eq_left (by omega)] at h
  exact h
theorem SMrg.step {w w1 : World} {b o n bs m0 a y : Nat} {g : Nat → Ed} {t t' : Nat → Nat} (hrw : Rw w1 b o n g t') (hgr : w.grownBy w1 (some b)) (hu : Upto (ltE g) t (2 * bs) n m0) (hf : From (ltE g) t bs n (2 * m0)) (hin : Into t n) (ha : a = m0 * (2 * bs)) (hs : Sub t t' a y) (hr : Run (ltE g) t' a y) (hy : y = min (a + 2 * bs) n) :
    SMrg w w1 b o n g bs (m0 + 1) (a + 2 * bs) := by
  have e : (m0 + 1) * (2 * bs) = a + 2 * bs := by rw [Nat.succ_mul, ha]
  refine ⟨t', hrw, hgr, ?_, ?_, hs.into (by omega) hin, e.symm⟩
  · refine upto_snoc (b := y) hu (by rw [← ha]; exact hs) ?_
    rw [e, ← hy, ← ha]; exact hr
  · exact from_step hf (by rw [← ha]; exact hs) (by rw [e]; omega)

set_option maxHeartbeats 8000000 in
set_option maxRecDepth 100000 in
theorem stable_any (g : Nat → Ed) (b o n c : Nat) (hn : n ≤ 1000000) (W : Weak n (ltE g)) (w : World) (hR : Rw w b o n g (fun k => k)) :
    Calls Tryz.prog 106 #[.slice (some ⟨b, o, none⟩) n c, .int .i64 n, .func (.func 94) #[] #[]] w (SortRes w b o n g) := by
  have HW := hide W
  have HR := hide hR
  clear W hR
  go_enter Tryz.func106, Tryz.ntmps106
  go_wp2
  go_loopw [7, 8] (fun av bv wr => ∃ m0 a b2 : Nat, av = .int .i64 a ∧ bv = .int .i64 b2 ∧ b2 = a + 20 ∧ a ≤ n ∧ Hid (SIns w wr b o n g m0 a)) (fun av _ _ => n - (intOf av).toNat)
  case atStart => exact ⟨0, 0, 20, rfl, rfl, rfl, Nat.zero_le _, hide ⟨fun k => k, HR.out, World.grownBy.refl _ _, fun m hm => absurd hm (Nat.not_lt_zero _), fun _ _ => rfl, fun k hk => hk, by omega⟩⟩
  case round =>
    obtain ⟨m0, a, b2, rfl, rfl, hb2, han, hcr⟩ := hrel
    obtain ⟨t, hrw, hgr, hu, hid, hin, ha⟩ := hcr.out
    have HB2 := hide hb2
    have HRw := hide hrw
    have HIn := hide hin
    have HId := hide hid
    by_cases hlt : b2 ≤ n
    · have HStep := hide (fun (w1 : World) (t' : Nat → Nat) (h1 : Rw w1 b o n g t') (h2 : w.grownBy w1 (some b)) (h3 : Sub t t' a b2) (h4 : Srt (ltE g) t' a b2) => SIns.step h1 h2 hu hid hin ha h3 h4 (by omega))
      have HG := hide hgr
      have hab : a ≤ b2 := by omega
      have hm : n - b2 < n - a := by omega
      clear hcr hrw hgr hu hid hin ha hb2
      go_wp2_with fail
      refine (insertion_any g t b o n c a b2 _ HRw.out hab hlt hn HW.out HIn.out (fun p q h1 h2 h3 => by rw [HId.out p h1, HId.out q (by omega)]; exact h2)).mono ?_
      rintro en w1 ⟨t', ⟨rfl, h1, h2⟩, h3, h4⟩
      have HS := hide (HStep.out w1 t' h1 (gtrans_ HG.out h2) h3 h4)
      clear h1 h2 h3 h4 HStep
      go_wp2
      go_roundw
      case rel => exact ⟨m0 + 1, b2, b2 + 20, rfl, by go_num, rfl, hlt, by have := HB2.out; rw [this] at *; exact HS⟩
      case measure => simp [intOf]; omega
    · have HStep := hide (fun (w1 : World) (t' : Nat → Nat) (h1 : Rw w1 b o n g t') (h2 : w.grownBy w1 (some b)) (h3 : Sub t t' a n) (h4 : Srt (ltE g) t' a n) => SIns.step h1 h2 hu hid hin ha h3 h4 (by omega))
      have HG := hide hgr
      have hm0 : n ≤ (m0 + 1) * 20 := by omega
      have HM := hide hm0
      clear hcr hrw hgr hu hid hin ha hb2 hm0
      go_wp2_with fail
      refine (insertion_any g t b o n c a n _ HRw.out han (Nat.le_refl _) hn HW.out HIn.out (fun p q h1 h2 h3 => by rw [HId.out p h1, HId.out q (by omega)]; exact h2)).mono ?_
      rintro en w1 ⟨t', ⟨rfl, h1, h2⟩, h3, h4⟩
      have HS : Hid (SFrom w w1 b o n g 20) := hide (by
        obtain ⟨t2, q1, q2, q3, _, q5, _⟩ := HStep.out w1 t' h1 (gtrans_ HG.out h2) h3 h4
        exact ⟨t2, q1, q2, upto_all q3 HM.out, q5⟩)
      clear h1 h2 h3 h4 HStep HG HM HRw HIn HId HB2 hlt han
      go_wp2
      go_loopw [6] (fun bv wr => ∃ bs : Nat, bv = .int .i64 bs ∧ 20 ≤ bs ∧ bs ≤ 2 * n + 20 ∧ Hid (SFrom w wr b o n g bs)) (fun bv _ => n - (intOf bv).toNat)
      case atStart => exact ⟨20, rfl, Nat.le_refl _, by omega, HS⟩
      case round =>
        obtain ⟨bs, rfl, hbs, hbs2, hcr⟩ := hrel
        by_cases hlt : bs < n
        · have HF := hcr
          clear hcr HS
          obtain ⟨wo, hwo⟩ : ∃ wo : World, wo = wr := ⟨_, rfl⟩
          subst hwo
          obtain ⟨B, hB⟩ : ∃ B, B = 2 * bs := ⟨_, rfl⟩
          have s1 : 2 * (bs : Int) = (B : Int) := by omega
          have s3 : (bs : Int) * 2 = (B : Int) := by omega
          have hBn : B ≤ 4000000 := by omega
          have hB2 : 2 * n ≤ B ∨ B < 2 * n := by omega
          have hbB : 2 * bs = B := hB.symm
          have HB := hide hB
          clear hB hbB
          go_wp2_with fail
          go_loopw [7, 8] (fun av bv wr => ∃ m0 a b2 : Nat, av = .int .i64 a ∧ bv = .int .i64 b2 ∧ b2 = a + B ∧ a ≤ n ∧ Hid (SMrg w wr b o n g bs m0 a)) (fun av _ _ => n - (intOf av).toNat)
          case atStart => exact ⟨0, 0, B, rfl, rfl, by omega, Nat.zero_le _, hide (by
            obtain ⟨t, q1, q2, q3, q4⟩ := HF.out
            exact ⟨t, q1, q2, fun m hm => absurd hm (Nat.not_lt_zero _), q3, q4, by omega⟩)⟩
          case round =>
            obtain ⟨m0, a, b2, rfl, rfl, hb2, han, hcr⟩ := hrel
            obtain ⟨t, hrw, hgr, hu, hf, hin, ha⟩ := hcr.out
            obtain ⟨m, hm⟩ : ∃ m, m = a + bs := ⟨_, rfl⟩
            have s2 : (a : Int) + (bs : Int) = (m : Int) := by omega
            have HRw := hide hrw
            have HIn := hide hin
            have HB2 := hide hb2
            have HM := hide hm
            have hBe := HB.out
            by_cases hle : b2 ≤ n
            · have h2 := smrg_two hf ha (show a + bs < n by omega)
              rw [Nat.min_eq_left (show a + 2 * bs ≤ n by omega)] at h2
              rw [show a + 2 * bs = b2 by omega, show a + bs = m from hm.symm] at h2
              have HT := hide h2
              have HStep := hide (fun (w1 : World) (t' : Nat → Nat) (h1 : Rw w1 b o n g t') (h2' : w.grownBy w1 (some b)) (h3 : Sub t t' a b2) (h4 : Srt (ltE g) t' a b2) => SMrg.step h1 h2' hu hf hin ha h3 (h2.1.merged h2.2 ⟨by omega, by omega⟩ h3 h4) (by omega))
              have HG := hide hgr
              have u1 : a < m := by omega
              have u2 : m < b2 := by omega
              have u3 : n - b2 < n - a := by omega
              clear hcr hrw hgr hu hf hin ha hb2 hm h2 hBe
              go_wp2_with fail
              refine (symMerge_any g b o n c hn HW.out n t a m b2 _ (by omega) u1 u2 hle HRw.out HIn.out (HT.out.1.two HT.out.2)).mono ?_
              rintro en w1 ⟨t', ⟨rfl, h1, h2⟩, h3, h4⟩
              have HS := hide (HStep.out w1 t' h1 (gtrans_ HG.out h2) h3 h4)
              clear h1 h2 h3 h4 HStep
              go_wp2
              go_roundw
              case rel => exact ⟨m0 + 1, b2, b2 + B, rfl, by go_num, rfl, hle, by have e1 := HB2.out; have e2 := HB.out; rw [e2] at e1; rw [← e1] at HS; exact HS⟩
              case measure => simp [intOf]; omega
            · by_cases hmn : m < n
              · have h2 := smrg_two hf ha (show a + bs < n by omega)
                rw [Nat.min_eq_right (show n ≤ a + 2 * bs by omega)] at h2
                rw [show a + bs = m from hm.symm] at h2
                have HT := hide h2
                have HStep := hide (fun (w1 : World) (t' : Nat → Nat) (h1 : Rw w1 b o n g t') (h2' : w.grownBy w1 (some b)) (h3 : Sub t t' a n) (h4 : Srt (ltE g) t' a n) => SMrg.step h1 h2' hu hf hin ha h3 (h2.1.merged h2.2 ⟨by omega, by omega⟩ h3 h4) (by omega))
                have HG := hide hgr
                have u1 : a < m := by omega
                have HE := hide (show n ≤ (m0 + 1) * (2 * bs) by rw [Nat.succ_mul, ← ha]; omega)
                clear hcr hrw hgr hu hf hin ha hb2 hm h2 hBe
                go_wp2_with fail
                refine (symMerge_any g b o n c hn HW.out n t a m n _ (by omega) u1 hmn (Nat.le_refl _) HRw.out HIn.out (HT.out.1.two HT.out.2)).mono ?_
                rintro en w1 ⟨t', ⟨rfl, h1, h2⟩, h3, h4⟩
                have HS : Hid (SFrom w w1 b o n g B) := hide (by
                  obtain ⟨t2, q1, q2, q3, q4, q5, _⟩ := HStep.out w1 t' h1 (gtrans_ HG.out h2) h3 h4
                  rw [HB.out]
                  exact ⟨t2, q1, q2, upto_all q3 HE.out, q5⟩)
                have hBb : bs < B := by have := HB.out; omega
                have hBn2 : B ≤ 2 * n + 20 := by have := HB.out; omega
                clear h1 h2 h3 h4 HStep
                go_wp2
                go_roundw
                case rel => exact ⟨B, rfl, by omega, hBn2, HS⟩
                case measure => simp [intOf]; omega
              · have HS : Hid (SFrom w wr b o n g B) := hide (by
                  have hr : Run (ltE g) t a n := by
                    have h := hf (2 * m0) (Nat.le_refl _)
                    have e0 : (2 * m0) * bs = a := by rw [ha, Nat.mul_comm 2 m0, Nat.mul_assoc]
                    have e1 : (2 * m0 + 1) * bs = m := by rw [Nat.succ_mul, e0, hm]
                    rw [e0, e1, Nat.min_eq_right (by omega)] at h
                    exact h
                  obtain ⟨t2, q1, q2, q3, q4, q5, _⟩ := SMrg.step hrw hgr hu hf hin ha (Sub.refl t a n) hr (by omega)
                  rw [HB.out]
                  exact ⟨t2, q1, q2, upto_all q3 (by rw [Nat.succ_mul, ← ha]; omega), q5⟩)
                have hBb : bs < B := by have := HB.out; omega
                have hBn2 : B ≤ 2 * n + 20 := by have := HB.out; omega
                clear hcr hrw hgr hu hf hin ha hb2 hm hBe
                go_wp2
                go_roundw
                case rel => exact ⟨B, rfl, by omega, hBn2, HS⟩
                case measure => simp [intOf]; omega
        · obtain ⟨t, q1, q2, q3, q4⟩ := hcr.out
          have HFin : Hid (SortRes w b o n g (.returned (.tuple #[])) wr) := hide ⟨t, ⟨rfl, q1, q2⟩, sorted_of q3 (by omega)⟩
          clear hcr q1 q2 q3 q4 HS
          go_wp2
          go_end0
          exact HFin.out

theorem sortStable_any (g : Nat → Ed) (b o n c : Nat) (hn : n ≤ 1000000) (W : Weak n (ltE g)) (w : World) (hR : Rw w b o n g (fun k => k)) :
    Calls Tryz.prog 93 #[.slice (some ⟨b, o, none⟩) n c, .func (.func 94) #[] #[]] w (SortRes w b o n g) := by
  go_enter Tryz.func93, Tryz.ntmps93
  go_wp2_with fail
  refine (stable_any g b o n c hn W _ hR).mono ?_
  rintro en w1 ⟨t, ⟨rfl, h1, h2⟩, h3⟩
  have HF : Hid (SortRes w b o n g (.returned (.tuple #[])) w1) := hide ⟨t, ⟨rfl, h1, h2⟩, h3⟩
  clear h1 h2 h3
  go_wp2
  go_end0
  exact HF.out
theorem sort_any (g : Nat → Ed) (b o n c : Nat) (hn : n ≤ 1000000) (W : Weak n (ltE g)) (w : World) (hR : Rw w b o n g (fun k => k)) :
    Calls Tryz.prog 74 #[.slice (some ⟨b, o, none⟩) n c] w (SortRes w b o n g) := by
  go_enter Tryz.func74, Tryz.ntmps74
  go_wp2_with fail
  refine (sortStable_any g b o n c hn W _ hR).mono ?_
  rintro en w1 ⟨t, ⟨rfl, h1, h2⟩, h3⟩
  have HF : Hid (SortRes w b o n g (.returned (.tuple #[])) w1) := hide ⟨t, ⟨rfl, h1, h2⟩, h3⟩
  clear h1 h2 h3
  go_wp2
  go_end0
  exact HF.out
end Go.Proofs.YtgegialfhkgggaaGreatDoor
