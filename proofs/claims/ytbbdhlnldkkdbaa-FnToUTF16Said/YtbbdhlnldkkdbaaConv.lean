/- Walk: NewContentConverter: where the lines of a text begin. No condition but its size. -/
import Derived.Test.YtbbdhlnldkkdbaaTexts
import Derived.Test.YtbbdhlnldkkdbaaBaseC
import Derived.Deep.AppendLies
import Derived.Laws.IdiomStrings
namespace Go.Proofs.Ytbbdhlnldkkdbaa
open Go.RowKit
attribute [local go_sem ↓] Go.wp_at_zero Go.wp_at_succ

/-- A line begins at byte k. -/
def isSt (s : ByteArray) (k : Nat) : Bool := k == 0 || bt s (k - 1) == 10
/-- Where lines begin, ahead of byte k. -/
def stTo (s : ByteArray) : Nat → List Int
  | 0 => []
  | k + 1 => if isSt s k then stTo s k ++ [(k : Int)] else stTo s k
/-- What is still to be noted at byte k. -/
def pend (s : ByteArray) (k : Nat) : Int := if isSt s k then (k : Int) else -1
theorem pend_true {s : ByteArray} {k : Nat} (h : isSt s k = true) : pend s k = k := by unfold pend; rw [if_pos h]
theorem pend_false {s : ByteArray} {k : Nat} (h : isSt s k = false) : pend s k = -1 := by unfold pend; rw [if_neg (by simp [h])]
theorem stTo_true {s : ByteArray} {k : Nat} (h : isSt s k = true) : stTo s (k + 1) = stTo s k ++ [(k : Int)] := by rw [stTo, if_pos h]
theorem stTo_false {s : ByteArray} {k : Nat} (h : isSt s k = false) : stTo s (k + 1) = stTo s k := by rw [stTo, if_neg (by simp [h])]
theorem isSt_succ (s : ByteArray) (k : Nat) : isSt s (k + 1) = (bt s k == 10) := by simp [isSt]
theorem stTo_len (s : ByteArray) (k : Nat) : (stTo s k).length ≤ k := by
  induction k with
  | zero => simp [stTo]
  | succ k ih =>
    cases h : isSt s k
    · rw [stTo_false h]; omega
    · rw [stTo_true h, List.length_append]; simp; omega

/-- The bytes of a text in a block. -/
def BytesAt (w : World) (g : Nat) (s : ByteArray) : Prop := ∀ i, i < s.size → w.cell? ⟨g, i, none⟩ = some (.int .u8 (bt s i : Int))
theorem BytesAt.kept {w w1 : World} {g : Nat} {s : ByteArray} (h : BytesAt w g s) (hb : Below w.heap.size w w1) : BytesAt w1 g s := fun i hi => kcell hb (h i hi)

/-- A converter in memory: the size of the text, and where its lines begin. -/
def Conv (w : World) (p n : Nat) (L : List Int) : Prop := ∃ A c, Blk w p 90 #[.int .i64 n, .slice A L.length c] ∧ Ints w A L
theorem Conv.kept {w w1 : World} {p n : Nat} {L : List Int} (h : Conv w p n L) (hb : Below w.heap.size w w1) : Conv w1 p n L := by
  obtain ⟨A, c, h1, h2⟩ := h
  exact ⟨A, c, h1.kept hb, h2.kept hb⟩
/-- What NewContentConverter leaves. -/
def ConvRes (w : World) (n : Nat) (L : List Int) (e : Ending) (w' : World) : Prop := ∃ p, e = .returned (.pointer (some ⟨p, 0, none⟩)) ∧ Conv w' p n L ∧ Below w.heap.size w w'

/-- The relation of its loop. -/
def ConvRel (w wr : World) (s : ByteArray) (k : Nat) : Prop := ∃ A c, Blk wr w.heap.size 90 #[.int .i64 s.size, .slice A (stTo s k).length c] ∧
  wr.ownsRow (w.heap.size + 1) 3 1 (.slice A (stTo s k).length c) (stTo s k).length ((stTo s k).map (Value.int .i64)) ∧ Below w.heap.size w wr

theorem info_int : (Try.prog.info? 3).map (fun i => (i.zero, i.size, i.bytes)) = some (some (.int .i64 0), 1, 8) := by kernel_rfl

theorem own_ints {w : World} {base : Nat} {A : Option Addr} {c : Nat} {zs : List Int} {t : TypeId} (h : w.ownsRow base t 1 (.slice A zs.length c) zs.length (zs.map (Value.int .i64))) : Ints w A zs := by
  intro i hi
  obtain ⟨g, cap, hv, _, hlt⟩ := h.form (by omega)
  have hA : A = some ⟨g, 0, none⟩ := by injection hv
  subst hA
  refine ⟨g, 0, rfl, ?_⟩
  injection hv with _ _ hcc
  subst hcc
  rw [Nat.zero_add, h.cellAt i (by omega)]
  simp [List.getD_eq_getElem?_getD, List.getElem?_eq_getElem hi]

theorem own_ne {w : World} {base n size b : Nat} {t : TypeId} {v : Value} {xs : List Value} (h : w.ownsRow base t size v n xs) (hb : b < base) : some b ≠ v.ownBlock := by
  rcases h.2 with ⟨rfl, _⟩ | ⟨g, cap, cur, rfl, hg, _⟩
  · simp [Value.ownBlock]
  · intro e
    simp [Value.ownBlock] at e
    omega
theorem Blk.two {w : World} {g : Nat} {t : TypeId} {x y : Value} (h : Blk w g t #[x, y]) : (w.cell? ⟨g, 0, none⟩ = some x ∧ w.cell? ⟨g, 1, none⟩ = some y) ∧ (w.frozen? ⟨g, 0, none⟩ = false ∧ w.frozen? ⟨g, 1, none⟩ = false) :=
  ⟨⟨h.cell 0, h.cell 1⟩, h.frozen 0, h.frozen 1⟩
theorem below_grown_alloc {B : Nat} {w wr w1 : World} {row : Option Nat} {o : Obj} (hbl : Below B w wr) (hB : B ≤ wr.heap.size) (hg : (wr.alloc o).grownBy w1 row) (hr : ∀ k, row = some k → B ≤ k) : Below B w w1 :=
  (hbl.alloc hB o).grown hg (by simp; omega) hr
theorem own_ge {w : World} {base n size : Nat} {t : TypeId} {v : Value} {xs : List Value} (h : w.ownsRow base t size v n xs) : ∀ k, v.ownBlock = some k → base ≤ k := by
  intro k hk
  rcases Nat.lt_or_ge k base with hb | hb
  · exact absurd hk.symm (own_ne h hb)
  · exact hb

theorem conv_step {w wr w1 : World} {s : ByteArray} {k : Nat} {A : Option Addr} {cc g2 cap2 : Nat} {o : Obj} (hst : isSt s k = true) (hsz : w.heap.size < wr.heap.size)
    (hblk : Blk wr w.heap.size 90 #[.int .i64 s.size, .slice A (stTo s k).length cc])
    (hown : wr.ownsRow (w.heap.size + 1) 3 1 (.slice A (stTo s k).length cc) (stTo s k).length ((stTo s k).map (Value.int .i64))) (hbl : Below w.heap.size w wr)
    (hown1 : w1.ownsRow (w.heap.size + 1) 3 1 (.slice (some ⟨g2, 0, none⟩) ((stTo s k).length + 1) cap2) ((stTo s k).length + 1) ((stTo s k).map (Value.int .i64) ++ [.int .i64 k]))
    (hgrow : (wr.alloc o).grownBy w1 (Value.slice A (stTo s k).length cc).ownBlock) :
    ConvRel w (w1.setCell ⟨w.heap.size, 1, none⟩ (.slice (some ⟨g2, 0, none⟩) ((stTo s k).length + 1) cap2)) s (k + 1) := by
  have hb1 : Blk w1 w.heap.size 90 #[.int .i64 s.size, .slice A (stTo s k).length cc] := (hblk.alloc _).grown hgrow (own_ne hown (Nat.lt_succ_self _))
  have hB := below_grown_alloc hbl (Nat.le_of_lt hsz) hgrow (fun k hk => by have := own_ge hown k hk; omega)
  have e : (stTo s (k + 1)).length = (stTo s k).length + 1 := by rw [stTo_true hst]; simp
  have e2 : (stTo s (k + 1)).map (Value.int .i64) = (stTo s k).map (Value.int .i64) ++ [.int .i64 k] := by rw [stTo_true hst]; simp
  refine ⟨some ⟨g2, 0, none⟩, cap2, ?_, ?_, hB.setCell (Nat.le_refl _) _⟩
  · rw [e]; exact hb1.set_ 1 _
  · rw [e, e2]; exact ownsRow_setCell_below hown1 (Nat.lt_succ_self _) _

set_option maxHeartbeats 2000000 in
theorem newConv_any (fn s : ByteArray) (g c : Nat) (hs : s.size ≤ 2147483647) (w : World) (hB : BytesAt w g s) :
    Calls Try.prog 43 #[.string fn, .slice (some ⟨g, 0, none⟩) s.size c] w (ConvRes w s.size (stTo s s.size)) := by
  obtain ⟨i0, hi0, hz0, hz1, hz2⟩ := info_parts info_int
  have HB := hide hB
  clear hB
  go_enter Try.func43, Try.ntmps43
  go_wp2
  go_loopw [6, 15] (fun v i wr => ∃ k : Nat, k ≤ s.size ∧ i = .int .i64 k ∧ v = .int .i64 (pend s k) ∧ ConvRel w wr s k) (fun _ i _ => s.size - (intOf i).toNat)
  case atStart =>
    refine ⟨0, Nat.zero_le _, rfl, rfl, none, 0, Blk.new _ _ _, ?_, by go_grown⟩
    exact ⟨rfl, Or.inl ⟨rfl, rfl⟩⟩
  case round =>
    obtain ⟨k, hk, rfl, rfl, A, cc, hblk, hown, hbl⟩ := hrel
    have hsz := hbl.size
    by_cases hlt : k < s.size
    · have hbyte := kcell hbl (HB.out k hlt)
      have hlt' : w.heap.size < wr.heap.size := hblk.lt
      have hln := stTo_len s k
      have f2 := hblk.two
      have e10 := isSt_succ s k
      cases hst : isSt s k
      · rw [pend_false hst]
        have e1 : ConvRel w wr s (k + 1) := ⟨A, cc, by rw [stTo_false hst]; exact hblk, by rw [stTo_false hst]; exact hown, hbl⟩
        cases h10 : (bt s k == 10)
        · rw [h10] at e10
          have hc : ((bt s k : Int) == 10) = false := by simp at h10 ⊢; omega
          clear h10
          generalize bt s k = x at *
          have E1 := hide e1
          have E10 := hide e10
          clear e1 e10 hst
          go_wp2
          go_roundw
          case rel => exact ⟨k + 1, by omega, by go_num, by rw [pend_false E10.out], E1.out⟩
          case measure => simp [intOf]; omega
        · rw [h10] at e10
          have hc : ((bt s k : Int) == 10) = true := by simp at h10 ⊢; omega
          clear h10
          generalize bt s k = x at *
          have E1 := hide e1
          have E10 := hide e10
          clear e1 e10 hst
          go_wp2
          go_roundw
          case rel => exact ⟨k + 1, by omega, by go_num, by rw [pend_true E10.out]; go_num, E1.out⟩
          case measure => simp [intOf]; omega
      · rw [pend_true hst]
        have E1 := hide (fun (w1 : World) (g2 cap2 : Nat) (o : Obj) => conv_step (w1 := w1) (g2 := g2) (cap2 := cap2) (o := o) hst hlt' hblk hown hbl)
        have HN := hide (fun (w1 : World) (o : Obj) (hg : (wr.alloc o).grownBy w1 (Value.slice A (stTo s k).length cc).ownBlock) => ((hblk.alloc o).grown hg (own_ne hown (Nat.lt_succ_self _))).two)
        cases h10 : (bt s k == 10)
        · rw [h10] at e10
          have hc : ((bt s k : Int) == 10) = false := by simp at h10 ⊢; omega
          clear h10
          generalize bt s k = x at *
          have E10 := hide e10
          clear e10 hst
          generalize hL : (stTo s k).length = L at *
          generalize hX : (stTo s k).map (Value.int .i64) = X at *
          clear hL hX
          go_wp2_with (first
            | (at_builtin; refine wpList_append_lies _ rfl _ _ 54 rfl (w.heap.size + 1) 3 i0 _ 1 8 Try.underlying54 hi0 hz0 hz1 hz2 rfl (by omega) (.slice A L cc) L X (by rfl) (hown.alloc _) ⟨wr.heap.size, 0, none⟩ 1 1 [.int .i64 k] (by rfl) (by rfl) (World.news_of_block (cs := #[.int .i64 k]) (t := 3) (fr := (0, 0)) (heap_alloc_new wr _)) (by simp [Value.oneCell']) (by omega) (by unfold maxLen; omega) (by omega) (by simp; omega) (wr.heap.size + 1) (by simp) ?_; intro g2 cap2 w1 hown1 hgrow hat hlt2; have hn := HN.out w1 _ hgrow))
          go_roundw
          case rel => exact ⟨k + 1, by omega, by go_num, by rw [pend_false E10.out], E1.out _ _ _ _ hown1 hgrow⟩
          case measure => simp [intOf]; omega
        · rw [h10] at e10
          have hc : ((bt s k : Int) == 10) = true := by simp at h10 ⊢; omega
          clear h10
          generalize bt s k = x at *
          have E10 := hide e10
          clear e10 hst
          generalize hL : (stTo s k).length = L at *
          generalize hX : (stTo s k).map (Value.int .i64) = X at *
          clear hL hX
          go_wp2_with (first
            | (at_builtin; refine wpList_append_lies _ rfl _ _ 54 rfl (w.heap.size + 1) 3 i0 _ 1 8 Try.underlying54 hi0 hz0 hz1 hz2 rfl (by omega) (.slice A L cc) L X (by rfl) (hown.alloc _) ⟨wr.heap.size, 0, none⟩ 1 1 [.int .i64 k] (by rfl) (by rfl) (World.news_of_block (cs := #[.int .i64 k]) (t := 3) (fr := (0, 0)) (heap_alloc_new wr _)) (by simp [Value.oneCell']) (by omega) (by unfold maxLen; omega) (by omega) (by simp; omega) (wr.heap.size + 1) (by simp) ?_; intro g2 cap2 w1 hown1 hgrow hat hlt2; have hn := HN.out w1 _ hgrow))
          go_roundw
          case rel => exact ⟨k + 1, by omega, by go_num, by rw [pend_true E10.out]; go_num, E1.out _ _ _ _ hown1 hgrow⟩
          case measure => simp [intOf]; omega
    · have : k = s.size := by omega
      subst this
      go_wp2
      go_ret
      exact ⟨_, rfl, ⟨A, cc, hblk, own_ints hown⟩, hbl⟩
end Go.Proofs.Ytbbdhlnldkkdbaa
