/- Walks: texts, the converter of places and offsets, spec.Place. No condition but sizes. -/
import Derived.Test.YtgegialfhkgggaaGreatDoorPa
import Derived.Deep.AppendLies
import Derived.Laws.IdiomStrings
set_option linter.unusedVariables false
set_option linter.unusedSimpArgs false
namespace Go.Proofs.YtgegialfhkgggaaGreatDoor
open Go.RowKit
attribute [local go_sem ↓] Go.wp_at_zero Go.wp_at_succ

/-- Byte k of a text. -/
def bt (s : ByteArray) (k : Nat) : Nat := (s.data.toList.getD k 0).toNat
theorem bt_get {s : ByteArray} {k : Nat} (h : k < s.size) : (s[k]).toNat = bt s k := by
  unfold bt
  rw [List.getD_eq_getElem?_getD, List.getElem?_eq_getElem (by simpa using h)]
  rfl
/-- How many newlines are among the first k bytes. -/
def nlTo (s : ByteArray) (k : Nat) : Nat := (s.data.toList.take k).count 10
/-- How many newlines a text has. -/
def nls (s : ByteArray) : Nat := s.data.toList.count 10
theorem nlTo_all (s : ByteArray) : nlTo s s.size = nls s := by
  unfold nlTo nls; rw [List.take_of_length_le (by simp)]
theorem nlTo_succ (s : ByteArray) (k : Nat) (h : k < s.size) : nlTo s (k + 1) = nlTo s k + if bt s k = 10 then 1 else 0 := by
  have hl : k < s.data.toList.length := by simpa using h
  unfold nlTo bt
  rw [List.take_succ_eq_append_getElem hl, List.count_append, List.getD_eq_getElem?_getD, List.getElem?_eq_getElem hl]
  simp only [Option.getD_some, List.count_singleton]
  congr 1
  by_cases e : s.data.toList[k] = 10
  · simp [e]
  · have : ¬ s.data.toList[k].toNat = 10 := fun h => e (UInt8.toNat_inj.1 (by rw [h]; rfl))
    have h2 : (s.data.toList[k] == 10) = false := by simpa using e
    rw [h2, if_neg this]
    rfl
theorem nlTo_le (s : ByteArray) (k : Nat) : nlTo s k ≤ k := by
  unfold nlTo
  have := List.count_le_length (a := (10 : UInt8)) (l := s.data.toList.take k)
  rw [List.length_take] at this; omega

set_option maxHeartbeats 1000000 in
theorem newlines_any (s : ByteArray) (hs : s.size ≤ 140737488355328) (w : World) : Calls Tryz.prog 20 #[.string s] w fun e w' => e = .returned (.int .i64 (nls s)) ∧ w = w' := by
  go_enter Tryz.func20, Tryz.ntmps20
  go_wp2
  go_loop [3, 7] (fun t i => ∃ k : Nat, k ≤ s.size ∧ i = .int .i64 k ∧ t = .int .i64 (nlTo s k)) (fun _ i => s.size - (intOf i).toNat)
  case atStart => exact ⟨0, Nat.zero_le _, rfl, by simp [nlTo]⟩
  case round =>
    obtain ⟨k, hk, rfl, rfl⟩ := hrel
    have hle := nlTo_le s k
    by_cases hlt : k < s.size
    · have hsn := hide (nlTo_succ s k hlt)
      have hbt := hide (bt_get hlt)
      by_cases h10 : bt s k = 10
      · have hc : (((s[k]'hlt).toNat : Int) == 10) = true := by rw [hbt.out, h10]; rfl
        clear h10
        go_wp2
        go_round
        case rel => exact ⟨k + 1, by omega, by go_num, by
          have := hsn.out; rw [this, ← hbt.out]
          have e : (s[k]'hlt).toNat = 10 := by have := beq_iff_eq.1 hc; omega
          rw [if_pos e]; go_num⟩
        case measure => simp [intOf]; omega
      · have hc : (((s[k]'hlt).toNat : Int) == 10) = false := by rw [hbt.out]; simp; omega
        clear h10
        go_wp2
        go_round
        case rel => exact ⟨k + 1, by omega, by go_num, by
          have := hsn.out; rw [this, ← hbt.out]
          have e : ¬ (s[k]'hlt).toNat = 10 := by have := beq_eq_false_iff_ne.1 hc; omega
          rw [if_neg e]; rfl⟩
        case measure => simp [intOf]; omega
    · go_wp2
      go_ret
      have : k = s.size := by omega
      subst this
      exact ⟨ret_int (by rw [nlTo_all]), rfl⟩

/-- What a slice of texts holds. -/
def Strs (w : World) (A : Option Addr) (ss : List ByteArray) : Prop := ∀ i, i < ss.length → ∃ b o, A = some ⟨b, o, none⟩ ∧ w.cell? ⟨b, o + i, none⟩ = some (.string (ss.getD i ByteArray.empty))
theorem Strs.blk {w : World} {g : Nat} {t : TypeId} {cs : Array Value} {ss : List ByteArray} (h : Blk w g t cs) (hz : cs.toList = ss.map Value.string) : Strs w (some ⟨g, 0, none⟩) ss := by
  intro i hi
  refine ⟨g, 0, rfl, ?_⟩
  rw [Nat.zero_add, h.cell, ← Array.getElem?_toList, hz]
  simp [List.getD_eq_getElem?_getD, List.getElem?_eq_getElem hi]
theorem Strs.kept {w w1 : World} {A : Option Addr} {ss : List ByteArray} (h : Strs w A ss) (hb : Below w.heap.size w w1) : Strs w1 A ss := by
  intro i hi
  obtain ⟨b, o, e, hc⟩ := h i hi
  exact ⟨b, o, e, kcell hb hc⟩
theorem Ints.kept {w w1 : World} {A : Option Addr} {zs : List Int} (h : Ints w A zs) (hb : Below w.heap.size w w1) : Ints w1 A zs := by
  intro i hi
  obtain ⟨b, o, e, hc⟩ := h i hi
  exact ⟨b, o, e, kcell hb hc⟩
def sumSz (ss : List ByteArray) : Nat := (ss.map (·.size)).sum
def sumLn (ss : List ByteArray) : Nat := (ss.map (nls · + 1)).sum
/-- At most 100000 bytes and 1000 lines together. -/
def shortB (ss : List ByteArray) : Bool := decide (sumSz ss ≤ 100000) && decide (sumLn ss ≤ 1000)
theorem nls_le (s : ByteArray) : nls s ≤ s.size := by have := nlTo_le s s.size; rw [nlTo_all] at this; exact this
theorem sum_take_succ (f : ByteArray → Nat) (ss : List ByteArray) (k : Nat) (hk : k < ss.length) : ((ss.take (k + 1)).map f).sum = ((ss.take k).map f).sum + f (ss.getD k ByteArray.empty) := by
  rw [List.take_succ_eq_append_getElem hk, List.map_append, List.sum_append, List.getD_eq_getElem?_getD, List.getElem?_eq_getElem hk]
  simp
theorem sum_take_le (f : ByteArray → Nat) (ss : List ByteArray) (k : Nat) : ((ss.take k).map f).sum ≤ (ss.map f).sum := by
  conv => rhs; rw [← List.take_append_drop k ss, List.map_append, List.sum_append]
  omega
theorem sumLn_le (ss : List ByteArray) (k : Nat) : sumLn (ss.take k) ≤ sumSz (ss.take k) + k := by
  induction k with
  | zero => simp [sumLn, sumSz]
  | succ k ih =>
    by_cases hk : k < ss.length
    · unfold sumLn sumSz at *
      rw [sum_take_succ _ _ _ hk, sum_take_succ _ _ _ hk]
      have := nls_le (ss.getD k ByteArray.empty)
      omega
    · rw [List.take_of_length_le (by omega)] at ih ⊢
      omega

set_option maxHeartbeats 1000000 in
theorem isShort_any (A : Option Addr) (c : Nat) (ss : List ByteArray) (hn : ss.length ≤ 2147483647) (hsz : ∀ s ∈ ss, s.size ≤ 140737488355328) (w : World) (hA : Strs w A ss) :
    Calls Tryz.prog 6 #[.slice A ss.length c] w fun e w' => e = .returned (.bool (shortB ss)) ∧ w = w' := by
  have HA := hide hA
  have HS := hide hsz
  clear hA hsz
  go_enter Tryz.func6, Tryz.ntmps6
  go_wp2
  go_loop [3, 4, 9] (fun b l i => ∃ k : Nat, k ≤ ss.length ∧ i = .int .i64 k ∧ b = .int .i64 (sumSz (ss.take k)) ∧ l = .int .i64 (sumLn (ss.take k)) ∧ sumSz (ss.take k) ≤ 100000) (fun _ _ i => ss.length - (intOf i).toNat)
  case atStart => exact ⟨0, Nat.zero_le _, rfl, by simp [sumSz], by simp [sumLn], by simp [sumSz]⟩
  case round =>
    obtain ⟨k, hk, rfl, rfl, rfl, hle⟩ := hrel
    have hll := sumLn_le ss k
    by_cases hlt : k < ss.length
    · obtain ⟨b, o, rfl, hc⟩ := HA.out k hlt
      have e1 : sumSz (ss.take (k + 1)) = sumSz (ss.take k) + (ss.getD k ByteArray.empty).size := sum_take_succ _ ss k hlt
      have e2 : sumLn (ss.take (k + 1)) = sumLn (ss.take k) + (nls (ss.getD k ByteArray.empty) + 1) := sum_take_succ _ ss k hlt
      have hsk : (ss.getD k ByteArray.empty).size ≤ 140737488355328 := HS.out _ (by rw [List.getD_eq_getElem?_getD, List.getElem?_eq_getElem hlt]; exact List.getElem_mem _)
      obtain ⟨x, hx⟩ : ∃ x, ss.getD k ByteArray.empty = x := ⟨_, rfl⟩
      rw [hx] at hc e1 e2 hsk
      have hnx := nls_le x
      have E1 := hide e1
      have E2 := hide e2
      clear hx e1 e2
      generalize sumSz (ss.take k) = P at *
      generalize sumLn (ss.take k) = L at *
      by_cases h1 : 100000 < P + x.size
      · have h1' : (100000 : Int) < (P : Int) + (x.size : Int) := by omega
        have hfin : shortB ss = false := by
          have := sum_take_le (·.size) ss (k + 1)
          have t := E1.out
          unfold shortB
          rw [show decide (sumSz ss ≤ 100000) = false by simp; unfold sumSz at t ⊢; omega]
          rfl
        have HF := hide hfin
        clear hfin
        go_wp2
        go_ret
        exact ⟨ret_bool HF.out.symm, rfl⟩
      · have h1' : ¬ (100000 : Int) < (P : Int) + (x.size : Int) := by omega
        go_wp2_with fail
        refine (newlines_any x hsk _).mono ?_
        rintro e w1 ⟨rfl, rfl⟩
        go_wp2
        go_round
        case rel => exact ⟨k + 1, by omega, by go_num, by rw [E1.out]; go_num, by rw [E2.out]; go_num, by rw [E1.out]; omega⟩
        case measure => simp [intOf]; omega
    · have : k = ss.length := by omega
      subst this
      rw [List.take_length] at *
      have hfin : shortB ss = decide ((sumLn ss : Int) ≤ 1000) := by
        unfold shortB
        rw [show decide (sumSz ss ≤ 100000) = true by simpa using hle, Bool.true_and]
        exact decide_eq_decide.2 (by omega)
      have HF := hide hfin
      clear hfin
      go_wp2
      go_ret
      exact ⟨ret_bool HF.out.symm, rfl⟩
end Go.Proofs.YtgegialfhkgggaaGreatDoor
namespace Go.Proofs.YtgegialfhkgggaaGreatDoor
open Go.RowKit
attribute [local go_sem ↓] Go.wp_at_zero Go.wp_at_succ

/-- A line begins at byte k. -/
def isSt (s : ByteArray) (k : Nat) : Bool := k == 0 || bt s (k - 1) == 10
/-- Where lines begin, ahead of byte k. -/
def stTo (s : ByteArray) : Nat → List Int
  | 0 => []
  | k + 1 => if isSt s k then stTo s k ++ [(k : Int)] else stTo s k
/-- What is still to be noted at byte k. -/
def pend (s : ByteArray) (k : Nat) : Int := if isSt s k then (k : Int) else -1
theorem pend_true {s : ByteArray} {k : Nat} (h : isSt s k = true) : pend s k = k := by unfold pend; rw [if_pos h]
theorem pend_false {s : ByteArray} {k : Nat} (h : isSt s k = false) : pend s k = -1 := by unfold pend; rw [if_neg (by simp [h])]
theorem stTo_true {s : ByteArray} {k : Nat} (h : isSt s k = true) : stTo s (k + 1) = stTo s k ++ [(k : Int)] := by rw [stTo, if_pos h]
theorem stTo_false {s : ByteArray} {k : Nat} (h : isSt s k = false) : stTo s (k + 1) = stTo s k := by rw [stTo, if_neg (by simp [h])]
theorem isSt_succ (s : ByteArray) (k : Nat) : isSt s (k + 1) = (bt s k == 10) := by simp [isSt]
theorem stTo_len (s : ByteArray) (k : Nat) : (stTo s k).length ≤ k := by
  induction k with
  | zero => simp [stTo]
  | succ k ih =>
    cases h : isSt s k
    · rw [stTo_false h]; omega
    · rw [stTo_true h, List.length_append]; simp; omega

/-- The bytes of a text in a block. -/
def BytesAt (w : World) (g : Nat) (s : ByteArray) : Prop := ∀ i, i < s.size → w.cell? ⟨g, i, none⟩ = some (.int .u8 (bt s i : Int))
theorem BytesAt.kept {w w1 : World} {g : Nat} {s : ByteArray} (h : BytesAt w g s) (hb : Below w.heap.size w w1) : BytesAt w1 g s := fun i hi => kcell hb (h i hi)

/-- A converter in memory: the size of the text, and where its lines begin. -/
def Conv (w : World) (p n : Nat) (L : List Int) : Prop := ∃ A c, Blk w p 141 #[.int .i64 n, .slice A L.length c] ∧ Ints w A L
theorem Conv.kept {w w1 : World} {p n : Nat} {L : List Int} (h : Conv w p n L) (hb : Below w.heap.size w w1) : Conv w1 p n L := by
  obtain ⟨A, c, h1, h2⟩ := h
  exact ⟨A, c, h1.kept hb, h2.kept hb⟩
/-- What NewContentConverter leaves. -/
def ConvRes (w : World) (n : Nat) (L : List Int) (e : Ending) (w' : World) : Prop := ∃ p, e = .returned (.pointer (some ⟨p, 0, none⟩)) ∧ Conv w' p n L ∧ Below w.heap.size w w'

/-- The relation of its loop. -/
def ConvRel (w wr : World) (s : ByteArray) (k : Nat) : Prop := ∃ A c, Blk wr w.heap.size 141 #[.int .i64 s.size, .slice A (stTo s k).length c] ∧
  wr.ownsRow (w.heap.size + 1) 3 1 (.slice A (stTo s k).length c) (stTo s k).length ((stTo s k).map (Value.int .i64)) ∧ Below w.heap.size w wr

theorem info_int : (Tryz.prog.info? 3).map (fun i => (i.zero, i.size, i.bytes)) = some (some (.int .i64 0), 1, 8) := by kernel_rfl

theorem own_ints {w : World} {base : Nat} {A : Option Addr} {c : Nat} {zs : List Int} {t : TypeId} (h : w.ownsRow base t 1 (.slice A zs.length c) zs.length (zs.map (Value.int .i64))) : Ints w A zs := by
  intro i hi
  obtain ⟨g, cap, hv, _, hlt⟩ := h.form (by omega)
  have hA : A = some ⟨g, 0, none⟩ := by injection hv
  subst hA
  refine ⟨g, 0, rfl, ?_⟩
  injection hv with _ _ hcc
  subst hcc
  rw [Nat.zero_add, h.cellAt i (by omega)]
  simp [List.getD_eq_getElem?_getD, List.getElem?_eq_getElem hi]

theorem own_ne {w : World} {base n size b : Nat} {t : TypeId} {v : Value} {xs : List Value} (h : w.ownsRow base t size v n xs) (hb : b < base) : some b ≠ v.ownBlock := by
  rcases h.2 with ⟨rfl, _⟩ | ⟨g, cap, cur, rfl, hg, _⟩
  · simp [Value.ownBlock]
  · intro e
    simp [Value.ownBlock] at e
    omega
theorem Blk.two {w : World} {g : Nat} {t : TypeId} {x y : Value} (h : Blk w g t #[x, y]) : (w.cell? ⟨g, 0, none⟩ = some x ∧ w.cell? ⟨g, 1, none⟩ = some y) ∧ (w.frozen? ⟨g, 0, none⟩ = false ∧ w.frozen? ⟨g, 1, none⟩ = false) :=
  ⟨⟨h.cell 0, h.cell 1⟩, h.frozen 0, h.frozen 1⟩
theorem below_grown_alloc {B : Nat} {w wr w1 : World} {row : Option Nat} {o : Obj} (hbl : Below B w wr) (hB : B ≤ wr.heap.size) (hg : (wr.alloc o).grownBy w1 row) (hr : ∀ k, row = some k → B ≤ k) : Below B w w1 :=
  (hbl.alloc hB o).grown hg (by simp; omega) hr
theorem own_ge {w : World} {base n size : Nat} {t : TypeId} {v : Value} {xs : List Value} (h : w.ownsRow base t size v n xs) : ∀ k, v.ownBlock = some k → base ≤ k := by
  intro k hk
  rcases Nat.lt_or_ge k base with hb | hb
  · exact absurd hk.symm (own_ne h hb)
  · exact hb

theorem conv_step {w wr w1 : World} {s : ByteArray} {k : Nat} {A : Option Addr} {cc g2 cap2 : Nat} {o : Obj} (hst : isSt s k = true) (hsz : w.heap.size < wr.heap.size)
    (hblk : Blk wr w.heap.size 141 #[.int .i64 s.size, .slice A (stTo s k).length cc])
    (hown : wr.ownsRow (w.heap.size + 1) 3 1 (.slice A (stTo s k).length cc) (stTo s k).length ((stTo s k).map (Value.int .i64))) (hbl : Below w.heap.size w wr)
    (hown1 : w1.ownsRow (w.heap.size + 1) 3 1 (.slice (some ⟨g2, 0, none⟩) ((stTo s k).length + 1) cap2) ((stTo s k).length + 1) ((stTo s k).map (Value.int .i64) ++ [.int .i64 k]))
    (hgrow : (wr.alloc o).grownBy w1 (Value.slice A (stTo s k).length cc).ownBlock) :
    ConvRel w (w1.setCell ⟨w.heap.size, 1, none⟩ (.slice (some ⟨g2, 0, none⟩) ((stTo s k).length + 1) cap2)) s (k + 1) := by
  have hb1 : Blk w1 w.heap.size 141 #[.int .i64 s.size, .slice A (stTo s k).length cc] := (hblk.alloc _).grown hgrow (own_ne hown (Nat.lt_succ_self _))
  have hB := below_grown_alloc hbl (Nat.le_of_lt hsz) hgrow (fun k hk => by have := own_ge hown k hk; omega)
  have e : (stTo s (k + 1)).length = (stTo s k).length + 1 := by rw [stTo_true hst]; simp
  have e2 : (stTo s (k + 1)).map (Value.int .i64) = (stTo s k).map (Value.int .i64) ++ [.int .i64 k] := by rw [stTo_true hst]; simp
  refine ⟨some ⟨g2, 0, none⟩, cap2, ?_, ?_, hB.setCell (Nat.le_refl _) _⟩
  · rw [e]; exact hb1.set_ 1 _
  · rw [e, e2]; exact ownsRow_setCell_below hown1 (Nat.lt_succ_self _) _

set_option maxHeartbeats 2000000 in
theorem newConv_any (fn s : ByteArray) (g c : Nat) (hs : s.size ≤ 2147483647) (w : World) (hB : BytesAt w g s) :
    Calls Tryz.prog 72 #[.string fn, .slice (some ⟨g, 0, none⟩) s.size c] w (ConvRes w s.size (stTo s s.size)) := by
  obtain ⟨i0, hi0, hz0, hz1, hz2⟩ := info_parts info_int
  have HB := hide hB
  clear hB
  go_enter Tryz.func72, Tryz.ntmps72
  go_wp2
  go_loopw [6, 15] (fun v i wr => ∃ k : Nat, k ≤ s.size ∧ i = .int .i64 k ∧ v = .int .i64 (pend s k) ∧ ConvRel w wr s k) (fun _ i _ => s.size - (intOf i).toNat)
  case atStart =>
    refine ⟨0, Nat.zero_le _, rfl, rfl, none, 0, Blk.new _ _ _, ?_, by go_grown⟩
    exact ⟨rfl, Or.inl ⟨rfl, rfl⟩⟩
  case round =>
    obtain ⟨k, hk, rfl, rfl, A, cc, hblk, hown, hbl⟩ := hrel
    have hsz := hbl.size
    by_cases hlt : k < s.size
    · have hbyte := kcell hbl (HB.out k hlt)
      have hlt' : w.heap.size < wr.heap.size := hblk.lt
      have hln := stTo_len s k
      have f2 := hblk.two
      have e10 := isSt_succ s k
      cases hst : isSt s k
      · rw [pend_false hst]
        have e1 : ConvRel w wr s (k + 1) := ⟨A, cc, by rw [stTo_false hst]; exact hblk, by rw [stTo_false hst]; exact hown, hbl⟩
        cases h10 : (bt s k == 10)
        · rw [h10] at e10
          have hc : ((bt s k : Int) == 10) = false := by simp at h10 ⊢; omega
          clear h10
          generalize bt s k = x at *
          have E1 := hide e1
          have E10 := hide e10
          clear e1 e10 hst
          go_wp2
          go_roundw
          case rel => exact ⟨k + 1, by omega, by go_num, by rw [pend_false E10.out], E1.out⟩
          case measure => simp [intOf]; omega
        · rw [h10] at e10
          have hc : ((bt s k : Int) == 10) = true := by simp at h10 ⊢; omega
          clear h10
          generalize bt s k = x at *
          have E1 := hide e1
          have E10 := hide e10
          clear e1 e10 hst
          go_wp2
          go_roundw
          case rel => exact ⟨k + 1, by omega, by go_num, by rw [pend_true E10.out]; go_num, E1.out⟩
          case measure => simp [intOf]; omega
      · rw [pend_true hst]
        have E1 := hide (fun (w1 : World) (g2 cap2 : Nat) (o : Obj) => conv_step (w1 := w1) (g2 := g2) (cap2 := cap2) (o := o) hst hlt' hblk hown hbl)
        have HN := hide (fun (w1 : World) (o : Obj) (hg : (wr.alloc o).grownBy w1 (Value.slice A (stTo s k).length cc).ownBlock) => ((hblk.alloc o).grown hg (own_ne hown (Nat.lt_succ_self _))).two)
        cases h10 : (bt s k == 10)
        · rw [h10] at e10
          have hc : ((bt s k : Int) == 10) = false := by simp at h10 ⊢; omega
          clear h10
          generalize bt s k = x at *
          have E10 := hide e10
          clear e10 hst
          generalize hL : (stTo s k).length = L at *
          generalize hX : (stTo s k).map (Value.int .i64) = X at *
          clear hL hX
          go_wp2_with (first
            | (at_builtin; refine wpList_append_lies _ rfl _ _ 37 rfl (w.heap.size + 1) 3 i0 _ 1 8 Tryz.underlying37 hi0 hz0 hz1 hz2 rfl (by omega) (.slice A L cc) L X (by rfl) (hown.alloc _) ⟨wr.heap.size, 0, none⟩ 1 1 [.int .i64 k] (by rfl) (by rfl) (World.news_of_block (cs := #[.int .i64 k]) (t := 3) (fr := (0, 0)) (heap_alloc_new wr _)) (by simp [Value.oneCell']) (by omega) (by unfold maxLen; omega) (by omega) (by simp; omega) (wr.heap.size + 1) (by simp) ?_; intro g2 cap2 w1 hown1 hgrow hat hlt2; have hn := HN.out w1 _ hgrow))
          go_roundw
          case rel => exact ⟨k + 1, by omega, by go_num, by rw [pend_false E10.out], E1.out _ _ _ _ hown1 hgrow⟩
          case measure => simp [intOf]; omega
        · rw [h10] at e10
          have hc : ((bt s k : Int) == 10) = true := by simp at h10 ⊢; omega
          clear h10
          generalize bt s k = x at *
          have E10 := hide e10
          clear e10 hst
          generalize hL : (stTo s k).length = L at *
          generalize hX : (stTo s k).map (Value.int .i64) = X at *
          clear hL hX
          go_wp2_with (first
            | (at_builtin; refine wpList_append_lies _ rfl _ _ 37 rfl (w.heap.size + 1) 3 i0 _ 1 8 Tryz.underlying37 hi0 hz0 hz1 hz2 rfl (by omega) (.slice A L cc) L X (by rfl) (hown.alloc _) ⟨wr.heap.size, 0, none⟩ 1 1 [.int .i64 k] (by rfl) (by rfl) (World.news_of_block (cs := #[.int .i64 k]) (t := 3) (fr := (0, 0)) (heap_alloc_new wr _)) (by simp [Value.oneCell']) (by omega) (by unfold maxLen; omega) (by omega) (by simp; omega) (wr.heap.size + 1) (by simp) ?_; intro g2 cap2 w1 hown1 hgrow hat hlt2; have hn := HN.out w1 _ hgrow))
          go_roundw
          case rel => exact ⟨k + 1, by omega, by go_num, by rw [pend_true E10.out]; go_num, E1.out _ _ _ _ hown1 hgrow⟩
          case measure => simp [intOf]; omega
    · have : k = s.size := by omega
      subst this
      go_wp2
      go_ret
      exact ⟨_, rfl, ⟨A, cc, hblk, own_ints hown⟩, hbl⟩
end Go.Proofs.YtgegialfhkgggaaGreatDoor
namespace Go.Proofs.YtgegialfhkgggaaGreatDoor
open Go.RowKit
attribute [local go_sem ↓] Go.wp_at_zero Go.wp_at_succ

/-- The line (from 1 on) among the first i that is the last to begin at an offset or ahead of it; 0 if there is none. -/
def lineOf (L : List Int) (off : Int) : Nat → Nat
  | 0 => 0
  | i + 1 => if L.getD i 0 ≤ off then i + 1 else lineOf L off i
/-- The column of an offset on the line found. -/
def colOf (L : List Int) (off : Int) : Nat → Int
  | 0 => 0
  | m + 1 => off - L.getD m 0 + 1
theorem lineOf_le (L : List Int) (off : Int) (i : Nat) : lineOf L off i ≤ i := by
  induction i with
  | zero => simp [lineOf]
  | succ i ih => rw [lineOf]; split <;> omega

/-- The line and the column that the converter gives for an offset up to the end. -/
def posLine (n : Nat) (L : List Int) (off : Int) : Int := if off = n then (lineOf L off L.length : Int) + 1 else lineOf L off L.length
def posCol (n : Nat) (L : List Int) (off : Int) : Int := if off = n then 1 else colOf L off (lineOf L off L.length)
def PosRes (w : World) (l c : Int) (e : Ending) (w' : World) : Prop := e = .returned (.tuple #[.int .i64 l, .int .i64 c, .nilIface]) ∧ Below w.heap.size w w'
/-- It ends with an error. -/
def ErrRes3 (w : World) (e : Ending) (w' : World) : Prop := ∃ t v, e = .returned (.tuple #[.int .i64 0, .int .i64 0, .iface t v]) ∧ Below w.heap.size w w'
def ErrNew (w : World) (e : Ending) (w' : World) : Prop := ∃ b, e = .returned (.iface 148 (.pointer (some ⟨b, 0, none⟩))) ∧ Below w.heap.size w w'

theorem errNew_any (s : ByteArray) (w : World) : Calls Tryz.prog 76 #[.string s] w (ErrNew w) := by
  go_enter Tryz.func76, Tryz.ntmps76
  go_wp2
  go_ret
  exact ⟨_, rfl, by go_grown⟩

set_option maxHeartbeats 1000000 in
theorem toPosition_past (p n : Nat) (L : List Int) (off : Int) (w : World) (hC : Conv w p n L) (ho : (n : Int) < off) :
    Calls Tryz.prog 143 #[.pointer (some ⟨p, 0, none⟩), .int .i64 off] w (ErrRes3 w) := by
  obtain ⟨A, c, hB, hI⟩ := hC
  have f := hB.two
  clear hB hI
  go_enter Tryz.func143, Tryz.ntmps143
  go_wp2_with fail
  refine (errNew_any _ _).mono ?_
  rintro e w1 ⟨b, rfl, hb⟩
  go_wp2
  go_ret3
  exact ⟨_, _, rfl, hb⟩

theorem toPos_end (n : Nat) (L : List Int) (off : Int) (m : Nat) (hm : lineOf L off L.length = m) : (off = n → posLine n L off = (m : Int) + 1 ∧ posCol n L off = 1) ∧ (¬ off = n → posLine n L off = m ∧ posCol n L off = colOf L off m) := by
  constructor
  · intro h; unfold posLine posCol; rw [if_pos h, if_pos h, hm]; exact ⟨rfl, rfl⟩
  · intro h; unfold posLine posCol; rw [if_neg h, if_neg h, hm]; exact ⟨rfl, rfl⟩

theorem ret_pos {a b a' b' : Int} (h1 : a = a') (h2 : b = b') : Ending.returned (.tuple #[.int .i64 a, .int .i64 b, .nilIface]) = Ending.returned (.tuple #[.int .i64 a', .int .i64 b', .nilIface]) := by rw [h1, h2]

set_option maxHeartbeats 2000000 in
theorem toPosition_in (p n : Nat) (L : List Int) (off : Int) (w : World) (hC : Conv w p n L) (h0 : 0 ≤ off) (ho : off ≤ n) (hL : L.length ≤ 2147483647) (hn : n ≤ 2147483647) (hLb : ∀ x ∈ L, 0 ≤ x ∧ x ≤ 2147483647) :
    Calls Tryz.prog 143 #[.pointer (some ⟨p, 0, none⟩), .int .i64 off] w (PosRes w (posLine n L off) (posCol n L off)) := by
  obtain ⟨A, c, hB, hI⟩ := hC
  have HI := hide hI
  have HLb := hide hLb
  have f := hB.two
  have HE := hide (toPos_end n L off)
  have hc : (off == (n : Int)) = true ∨ (off == (n : Int)) = false := by cases (off == (n : Int)) <;> simp
  clear hI hLb
  rcases hc with hc | hc
  all_goals
    go_enter Tryz.func143, Tryz.ntmps143
    go_wp2
    go_loop [7, 8, 9] (fun a b i => ∃ k : Nat, k ≤ L.length ∧ i = .int .i64 ((k : Int) - 1) ∧ a = .int .i64 0 ∧ b = .int .i64 0 ∧ lineOf L off L.length = lineOf L off k) (fun _ _ i => (intOf i + 1).toNat)
    case atStart => exact ⟨L.length, Nat.le_refl _, rfl, rfl, rfl, rfl⟩
    case round =>
      obtain ⟨k, hk, rfl, rfl, rfl, hln⟩ := hrel
      cases k with
      | zero =>
        have hm : lineOf L off L.length = 0 := hln
        have HM := hide (HE.out 0 hm)
        clear hln hm
        have hneg : ¬ (0 : Int) ≤ ((0 : Nat) : Int) - 1 := by omega
        go_wp2
        go_ret3
        refine ⟨ret_pos ?_ ?_, Below.refl _ _⟩
        · first
            | rw [(HM.out.1 (by simpa using hc)).1]; simp
            | rw [(HM.out.2 (by simpa using hc)).1]; simp
        · first
            | rw [(HM.out.1 (by simpa using hc)).2]
            | rw [(HM.out.2 (by simpa using hc)).2, colOf]
      | succ j =>
        rw [show ((j + 1 : Nat) : Int) - 1 = (j : Int) by omega]
        obtain ⟨b, o, rfl, hcell⟩ := HI.out j (by omega)
        have hxb := HLb.out (L.getD j 0) (by rw [List.getD_eq_getElem?_getD, List.getElem?_eq_getElem (by omega)]; exact List.getElem_mem _)
        obtain ⟨x, hx⟩ : ∃ x, L.getD j 0 = x := ⟨_, rfl⟩
        rw [hx] at hcell hxb
        by_cases hle : x ≤ off
        · have hm : lineOf L off L.length = j + 1 := by rw [hln, lineOf, hx, if_pos hle]
          have HM := hide (HE.out (j + 1) hm)
          have HX := hide hx
          clear hln hm hx
          have j0 : (0 : Int) ≤ (j : Int) := by omega
          have j1 : (j : Int) < (L.length : Int) := by omega
          have e1 : IntKind.i64.wrap ((j : Int) + 1) = (j : Int) + 1 := IntWalk.i64_in _ (by omega)
          have e2 : IntKind.i64.wrap (off - x) = off - x := IntWalk.i64_in _ (by omega)
          have e3 : IntKind.i64.wrap (off - x + 1) = off - x + 1 := IntWalk.i64_in _ (by omega)
          go_wp2
          go_region_held3 (fun w' => w'.cell? ⟨p, 1, none⟩ = some (.slice (some ⟨b, o, none⟩) L.length c) ∧ w'.cell? ⟨b, o + j, none⟩ = some (.int .i64 x)) (go_keep) (fail)
          go_wp2
          go_ret3
          refine ⟨ret_pos ?_ ?_, (Below.refl _ _).drew⟩
          · first
              | rw [(HM.out.1 (by simpa using hc)).1]; simp
              | rw [(HM.out.2 (by simpa using hc)).1]; simp
          · first
              | rw [(HM.out.1 (by simpa using hc)).2]
              | (rw [(HM.out.2 (by simpa using hc)).2, colOf, HX.out])
        · have hm : lineOf L off L.length = lineOf L off j := by rw [hln, lineOf, hx, if_neg hle]
          have HM := hide hm
          clear hln hm hx
          go_wp2
          go_round
          case rel => exact ⟨j, by omega, by go_num, rfl, rfl, HM.out⟩
          case measure => simp [intOf]
end Go.Proofs.YtgegialfhkgggaaGreatDoor
namespace Go.Proofs.YtgegialfhkgggaaGreatDoor
open Go.RowKit
attribute [local go_sem ↓] Go.wp_at_zero Go.wp_at_succ

theorem bytes_new (W : World) (s : ByteArray) (C : Nat) (t : TypeId) (fr : Nat × Nat) : BytesAt (W.drew.alloc (.cells (bytesRow s C) t fr)) W.heap.size s := by
  intro i hi
  have h := World.cell?_alloc_mark W.drew (bytesRow s C) t fr i
  have h2 := bytesRow_at s C i (by simpa using hi)
  rw [h2] at h
  have e : (s.data[i]'(by simpa using hi)).toNat = bt s i := by rw [← bt_get hi]; rfl
  rw [e] at h
  exact h

theorem stTo_bound (s : ByteArray) (k : Nat) : ∀ x ∈ stTo s k, (0 : Int) ≤ x ∧ x < k := by
  induction k with
  | zero => simp [stTo]
  | succ k ih =>
    intro x hx
    cases h : isSt s k
    · rw [stTo_false h] at hx; have := ih x hx; omega
    · rw [stTo_true h, List.mem_append] at hx
      rcases hx with hx | hx
      · have := ih x hx; omega
      · simp at hx; omega

end Go.Proofs.YtgegialfhkgggaaGreatDoor
namespace Go.Proofs.YtgegialfhkgggaaGreatDoor
open Go.RowKit
attribute [local go_sem ↓] Go.wp_at_zero Go.wp_at_succ

def OffRes (w : World) (o : Int) (e : Ending) (w' : World) : Prop := e = .returned (.tuple #[.int .i64 o, .nilIface]) ∧ Below w.heap.size w w'
def ErrRes2 (w : World) (e : Ending) (w' : World) : Prop := ∃ x t v, e = .returned (.tuple #[.int .i64 x, .iface t v]) ∧ Below w.heap.size w w'

set_option maxHeartbeats 1000000 in
theorem toOffset_beyond (p n : Nat) (L : List Int) (line col : Int) (w : World) (hC : Conv w p n L) (hL : L.length ≤ 2147483647) (ho : (L.length : Int) + 1 < line) :
    Calls Tryz.prog 142 #[.pointer (some ⟨p, 0, none⟩), .int .i64 line, .int .i64 col] w (ErrRes2 w) := by
  obtain ⟨A, c, hB, hI⟩ := hC
  have f := hB.two
  clear hB hI
  go_enter Tryz.func142, Tryz.ntmps142
  go_wp2_with fail
  refine (errNew_any _ _).mono ?_
  rintro e w1 ⟨b, rfl, hb⟩
  go_wp2
  go_ret2
  exact ⟨_, _, _, rfl, hb⟩

set_option maxHeartbeats 1000000 in
theorem toOffset_end (p n : Nat) (L : List Int) (col : Int) (w : World) (hC : Conv w p n L) (hL : L.length ≤ 2147483647) (hc : col ≤ 1) :
    Calls Tryz.prog 142 #[.pointer (some ⟨p, 0, none⟩), .int .i64 ((L.length : Int) + 1), .int .i64 col] w (OffRes w n) := by
  obtain ⟨A, c, hB, hI⟩ := hC
  have f := hB.two
  clear hB hI
  go_enter Tryz.func142, Tryz.ntmps142
  go_wp2
  go_ret2
  exact ⟨rfl, Below.refl _ _⟩

set_option maxHeartbeats 1000000 in
theorem toOffset_in (p n : Nat) (L : List Int) (j : Nat) (col : Int) (w : World) (hC : Conv w p n L) (hL : L.length ≤ 2147483647) (hj : j < L.length) (hn : n ≤ 2147483647) (hx : 0 ≤ L.getD j 0 ∧ L.getD j 0 ≤ 2147483647) (_hc0 : 0 ≤ col) (_hc1 : col ≤ 4294967296)
    (h0 : 0 ≤ L.getD j 0 + col - 1) (h1 : L.getD j 0 + col - 1 ≤ n) :
    Calls Tryz.prog 142 #[.pointer (some ⟨p, 0, none⟩), .int .i64 ((j : Int) + 1), .int .i64 col] w (OffRes w (L.getD j 0 + col - 1)) := by
  obtain ⟨A, c, hB, hI⟩ := hC
  have f := hB.two
  obtain ⟨b, o, rfl, hcell⟩ := hI j hj
  obtain ⟨x, hx'⟩ : ∃ x, L.getD j 0 = x := ⟨_, rfl⟩
  rw [hx'] at hcell hx h0 h1 ⊢
  clear hB hI hx'
  obtain ⟨hx0, hx1⟩ := hx
  have e1 : ((j : Int) + 1 == (L.length : Int) + 1) = false := by simp; omega
  have j0 : (0 : Int) ≤ (j : Int) := by omega
  have j1 : (j : Int) < (L.length : Int) := by omega
  go_enter Tryz.func142, Tryz.ntmps142
  go_wp2
  go_ret2
  exact ⟨rfl, Below.refl _ _⟩
end Go.Proofs.YtgegialfhkgggaaGreatDoor
namespace Go.Proofs.YtgegialfhkgggaaGreatDoor
open Go.RowKit
attribute [local go_sem ↓] Go.wp_at_zero Go.wp_at_succ

/-- The last newline among the first k bytes, or -1. -/
def lastNl (s : ByteArray) : Nat → Int
  | 0 => -1
  | k + 1 => if bt s k = 10 then (k : Int) else lastNl s k
theorem lastNl_bd (s : ByteArray) (k : Nat) : -1 ≤ lastNl s k ∧ lastNl s k < k := by
  induction k with
  | zero => simp [lastNl]
  | succ k ih => rw [lastNl]; split <;> omega

set_option maxHeartbeats 1000000 in
theorem lastIndex_nl (s : ByteArray) (hs : s.size ≤ 140737488355328) (w : World) : Calls Tryz.prog 90 #[.string s, .int .u8 10] w fun e w' => e = .returned (.int .i64 (lastNl s s.size)) ∧ w = w' := by
  go_enter Tryz.func90, Tryz.ntmps90
  go_wp2
  go_loop [5] (fun i => ∃ k : Nat, k ≤ s.size ∧ i = .int .i64 ((k : Int) - 1) ∧ lastNl s s.size = lastNl s k) (fun i => (intOf i + 1).toNat)
  case atStart => exact ⟨s.size, Nat.le_refl _, rfl, rfl⟩
  case round =>
    obtain ⟨k, hk, rfl, hln⟩ := hrel
    cases k with
    | zero =>
      have HL := hide hln
      clear hln
      have hneg : ¬ (0 : Int) ≤ ((0 : Nat) : Int) - 1 := by omega
      go_wp2
      go_ret
      exact ⟨ret_int (by rw [HL.out]; rfl), rfl⟩
    | succ j =>
      rw [show ((j + 1 : Nat) : Int) - 1 = (j : Int) by omega]
      have hlt : j < s.size := by omega
      have hbt := hide (bt_get hlt)
      by_cases h10 : bt s j = 10
      · have hm : lastNl s s.size = j := by rw [hln, lastNl, if_pos h10]
        have HM := hide hm
        have hc : (((s[j]'hlt).toNat : Int) == 10) = true := by rw [hbt.out, h10]; rfl
        clear h10 hm hln
        go_wp2
        go_ret
        exact ⟨ret_int HM.out.symm, rfl⟩
      · have hm : lastNl s s.size = lastNl s j := by rw [hln, lastNl, if_neg h10]
        have HM := hide hm
        have hc : (((s[j]'hlt).toNat : Int) == 10) = false := by rw [hbt.out]; simp; omega
        clear h10 hm hln
        go_wp2
        go_round
        case rel => exact ⟨j, by omega, by go_num, HM.out⟩
        case measure => simp [intOf]

theorem lastIndexByte_nl (s : ByteArray) (hs : s.size ≤ 140737488355328) (w : World) : Calls Tryz.prog 62 #[.string s, .int .u8 10] w fun e w' => e = .returned (.int .i64 (lastNl s s.size)) ∧ w = w' := by
  go_enter Tryz.func62, Tryz.ntmps62
  go_wp2_with fail
  refine (lastIndex_nl s hs _).mono ?_
  rintro e w1 ⟨rfl, rfl⟩
  go_wp2
  go_ret
  exact ⟨rfl, rfl⟩

theorem ext_list (s : ByteArray) (k : Nat) : (s.extract 0 k).data.toList = s.data.toList.take k := by simp
theorem ext_size {s : ByteArray} {k : Nat} (h : k ≤ s.size) : (s.extract 0 k).size = k := by simp; omega
theorem bt_ext {s : ByteArray} {k i : Nat} (h : i < k) : bt (s.extract 0 k) i = bt s i := by
  unfold bt
  rw [ext_list, List.getD_eq_getElem?_getD, List.getD_eq_getElem?_getD, List.getElem?_take, if_pos h]
theorem nls_ext (s : ByteArray) (k : Nat) : nls (s.extract 0 k) = nlTo s k := by unfold nls nlTo; rw [ext_list]
theorem lastNl_ext {s : ByteArray} {k : Nat} : ∀ i, i ≤ k → lastNl (s.extract 0 k) i = lastNl s i := by
  intro i
  induction i with
  | zero => intro _; rfl
  | succ i ih => intro h; rw [lastNl, lastNl, bt_ext (by omega), ih (by omega)]

set_option maxHeartbeats 1000000 in
theorem place_any (s : ByteArray) (k : Nat) (hk : k ≤ s.size) (hs : s.size ≤ 2147483647) (w : World) : Calls Tryz.prog 36 #[.string s, .int .i64 k] w fun e w' =>
    e = .returned (.agg #[.int .i64 ((nlTo s k : Int) + 1), .int .i64 ((k : Int) - lastNl s k), .int .i64 k]) ∧ Below w.heap.size w w' := by
  have h1 := fun W => newlines_any (s.extract 0 k) (by rw [ext_size hk]; omega) W
  have h2 := fun W => lastIndexByte_nl (s.extract 0 k) (by rw [ext_size hk]; omega) W
  rw [nls_ext] at h1
  rw [ext_size hk, lastNl_ext k (Nat.le_refl _)] at h2
  have hn := nlTo_le s k
  have hl := lastNl_bd s k
  have H1 := hide h1
  have H2 := hide h2
  clear h1 h2
  generalize nlTo s k = a at *
  generalize lastNl s k = b at *
  obtain ⟨l1, l2⟩ := hl
  go_enter Tryz.func36, Tryz.ntmps36
  go_wp2_with fail
  refine (H1.out _).mono ?_
  rintro e w1 ⟨rfl, rfl⟩
  go_wp2_with fail
  refine (H2.out _).mono ?_
  rintro e w1 ⟨rfl, rfl⟩
  go_wp2
  go_returns
  exact ⟨rfl, by go_grown⟩

/-! ### The plain law: lines and columns -/
theorem stTo_length (s : ByteArray) (k : Nat) (h : k < s.size) : (stTo s (k + 1)).length = nlTo s k + 1 := by
  induction k with
  | zero => simp [stTo, isSt, nlTo]
  | succ k ih =>
    have ih := ih (by omega)
    rw [nlTo_succ s k (by omega)]
    by_cases h10 : bt s k = 10
    · rw [stTo_true (by rw [isSt_succ]; simpa using h10), List.length_append, ih, if_pos h10]; simp
    · rw [stTo_false (by rw [isSt_succ]; simpa using h10), ih, if_neg h10]
theorem stTo_last (s : ByteArray) (k : Nat) : (stTo s (k + 1)).getLast? = some (lastNl s k + 1) := by
  induction k with
  | zero => simp [stTo, isSt, lastNl]
  | succ k ih =>
    by_cases h10 : bt s k = 10
    · rw [stTo_true (by rw [isSt_succ]; simpa using h10), List.getLast?_append, lastNl, if_pos h10]; simp
    · rw [stTo_false (by rw [isSt_succ]; simpa using h10), ih, lastNl, if_neg h10]
theorem getD_last {L : List Int} {x : Int} {m : Nat} (h : L.getLast? = some x) (hm : L.length = m + 1) : L.getD m 0 = x := by
  rw [List.getLast?_eq_getElem?, hm] at h
  rw [List.getD_eq_getElem?_getD]
  simp at h
  simp [h]
theorem stTo_prefix (s : ByteArray) (k m : Nat) (h : k ≤ m) : ∃ r, stTo s m = stTo s k ++ r ∧ ∀ x ∈ r, (k : Int) ≤ x := by
  induction m with
  | zero =>
    have : k = 0 := by omega
    subst this
    exact ⟨[], by simp, by simp⟩
  | succ m ih =>
    by_cases e : k = m + 1
    · subst e; exact ⟨[], by simp, by simp⟩
    · obtain ⟨r, hr, hx⟩ := ih (by omega)
      cases hst : isSt s m
      · exact ⟨r, by rw [stTo_false hst, hr], hx⟩
      · refine ⟨r ++ [(m : Int)], by rw [stTo_true hst, hr, List.append_assoc], ?_⟩
        intro x hxm
        rw [List.mem_append] at hxm
        rcases hxm with h1 | h1
        · exact hx x h1
        · simp at h1; omega
theorem lineOf_skip (P r : List Int) (off : Int) (hx : ∀ x ∈ r, off < x) : ∀ i, P.length ≤ i → i ≤ (P ++ r).length → lineOf (P ++ r) off i = lineOf (P ++ r) off P.length := by
  intro i
  induction i with
  | zero => intro h _; rw [show P.length = 0 by omega]
  | succ i ih =>
    intro h1 h2
    by_cases e : P.length = i + 1
    · rw [e]
    · rw [lineOf, if_neg, ih (by omega) (by omega)]
      have hlt : i < (P ++ r).length := by omega
      rw [List.getD_eq_getElem?_getD, List.getElem?_append_right (by omega)]
      have hlr : i - P.length < r.length := by rw [List.length_append] at hlt; omega
      rw [List.getElem?_eq_getElem hlr]
      have := hx _ (List.getElem_mem hlr)
      simp only [Option.getD_some]
      omega
theorem lineOf_at (s : ByteArray) (k n : Nat) (h : k < n) (hn : n ≤ s.size) : lineOf (stTo s n) k (stTo s n).length = nlTo s k + 1 := by
  obtain ⟨r, hr, hx⟩ := stTo_prefix s (k + 1) n h
  rw [hr, lineOf_skip _ _ _ (fun x hxr => by have := hx x hxr; omega) _ (by simp) (Nat.le_refl _)]
  have hl := stTo_length s k (by omega)
  rw [hl, lineOf, if_pos]
  have hlast := getD_last (stTo_last s k) hl
  rw [List.getD_eq_getElem?_getD] at hlast ⊢
  rw [List.getElem?_append_left (by omega), hlast]
  have := lastNl_bd s k
  omega
theorem start_at (s : ByteArray) (k n : Nat) (h : k < n) (hn : n ≤ s.size) : (stTo s n).getD (nlTo s k) 0 = lastNl s k + 1 := by
  obtain ⟨r, hr, _⟩ := stTo_prefix s (k + 1) n h
  have hl := stTo_length s k (by omega)
  have hlast := getD_last (stTo_last s k) hl
  rw [hr, List.getD_eq_getElem?_getD, List.getElem?_append_left (by omega), ← List.getD_eq_getElem?_getD, hlast]
theorem pos_at (s : ByteArray) (k : Nat) (h : k < s.size) : posLine s.size (stTo s s.size) k = (nlTo s k : Int) + 1 ∧ posCol s.size (stTo s s.size) k = (k : Int) - lastNl s k := by
  unfold posLine posCol
  rw [if_neg (by omega), if_neg (by omega), lineOf_at s k s.size h (Nat.le_refl _), colOf, start_at s k s.size h (Nat.le_refl _)]
  omega
end Go.Proofs.YtgegialfhkgggaaGreatDoor
namespace Go.Proofs.YtgegialfhkgggaaGreatDoor
open Go.RowKit
attribute [local go_sem ↓] Go.wp_at_zero Go.wp_at_succ

/-- The place of an offset of a byte, or of the end, leads back to it. -/
theorem toOffset_place (s : ByteArray) (k : Nat) (hk : k ≤ s.size) (hs : s.size ≤ 2147483647) (p : Nat) (w : World) (hC : Conv w p s.size (stTo s s.size)) :
    Calls Tryz.prog 142 #[.pointer (some ⟨p, 0, none⟩), .int .i64 ((nlTo s k : Int) + 1), .int .i64 ((k : Int) - lastNl s k)] w (OffRes w k) := by
  have hL := stTo_len s s.size
  have hlb := lastNl_bd s k
  by_cases hlt : k < s.size
  · have hst := start_at s k s.size hlt (Nat.le_refl _)
    have hlen : nlTo s k < (stTo s s.size).length := by
      obtain ⟨r, hr, _⟩ := stTo_prefix s (k + 1) s.size hlt
      have := stTo_length s k hlt
      rw [hr, List.length_append]; omega
    have h := toOffset_in p s.size (stTo s s.size) (nlTo s k) ((k : Int) - lastNl s k) w hC (by omega) hlen hs (by rw [hst]; omega) (by omega) (by omega) (by rw [hst]; omega) (by rw [hst]; omega)
    rw [hst, show lastNl s k + 1 + ((k : Int) - lastNl s k) - 1 = k by omega] at h
    exact h
  · have hk' : k = s.size := by omega
    subst hk'
    rcases Nat.eq_zero_or_pos s.size with h0 | h0
    · have e1 : stTo s s.size = [] := by rw [h0]; rfl
      have e2 : nlTo s s.size = 0 := by rw [h0]; simp [nlTo]
      have e3 : lastNl s s.size = -1 := by rw [h0]; rfl
      rw [e1] at hC
      have h := toOffset_end p s.size [] 1 w hC (by simp) (by omega)
      rw [e2, e3]
      rw [h0] at h ⊢
      exact h
    · obtain ⟨m, hm⟩ : ∃ m, s.size = m + 1 := ⟨s.size - 1, by omega⟩
      have hlen := stTo_length s m (by omega)
      have hnl := nlTo_succ s m (by omega)
      by_cases h10 : bt s m = 10
      · have e2 : nlTo s s.size = (stTo s s.size).length := by rw [hm, hnl, if_pos h10, hlen]
        have e3 : lastNl s s.size = m := by rw [hm, lastNl, if_pos h10]
        have h := toOffset_end p s.size (stTo s s.size) 1 w hC (by omega) (by omega)
        rw [e2, e3, show ((s.size : Int) - (m : Int)) = 1 by omega]
        exact h
      · have e2 : nlTo s s.size = nlTo s m := by rw [hm, hnl, if_neg h10]; omega
        have e3 : lastNl s s.size = lastNl s m := by rw [hm, lastNl, if_neg h10]
        have hst := start_at s m s.size (by omega) (Nat.le_refl _)
        have hbm := lastNl_bd s m
        have hlen2 : nlTo s m < (stTo s s.size).length := by rw [hm, hlen]; omega
        have h := toOffset_in p s.size (stTo s s.size) (nlTo s m) ((s.size : Int) - lastNl s m) w hC (by omega) hlen2 hs (by rw [hst]; omega) (by omega) (by omega) (by rw [hst]; omega) (by rw [hst]; omega)
        rw [hst, show lastNl s m + 1 + ((s.size : Int) - lastNl s m) - 1 = s.size by omega] at h
        rw [e2, e3]
        exact h

end Go.Proofs.YtgegialfhkgggaaGreatDoor
