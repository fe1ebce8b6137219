/- Walks: ComputeEdits, edits as plain data and back. No condition but sizes. -/
import Derived.Test.YtgegialfhkgggaaGreatDoorPe
import Derived.Test.YtgegialfhkgggaaGreatDoorPd
import Derived.Test.YtgegialfhkgggaaGreatDoorShelf
import Derived.Test.YtgegialfhkgggaaGreatDoorPa
import Derived.Deep.AppendLies
import Derived.Deep.RegionHeld3
set_option linter.unusedVariables false
set_option linter.unusedSimpArgs false
namespace Go.Proofs.YtgegialfhkgggaaGreatDoor
open Go.RowKit Mye Go.Proofs.YtgegialfhkgggaaGreatDoor.Lines
attribute [local go_sem ↓] Go.wp_at_zero Go.wp_at_succ

/-- The offset that an edit of full lines tells. -/
def co1 (i : Nat) : Int := if i = 0 then 0 else -1
theorem co_line (i : Nat) : co ((i : Int) + 1) 1 0 = co1 i := by
  unfold co co1
  have e1 : cl ((i : Int) + 1) = (i : Int) + 1 := by unfold cl; rw [if_neg (by omega)]
  have e2 : cc ((i : Int) + 1) 1 = 1 := by unfold cc; rw [if_neg (by omega)]
  rw [e1, e2]
  by_cases h : i = 0
  · rw [if_pos h, if_neg (by omega)]
  · rw [if_neg h, if_pos (by omega)]
/-- The text that an operation puts in. -/
def opText (lb : List ByteArray) : Opn → ByteArray
  | .del _ _ _ => ⟨#[]⟩
  | .ins _ j k => toB (Lib.join (((lb.drop j).take (k - j)).map (·.data.toList)) [])
/-- The edit of an operation. -/
def edOf (u : ByteArray) (lb : List ByteArray) (op : Opn) : Ed := ⟨u, (oS op : Int) + 1, 1, co1 (oS op), (oE op : Int) + 1, 1, co1 (oE op), opText lb op⟩
/-- A list of edits in memory. -/
def EdsRes (w : World) (es : List Ed) (e : Ending) (w' : World) : Prop := ∃ A c, e = .returned (.slice A es.length c) ∧ es.length ≤ c ∧ RowsAt w' A 8 (es.map edCells) ∧ Below w.heap.size w w'

theorem newLine_any (i : Nat) (w : World) : Calls Tryz.prog 43 #[.int .i64 ((i : Int) + 1), .int .i64 1, .int .i64 0] w fun e w' => e = .returned (.agg #[.int .i64 ((i : Int) + 1), .int .i64 1, .int .i64 (co1 i)]) ∧ Below w.heap.size w w' := by
  have h := newPoint_any ((i : Int) + 1) 1 0 w
  have e1 : cl ((i : Int) + 1) = (i : Int) + 1 := by unfold cl; rw [if_neg (by omega)]
  have e2 : cc ((i : Int) + 1) 1 = 1 := by unfold cc; rw [if_neg (by omega)]
  rw [e1, e2, co_line] at h
  exact h
set_option maxHeartbeats 1000000 in
theorem newLines_any (u : ByteArray) (i i2 : Nat) (w : World) : Calls Tryz.prog 42 #[.string u, .agg #[.int .i64 ((i : Int) + 1), .int .i64 1, .int .i64 (co1 i)], .agg #[.int .i64 ((i2 : Int) + 1), .int .i64 1, .int .i64 (co1 i2)]] w fun e w' =>
      e = .returned (.agg #[.string u, .int .i64 ((i : Int) + 1), .int .i64 1, .int .i64 (co1 i), .int .i64 ((i2 : Int) + 1), .int .i64 1, .int .i64 (co1 i2)]) ∧ Below w.heap.size w w' := by
  have h := new_any u ((i : Int) + 1) 1 (co1 i) ((i2 : Int) + 1) 1 (co1 i2) w
  have ha : atSt ((i2 : Int) + 1) 1 (co1 i2) = false := by
    unfold atSt
    have h1 : decide (0 < (i2 : Int) + 1) = true := by simp <;> omega
    have h2 : ((i2 : Int) + 1 == 0) = false := by simp; omega
    rw [h1, h2]; rfl
  simp only [eN_keep ha] at h
  exact h

theorem SB.drew_ {g : Nat} {W w : World} (h : SB g W w) : SB g W w.drew := ⟨h.1, h.2.1, h.2.2.drew⟩
theorem World.size_drew_ (w : World) : w.drew.heap.size = w.heap.size := rfl
theorem put7_ {w : World} {g t : Nat} {a0 a1 a2 a3 a4 a5 a6 b0 b1 b2 b3 b4 b5 b6 : Value} (h : Blk w g t #[a0, a1, a2, a3, a4, a5, a6]) :
    Blk (((((((w.setCell ⟨g, 0, none⟩ b0).setCell ⟨g, 1, none⟩ b1).setCell ⟨g, 2, none⟩ b2).setCell ⟨g, 3, none⟩ b3).setCell ⟨g, 4, none⟩ b4).setCell ⟨g, 5, none⟩ b5).setCell ⟨g, 6, none⟩ b6) g t #[b0, b1, b2, b3, b4, b5, b6] := by
  have h0 : Blk _ g t #[b0, a1, a2, a3, a4, a5, a6] := h.set_ 0 b0
  have h1 : Blk _ g t #[b0, b1, a2, a3, a4, a5, a6] := h0.set_ 1 b1
  have h2 : Blk _ g t #[b0, b1, b2, a3, a4, a5, a6] := h1.set_ 2 b2
  have h3 : Blk _ g t #[b0, b1, b2, b3, a4, a5, a6] := h2.set_ 3 b3
  have h4 : Blk _ g t #[b0, b1, b2, b3, b4, a5, a6] := h3.set_ 4 b4
  have h5 : Blk _ g t #[b0, b1, b2, b3, b4, b5, a6] := h4.set_ 5 b5
  exact h5.set_ 6 b6
/-- Which kind an operation is, and what it holds. -/
def oK : Opn → Int
  | .del _ _ _ => 0
  | .ins _ _ _ => 1
def oJ : Opn → Nat
  | .del _ _ j => j
  | .ins _ j _ => j
def oCont (bb bo cb : Nat) : Opn → Value
  | .del _ _ _ => .slice none 0 0
  | .ins _ j k => .slice (some ⟨bb, bo + j, none⟩) (k - j) (cb - j)
theorem opCells_eq (bb bo cb : Nat) (op : Opn) : opCells bb bo cb op = #[.int .i64 (oK op), oCont bb bo cb op, .int .i64 (oS op : Nat), .int .i64 (oE op : Nat), .int .i64 (oJ op : Nat)] := by cases op <;> rfl


theorem info_te : (Tryz.prog.info? 89).map (fun i => (i.zero, i.size, i.bytes)) = some (some (.agg #[.string ⟨#[]⟩, .int .i64 0, .int .i64 0, .int .i64 0, .int .i64 0, .int .i64 0, .int .i64 0, .string ⟨#[]⟩]), 8, 80) := by kernel_rfl
/-- The edits of the first j operations are noted. -/
def CRel (w3 wr : World) (u : ByteArray) (lb : List ByteArray) (ops : List Opn) (j : Nat) (ev : Value) : Prop := ∃ A c, ev = .slice A j c ∧ wr.ownsRow w3.heap.size 89 8 (.slice A j c) j ((ops.take j).map (fun o => edCells (edOf u lb o))).flatten ∧ Below w3.heap.size w3 wr
/-- A span in a block of its own. -/
def SpanAt (W wx : World) (cs : Array Value) (v : Value) : Prop := ∃ g, v = .pointer (some ⟨g, 0, none⟩) ∧ Blk wx g 87 cs ∧ Below W.heap.size W wx
theorem ops_len {M N D : Nat} {eq : Nat → Nat → Bool} {ops : List Opn} (h : Script eq ops M N) (hc : cost ops = D) (hnh : ∀ d, d < D → ¬ hit M N eq d) : ops.length ≤ M + N := by
  obtain ⟨D', h1, h2, _⟩ := least_hit (M := M) (N := N) (eq := eq)
  have := script_len h
  rcases Nat.lt_or_ge D' D with h3 | h3
  · exact absurd h2 (hnh D' h3)
  · omega

/-- What ComputeEdits leaves: the edits of a script of least cost. -/
def CompRes (w : World) (u s t : ByteArray) (e : Ending) (w' : World) : Prop := ∃ (ops : List Opn) (D : Nat), Script (eqL (linesB s) (linesB t)) ops (linesB s).length (linesB t).length ∧ cost ops = D ∧ hit (linesB s).length (linesB t).length (eqL (linesB s) (linesB t)) D ∧
  (∀ d, d < D → ¬ hit (linesB s).length (linesB t).length (eqL (linesB s) (linesB t)) d) ∧ EdsRes w (ops.map (edOf u (linesB t))) e w'
theorem comp_end {w w3 wr : World} {u s t : ByteArray} {ops : List Opn} {D c2 : Nat} {A2 : Option Addr} (h1 : Script (eqL (linesB s) (linesB t)) ops (linesB s).length (linesB t).length) (h2 : cost ops = D) (h3 : hit (linesB s).length (linesB t).length (eqL (linesB s) (linesB t)) D)
    (h4 : ∀ d, d < D → ¬ hit (linesB s).length (linesB t).length (eqL (linesB s) (linesB t)) d) (hown : wr.ownsRow w3.heap.size 89 8 (.slice A2 ops.length c2) ops.length ((ops.take ops.length).map (fun o => edCells (edOf u (linesB t) o))).flatten)
    (hbl : Below w.heap.size w w3) (hb : Below w3.heap.size w3 wr) : CompRes w u s t (.returned (.slice A2 ops.length c2)) wr := by
  have he : (ops.map (edOf u (linesB t))).length = ops.length := by rw [List.length_map]
  have hm : (ops.map (edOf u (linesB t))).map edCells = ops.map (fun o => edCells (edOf u (linesB t) o)) := by rw [List.map_map]; rfl
  rw [List.take_length] at hown
  refine ⟨ops, D, h1, h2, h3, h4, A2, c2, by rw [he], by rw [he]; exact own_le hown, ?_, hbl.trans (hb.mono hbl.size)⟩
  rw [hm]
  refine own_rows (base := w3.heap.size) (c := c2) (t := 89) ?_ (fun r hr => ?_)
  · rw [List.length_map]; exact hown
  · obtain ⟨o, _, rfl⟩ := List.mem_map.1 hr; rfl

theorem own_kept {w w1 : World} {base sz n : Nat} {t : TypeId} {v : Value} {xs : List Value} (h : w.ownsRow base t sz v n xs) (hb : Below w.heap.size w w1) : w1.ownsRow base t sz v n xs := by
  refine ⟨h.1, ?_⟩
  rcases h.2 with h2 | ⟨g, cap, cur, h1, h2, h3, h4⟩
  · exact Or.inl h2
  · exact Or.inr ⟨g, cap, cur, h1, h2, Blk.kept (show Blk w g t cur from h3) hb, h4⟩
theorem crel_step {w3 wx w1 : World} {u : ByteArray} {lb : List ByteArray} {ops : List Opn} {op : Opn} {j c2 g2 cap2 : Nat} {A2 : Option Addr} {o : Obj} {news : List Value} (hj : j < ops.length) (hop : ops[j] = op) (hed : edCells (edOf u lb op) = news)
    (hown : wx.ownsRow w3.heap.size 89 8 (.slice A2 j c2) j ((ops.take j).map (fun o => edCells (edOf u lb o))).flatten) (hbl : Below w3.heap.size w3 wx)
    (hown1 : w1.ownsRow w3.heap.size 89 8 (.slice (some ⟨g2, 0, none⟩) (j + 1) cap2) (j + 1) (((ops.take j).map (fun o => edCells (edOf u lb o))).flatten ++ news))
    (hgrow : (wx.alloc o).grownBy w1 (Value.slice A2 j c2).ownBlock) : CRel w3 w1 u lb ops (j + 1) (.slice (some ⟨g2, 0, none⟩) (j + 1) cap2) := by
  have hB := below_grown_alloc hbl hbl.size hgrow (fun k hk => own_ge hown k hk)
  refine ⟨_, _, rfl, ?_, hB⟩
  have e : ((ops.take (j + 1)).map (fun o => edCells (edOf u lb o))).flatten = ((ops.take j).map (fun o => edCells (edOf u lb o))).flatten ++ news := by
    rw [List.take_succ_eq_append_getElem hj, List.map_append, List.flatten_append, hop]
    simp [hed]
  rw [e]
  exact hown1
theorem join_flat : ∀ (xs : List (List UInt8)), Lib.join xs [] = xs.flatten
  | [] => rfl
  | [x] => by simp [Lib.join, List.intercalate]
  | x :: y :: r => by
    have ih := join_flat (y :: r)
    unfold Lib.join List.intercalate at ih ⊢
    simp only [List.intersperse, List.flatten_cons, List.nil_append] at ih ⊢
    rw [ih]
theorem opText_list (t : ByteArray) (j k : Nat) : (((linesB t).drop j).take (k - j)).map (·.data.toList) = ((linesL t.data.toList).drop j).take (k - j) := by
  unfold linesB
  rw [← List.map_drop, ← List.map_take, List.map_map]
  have : ((fun x : ByteArray => x.data.toList) ∘ toB) = id := by funext x; exact toB_list x
  rw [this, List.map_id]
theorem opText_facts (t : ByteArray) (j k : Nat) (hjk : j < k) (hk : k ≤ (linesB t).length) : (((linesB t).drop j).take (k - j)).length = k - j ∧
    (Lib.join ((((linesB t).drop j).take (k - j)).map (·.data.toList)) []).length ≤ t.size ∧ (opText (linesB t) (Opn.ins 0 j k)).toList.isEmpty = false := by
  have hl : (linesB t).length = (linesL t.data.toList).length := by unfold linesB; rw [List.length_map]
  refine ⟨by rw [List.length_take, List.length_drop]; omega, ?_, ?_⟩
  · rw [opText_list, join_flat]
    have h1 := linesL_flat t.data.toList
    have h2 : ((linesL t.data.toList).take j).flatten ++ ((((linesL t.data.toList).drop j).take (k - j)).flatten ++ (((linesL t.data.toList).drop j).drop (k - j)).flatten) = t.data.toList := by
      rw [← List.flatten_append, List.take_append_drop, ← List.flatten_append, List.take_append_drop, h1]
    have h3 := congrArg List.length h2
    rw [List.length_append, List.length_append, size_list] at h3
    omega
  · show (toB (Lib.join ((((linesB t).drop j).take (k - j)).map (·.data.toList)) [])).toList.isEmpty = false
    rw [opText_list, join_flat]
    refine str_ne (fun h => ?_)
    rw [toB_size, List.length_flatten] at h
    have hlt : j < (linesL t.data.toList).length := by omega
    have hm := linesL_mem t.data.toList _ (List.getElem_mem hlt)
    have he : ((linesL t.data.toList).drop j).take (k - j) = (linesL t.data.toList)[j] :: ((linesL t.data.toList).drop (j + 1)).take (k - j - 1) := by
      rw [List.drop_eq_getElem_cons hlt, show k - j = (k - j - 1) + 1 by omega, List.take_succ_cons]
      simp
    rw [he] at h
    simp at h
    exact hm h.1

set_option maxHeartbeats 4000000 in
set_option maxRecDepth 100000 in
theorem compute_any (u s t : ByteArray) (hs : s.size ≤ 400000) (ht : t.size ≤ 400000) (w : World) (hne : 1 ≤ (linesB s).length + (linesB t).length) (hsum : (linesB s).length + (linesB t).length ≤ 1000000) :
    Calls Tryz.prog 22 #[.string u, .string s, .string t] w (CompRes w u s t) := by
  go_enter Tryz.func22, Tryz.ntmps22
  go_wp2_with fail
  refine (mSplitLines_any s (by omega) _).mono ?_
  rintro e w1 ⟨A, ca, rfl, hca, hA, hb1⟩
  go_wp2_with fail
  refine (mSplitLines_any t (by omega) _).mono ?_
  rintro e w2 ⟨B, cb, rfl, hcb, hB, hb2⟩
  have hbl2 := hb1.trans (hb2.mono hb1.size)
  have hA2 : Strs w2 A (linesB s) := hA.kept hb2
  go_wp2_with fail
  refine (ops_any (linesB s) (linesB t) A B ca cb _ _ rfl rfl hsum hne hcb _ hA2 hB).mono ?_
  rintro e w3 ⟨ops, C, cc, D, bb, bo, rfl, hscr, hcost, hhit, hnh, hBB, hops, hb3⟩
  have hbl3 := hbl2.trans (hb3.mono hbl2.size)
  have HOps := hide hops
  have hB3 := hide (hB.kept hb3)
  clear hops hA hA2 hb1 hb2 hb3 hbl2 hB
  have hlen := ops_len hscr hcost hnh
  have hl2 : ops.length ≤ 1000000 := by omega
  have HScr := hide hscr
  have HEnd := hide (fun wr A2 c2 hown hb => comp_end (u := u) (wr := wr) (A2 := A2) (c2 := c2) hscr hcost hhit hnh hown hbl3 hb)
  clear hlen hscr hcost hhit hnh
  obtain ⟨i0, hi0, hz0, hz1, hzb⟩ := info_parts info_te
  go_wp2_with (first
    | (refine wpList_make_own _ rfl _ _ 45 rfl w3.heap.size 89 i0 _ 8 Tryz.underlying45 hi0 hz0 hz1 .i64 .i64 _ ops.length (by rfl) (by rfl) (by omega) (by rw [hzb]; omega) (by unfold maxLen; omega) (Nat.le_refl _) ?_; intro w4 hown hg4))
  have hC0 : Hid (CRel w3 w4 u (linesB t) ops 0 (.slice (some ⟨w3.heap.size, 0, none⟩) 0 ops.length)) := hide ⟨_, _, rfl, hown, grown_none hg4⟩
  clear hown hg4
  go_loopw [8, 23] (fun ev jv wr => ∃ j : Nat, jv = .int .i64 j ∧ j ≤ ops.length ∧ Hid (CRel w3 wr u (linesB t) ops j ev)) (fun _ jv _ => ops.length - (intOf jv).toNat)
  case atStart => exact ⟨0, rfl, Nat.zero_le _, hC0⟩
  case round =>
    obtain ⟨j, rfl, hj, hcr⟩ := hrel
    by_cases hlt : j < ops.length
    · obtain ⟨A2, c2, rfl, hown, hbl⟩ := hcr.out
      obtain ⟨b, o, g, rfl, hcell, hblk⟩ := HOps.out j hlt
      have hcell2 := kcell hbl hcell
      have hblk2 := hblk.kept hbl
      rw [opCells_eq] at hblk2
      have hasc := (script_asc HScr.out j hlt).1
      have hse := hasc.end_le
      generalize hopx : ops[j] = op at *
      have f5 := hblk2.five
      obtain ⟨a, ha⟩ : ∃ a, oS op = a := ⟨_, rfl⟩
      obtain ⟨a2, ha2⟩ : ∃ a, oE op = a := ⟨_, rfl⟩
      rw [ha, ha2] at f5 hse
      have hA2 := hide (show oS op = a ∧ oE op = a2 from ⟨ha, ha2⟩)
      have lg := hblk2.lt
      have wr1 : IntKind.i64.wrap ((a : Int) + 1) = (a : Int) + 1 := IntWalk.i64_in _ (by omega)
      have wr2 : IntKind.i64.wrap ((a2 : Int) + 1) = (a2 : Int) + 1 := IntWalk.i64_in _ (by omega)
      have HBlk := hide hblk2
      have HOwn := hide hown
      have HOpx := hide hopx
      clear ha ha2 hblk hblk2 hcell hcr hopx hown
      go_upto_region 6 with fail
      refine wp_gen ?_
      intro W hW
      have hbW : wr = W := hW.symm
      subst hbW
      clear hW
      have hD0 : wr.drew.heap.size = wr.heap.size := rfl
      go_cut [11] (fun s11 wx => SpanAt wr wx #[.string u, .int .i64 ((a : Int) + 1), .int .i64 1, .int .i64 (co1 a), .int .i64 ((a2 : Int) + 1), .int .i64 1, .int .i64 (co1 a2)] s11)
      case first =>
        have hD : wr.drew.heap.size = wr.heap.size := rfl
        go_region_held3 (fun w' => (∀ b o, b < wr.heap.size → w'.cell? ⟨b, o, none⟩ = wr.cell? ⟨b, o, none⟩) ∧ wr.heap.size ≤ w'.heap.size ∧ Below wr.heap.size wr w')
          (first
            | (with_reducible exact SB.start (by omega))
            | (go_split_ands; (repeat' (first | (with_reducible exact ⟨by assumption, by assumption, by assumption⟩) | (with_reducible exact SB.start (Nat.le_refl _)) | (with_reducible exact SB.start' (Nat.le_refl _)) | (with_reducible refine SB.alloc ?_ _) | (with_reducible refine SB.drew_ ?_) | (with_reducible refine SB.set ?_ ?_ _) | (with_reducible refine SB.call ?_ (by assumption)) | (simp only [World.alloc, Array.size_push]; omega) | (dsimp only; omega) | omega)); done))
          (first
            | (go_at_call 43; refine (newLine_any _ _).mono ?_; rintro e w1 ⟨rfl, hb⟩; have hzz := hb.size; (try simp only [World.size_alloc, World.size_drew_] at hzz); (try (have kA := Blk.kept kA hb; (try simp only [World.size_alloc, World.size_drew_] at kA); have tA := kA.seven; have lA := kA.lt)); (try (have kA := Blk.kept (Blk.new _ _ _) hb; (try simp only [World.size_alloc, World.size_drew_] at kA); have tA := kA.seven; have lA := kA.lt)); (try (have kA := Blk.kept (Blk.drew (Blk.new _ _ _)) hb; (try simp only [World.size_alloc, World.size_drew_] at kA); have tA := kA.seven; have lA := kA.lt)))
            | (go_at_call 42; refine (newLines_any _ _ _ _).mono ?_; rintro e w1 ⟨rfl, hb⟩; have hzz := hb.size; (try simp only [World.size_alloc, World.size_drew_] at hzz); (try (have kA := Blk.kept kA hb; (try simp only [World.size_alloc, World.size_drew_] at kA); have tA := kA.seven; have lA := kA.lt)); (try (have kA := Blk.kept (Blk.new _ _ _) hb; (try simp only [World.size_alloc, World.size_drew_] at kA); have tA := kA.seven; have lA := kA.lt)); (try (have kA := Blk.kept (Blk.drew (Blk.new _ _ _)) hb; (try simp only [World.size_alloc, World.size_drew_] at kA); have tA := kA.seven; have lA := kA.lt))))
        all_goals (try (go_wp2_with fail))
        all_goals (try go_meet)
        all_goals go_split_ands
        all_goals (refine ⟨_, rfl, ?_, ?_⟩ <;> first | (((repeat' (first | (with_reducible assumption) | (with_reducible refine Blk.newAt ?_) | (with_reducible apply put7_) | (with_reducible refine Blk.far ?_ (by dsimp only; omega) _) | (with_reducible refine Blk.alloc ?_ _) | (with_reducible refine Blk.drew ?_) | (with_reducible rfl) | (simp; done) | omega))); done) | (exact SB.below_ (by assumption) (by assumption)) | skip)
      case rest =>
        obtain ⟨gs, rfl, hsp, hbx⟩ := hcut
        have hbl5 := hbl.trans (hbx.mono hbl.size)
        have g5 := (HBlk.out.kept hbx).five
        have hown5 := own_kept HOwn.out hbx
        have s7 := hsp.seven
        have ls := hsp.lt
        clear f5
        cases op with
        | del i1 i2 jj =>
          simp only [oK, oCont, oJ] at g5
          have hed : edCells (edOf u (linesB t) (Opn.del i1 i2 jj)) = [.string u, .int .i64 ((a : Int) + 1), .int .i64 1, .int .i64 (co1 a), .int .i64 ((a2 : Int) + 1), .int .i64 1, .int .i64 (co1 a2), .string ⟨#[]⟩] := by
            have h1 := hA2.out.1
            have h2 := hA2.out.2
            simp only [oS, oE] at h1 h2
            subst h1; subst h2
            rfl
          have E1 := hide (fun (w1 : World) (g2 cap2 : Nat) (o : Obj) => crel_step (w1 := w1) (g2 := g2) (cap2 := cap2) (o := o) hlt HOpx.out hed hown5 hbl5)
          clear hed
          generalize hX : ((ops.take j).map (fun o => edCells (edOf u (linesB t) o))).flatten = X at *
          clear hX
          go_wp2_with (first
            | (at_builtin; refine wpList_append_lies _ rfl _ _ 45 rfl w3.heap.size 89 i0 _ 8 80 Tryz.underlying45 hi0 hz0 hz1 hzb rfl (by omega) (.slice A2 j c2) j X (by rfl) (hown5.alloc _) ⟨wc.heap.size, 0, none⟩ 1 1 [.string u, .int .i64 ((a : Int) + 1), .int .i64 1, .int .i64 (co1 a), .int .i64 ((a2 : Int) + 1), .int .i64 1, .int .i64 (co1 a2), .string ⟨#[]⟩] (by rfl) (by rfl) (World.news_of_block (cs := #[.string u, .int .i64 ((a : Int) + 1), .int .i64 1, .int .i64 (co1 a), .int .i64 ((a2 : Int) + 1), .int .i64 1, .int .i64 (co1 a2), .string ⟨#[]⟩]) (t := 89) (fr := (0, 0)) (heap_alloc_new wc _)) (by simp [Value.oneCell']) (by omega) (by unfold maxLen; omega) (by omega) (by have := hbl5.size; simp; omega) (wc.heap.size + 1) (by simp) ?_; intro g2 cap2 w1 hown1 hgrow hat hlt2))
          go_roundw
          case rel => exact ⟨j + 1, by go_num, by omega, hide (E1.out _ _ _ _ hown1 hgrow)⟩
          case measure => simp [intOf]; omega
        | ins i1 j1 k1 =>
          simp only [oK, oCont, oJ] at g5
          have hk : j1 < k1 ∧ i1 ≤ (linesB s).length ∧ k1 ≤ (linesB t).length := hasc
          obtain ⟨x1, x2, x3⟩ := opText_facts t j1 k1 hk.1 hk.2.2
          have hBe := hBB (by omega)
          have hbb : ∀ jj x, (((linesB t).drop j1).take (k1 - j1))[jj]? = some x → wc.cell? ⟨bb, bo + j1 + jj, none⟩ = some (.string x) := by
            intro jj x hx
            have hjj : jj < k1 - j1 := by
              rcases Nat.lt_or_ge jj (k1 - j1) with h | h
              · exact h
              · rw [List.getElem?_eq_none (by omega)] at hx; cases hx
            obtain ⟨b', o', e, hc⟩ := hB3.out (j1 + jj) (by omega)
            rw [hBe] at e
            injection e with e
            injection e with e1 e2
            subst e1; subst e2
            have h := kcell hbl5 hc
            rw [List.getElem?_take_of_lt hjj, List.getElem?_drop] at hx
            rw [List.getD_eq_getElem?_getD, hx] at h
            rw [show bo + j1 + jj = bo + (j1 + jj) by omega]
            exact h
          have hbk : bb < wc.heap.size := by
            have h := hbb 0 ((((linesB t).drop j1).take (k1 - j1))[0]'(by omega)) (List.getElem?_eq_getElem _)
            exact lt_of_cell h
          have hJ := Tryz.strings_Join bb (bo + j1) (cb - j1) (((linesB t).drop j1).take (k1 - j1)) ⟨#[]⟩ wc hbb hbk (by omega) (by omega) (by show (Lib.join _ []).length ≤ _; omega)
          rw [x1] at hJ
          have hed : edCells (edOf u (linesB t) (Opn.ins i1 j1 k1)) = [.string u, .int .i64 ((a : Int) + 1), .int .i64 1, .int .i64 (co1 a), .int .i64 ((a2 : Int) + 1), .int .i64 1, .int .i64 (co1 a2), .string (opText (linesB t) (Opn.ins 0 j1 k1))] := by
            have h1 := hA2.out.1
            have h2 := hA2.out.2
            simp only [oS, oE] at h1 h2
            subst h1; subst h2
            rfl
          have HJ : Hid (Calls Tryz.prog 34 #[.slice (some ⟨bb, bo + j1, none⟩) (k1 - j1) (cb - j1), .string ⟨#[]⟩] wc fun e w' => e = .returned (.string (opText (linesB t) (Opn.ins 0 j1 k1))) ∧ Below wc.heap.size wc w') := hide hJ
          have HEd := hide hed
          clear hJ hbb hed hBe x1 x2
          generalize hT : opText (linesB t) (Opn.ins 0 j1 k1) = T at *
          clear hT
          go_wp2_with fail
          refine HJ.out.mono ?_
          rintro e w6 ⟨rfl, hb6⟩
          have hbl6 := hbl5.trans (hb6.mono hbl5.size)
          have hown6 := own_kept hown5 hb6
          have s8 := (hsp.kept hb6).seven
          have ls6 := (hsp.kept hb6).lt
          have E1 := hide (fun (w1 : World) (g2 cap2 : Nat) (o : Obj) => crel_step (w1 := w1) (g2 := g2) (cap2 := cap2) (o := o) hlt HOpx.out HEd.out hown6 hbl6)
          clear hown5 s7 g5 hb6
          generalize hX : ((ops.take j).map (fun o => edCells (edOf u (linesB t) o))).flatten = X at *
          clear hX
          go_wp2_with (first
            | (at_builtin; refine wpList_append_lies _ rfl _ _ 45 rfl w3.heap.size 89 i0 _ 8 80 Tryz.underlying45 hi0 hz0 hz1 hzb rfl (by omega) (.slice A2 j c2) j X (by rfl) (hown6.alloc _) ⟨w6.heap.size, 0, none⟩ 1 1 [.string u, .int .i64 ((a : Int) + 1), .int .i64 1, .int .i64 (co1 a), .int .i64 ((a2 : Int) + 1), .int .i64 1, .int .i64 (co1 a2), .string T] (by rfl) (by rfl) (World.news_of_block (cs := #[.string u, .int .i64 ((a : Int) + 1), .int .i64 1, .int .i64 (co1 a), .int .i64 ((a2 : Int) + 1), .int .i64 1, .int .i64 (co1 a2), .string T]) (t := 89) (fr := (0, 0)) (heap_alloc_new w6 _)) (by simp [Value.oneCell']) (by omega) (by unfold maxLen; omega) (by omega) (by have := hbl6.size; simp; omega) (w6.heap.size + 1) (by simp) ?_; intro g2 cap2 w1 hown1 hgrow hat hlt2))
          go_roundw
          case rel => exact ⟨j + 1, by go_num, by omega, hide (E1.out _ _ _ _ hown1 hgrow)⟩
          case measure => simp [intOf]; omega
    · have : j = ops.length := by omega
      subst this
      obtain ⟨A2, c2, rfl, hown, hbl⟩ := hcr.out
      have hfin := hide (HEnd.out _ _ _ hown hbl)
      clear hlt hown
      go_wp2
      go_ret
      exact hfin.out
end Go.Proofs.YtgegialfhkgggaaGreatDoor
namespace Go.Proofs.YtgegialfhkgggaaGreatDoor
open Go.RowKit Mye Go.Proofs.YtgegialfhkgggaaGreatDoor.Lines
attribute [local go_sem ↓] Go.wp_at_zero Go.wp_at_succ

/-- An edit as plain data. -/
def ofCells (e : Ed) : List Value := [.int .i64 (oL e.l), .int .i64 (oC e.l e.c), .int .i64 (oO e.o), .int .i64 (oL e.l2), .int .i64 (oC e.l2 e.c2), .int .i64 (oO e.o2), .string e.t]
theorem info_ed : (Tryz.prog.info? 80).map (fun i => (i.zero, i.size, i.bytes)) = some (some (.agg #[.int .i64 0, .int .i64 0, .int .i64 0, .int .i64 0, .int .i64 0, .int .i64 0, .string ⟨#[]⟩]), 7, 64) := by kernel_rfl
def ofRes (w : World) (es : List Ed) (e : Ending) (w' : World) : Prop := ∃ A c, e = .returned (.slice A es.length c) ∧ es.length ≤ c ∧ RowsAt w' A 7 (es.map ofCells) ∧ Below w.heap.size w w'
def OfRel (w wr : World) (es : List Ed) (j : Nat) (ev : Value) : Prop := ∃ A c, ev = .slice A j c ∧ wr.ownsRow w.heap.size 80 7 (.slice A j c) j ((es.take j).map ofCells).flatten ∧ Below w.heap.size w wr
theorem Blk.eight {w : World} {g : Nat} {t : TypeId} {a b c d e f k m : Value} (h : Blk w g t #[a, b, c, d, e, f, k, m]) :
    (w.cell? ⟨g, 0, none⟩ = some a ∧ w.cell? ⟨g, 1, none⟩ = some b ∧ w.cell? ⟨g, 2, none⟩ = some c ∧ w.cell? ⟨g, 3, none⟩ = some d ∧ w.cell? ⟨g, 4, none⟩ = some e ∧ w.cell? ⟨g, 5, none⟩ = some f ∧ w.cell? ⟨g, 6, none⟩ = some k ∧ w.cell? ⟨g, 7, none⟩ = some m) :=
  ⟨h.cell 0, h.cell 1, h.cell 2, h.cell 3, h.cell 4, h.cell 5, h.cell 6, h.cell 7⟩

/-- One block reads as it did. -/
abbrev SC (g : Nat) (W w' : World) : Prop := (∀ o, w'.cell? ⟨g, o, none⟩ = W.cell? ⟨g, o, none⟩) ∧ W.heap.size ≤ w'.heap.size
theorem SC.start {g : Nat} {W : World} : SC g W W.drew := ⟨fun _ => rfl, Nat.le_refl _⟩
theorem SC.call {g : Nat} {W w1 w2 : World} (hg : g < W.heap.size) (h : SC g W w1) (hb : Below w1.heap.size w1 w2) : SC g W w2 :=
  ⟨fun o => (hb.cell (p := ⟨g, o, none⟩) (by have := h.2; dsimp only; omega)).trans (h.1 o), Nat.le_trans h.2 hb.size⟩
theorem SC.alloc {g : Nat} {W w1 : World} (hg : g < W.heap.size) (h : SC g W w1) (o : Obj) : SC g W (w1.alloc o) :=
  SC.call hg h ((Below.refl w1.heap.size w1).alloc (Nat.le_refl _) o)
theorem SC.app {g : Nat} {W w1 w2 : World} {row : Option Nat} (hg : g < W.heap.size) (h : SC g W w1) (hgr : w1.grownBy w2 row) (hne : some g ≠ row) : SC g W w2 :=
  ⟨fun o => (World.cell?_of_block (a := ⟨g, o, none⟩) (hgr.block g (by have := h.2; omega) hne)).trans (h.1 o), Nat.le_trans h.2 hgr.size⟩
theorem below_next {W a b : World} (h : Below W.heap.size W a) (hb : Below a.heap.size a b) : Below W.heap.size W b := h.trans (hb.mono h.size)
theorem below_first {W b : World} (hb : Below W.drew.heap.size W.drew b) : Below W.heap.size W b := ⟨hb.os, hb.tape, hb.output, hb.size, hb.block⟩
theorem own_alloc {w1 : World} {base sz n : Nat} {t : TypeId} {v : Value} {xs : List Value} {W : World} (h : W.ownsRow base t sz v n xs) (hb : Below W.heap.size W w1) (o : Obj) : (w1.alloc o).ownsRow base t sz v n xs := (own_kept h hb).alloc o
set_option maxHeartbeats 4000000 in
set_option maxRecDepth 100000 in
theorem editsOf_any (es : List Ed) (A : Option Addr) (c : Nat) (hn : es.length ≤ 1000000) (w : World) (hA : RowsAt w A 8 (es.map edCells)) : Calls Tryz.prog 21 #[.slice A es.length c] w (ofRes w es) := by
  obtain ⟨i0, hi0, hz0, hz1, hzb⟩ := info_parts info_ed
  have HA := hide hA
  clear hA
  go_enter Tryz.func21, Tryz.ntmps21
  go_wp2
  go_loopw [3, 9] (fun ev jv wr => ∃ j : Nat, jv = .int .i64 j ∧ j ≤ es.length ∧ Hid (OfRel w wr es j ev)) (fun _ jv _ => es.length - (intOf jv).toNat)
  case atStart => exact ⟨0, rfl, Nat.zero_le _, hide ⟨some ⟨w.heap.size, 0, none⟩, 0, rfl, ⟨rfl, Or.inr ⟨w.heap.size, 0, #[], rfl, Nat.le_refl _, Blk.new _ _ _, Nat.le_refl _, by unfold maxLen; omega, rfl, rfl⟩⟩, by go_grown⟩⟩
  case round =>
    obtain ⟨j, rfl, hj, hcr⟩ := hrel
    obtain ⟨A2, c2, rfl, hown, hbl⟩ := hcr.out
    by_cases hlt : j < es.length
    · have hrows := HA.out.kept hbl
      obtain ⟨b, o, rfl, h0⟩ := hrows j 0 (by simpa using hlt) (by omega)
      have hc : ∀ i, i < 8 → wr.cell? ⟨b, o + j * 8 + i, none⟩ = some ((edCells es[j]).getD i undef) := by
        intro i hi
        obtain ⟨b', o', e, h⟩ := hrows j i (by simpa using hlt) hi
        injection e with e
        injection e with e1 e2
        subst e1; subst e2
        rw [Nat.add_assoc, h]
        simp [List.getD_eq_getElem?_getD, List.getElem?_eq_getElem hlt]
      obtain ⟨e, he⟩ : ∃ e, es[j] = e := ⟨_, rfl⟩
      rw [he] at hc
      obtain ⟨u, l, cc, oo, l2, c3, o2, t⟩ := e
      have d0 := hc 0 (by omega)
      have d1 := hc 1 (by omega)
      have d2 := hc 2 (by omega)
      have d3 := hc 3 (by omega)
      have d4 := hc 4 (by omega)
      have d5 := hc 5 (by omega)
      have d6 := hc 6 (by omega)
      have d7 := hc 7 (by omega)
      simp only [edCells, List.getD_cons_zero, List.getD_cons_succ, Nat.add_zero] at d0 d1 d2 d3 d4 d5 d6 d7
      have HOwn := hide hown
      have HE := hide he
      clear hc h0 hrows hown hcr he
      go_upto_region 5 with fail
      refine wp_gen ?_
      intro W hW
      have hbW : Below wr.heap.size wr W := by rw [hW]; go_grown
      have b1 : Blk W wr.heap.size 89 #[.string u, .int .i64 l, .int .i64 cc, .int .i64 oo, .int .i64 l2, .int .i64 c3, .int .i64 o2, .string t] := by rw [hW]; exact Blk.new _ _ _
      have f1 := b1.eight
      have l1 := b1.lt
      clear hW d0 d1 d2 d3 d4 d5 d6 d7
      have HOwnW := hide (own_kept HOwn.out hbW)
      have hblW := hbl.trans (hbW.mono hbl.size)
      have hX : Hid (∀ (w5 w1 : World) (g2 cap2 : Nat) (o : Obj), Below W.heap.size W w5 → w1.ownsRow w.heap.size 80 7 (.slice (some ⟨g2, 0, none⟩) (j + 1) cap2) (j + 1) (((es.take j).map ofCells).flatten ++ [.int .i64 (oL l), .int .i64 (oC l cc), .int .i64 (oO oo), .int .i64 (oL l2), .int .i64 (oC l2 c3), .int .i64 (oO o2), .string t]) →
          (w5.alloc o).grownBy w1 (Value.slice A2 j c2).ownBlock → OfRel w w1 es (j + 1) (.slice (some ⟨g2, 0, none⟩) (j + 1) cap2)) := hide (fun w5 w1 g2 cap2 o hb5 h1 h2 => by
        have hbl5 := hblW.trans (hb5.mono hblW.size)
        have ho5 := own_kept HOwnW.out hb5
        have hB := below_grown_alloc hbl5 hbl5.size h2 (fun k hk => own_ge ho5 k hk)
        refine ⟨_, _, rfl, ?_, hB⟩
        have e : ((es.take (j + 1)).map ofCells).flatten = ((es.take j).map ofCells).flatten ++ [.int .i64 (oL l), .int .i64 (oC l cc), .int .i64 (oO oo), .int .i64 (oL l2), .int .i64 (oC l2 c3), .int .i64 (oO o2), .string t] := by
          rw [List.take_succ_eq_append_getElem hlt, List.map_append, List.flatten_append, HE.out]
          simp [ofCells]
        rw [e]
        exact h1)
      generalize hXs : ((es.take j).map ofCells).flatten = X at *
      clear hXs
      have hD : W.drew.heap.size = W.heap.size := rfl
      have hneq : some wr.heap.size ≠ (Value.slice A2 j c2).ownBlock := by
        have h := HOwn.out
        rcases h.2 with ⟨h1, _⟩ | ⟨g, cap, cur, h1, _, h3, _⟩
        · rw [h1]; simp [Value.ownBlock]
        · rw [h1]
          simp [Value.ownBlock]
          have : g < wr.heap.size := Blk.lt (show Blk wr g 80 cur from h3)
          omega
      go_region_held3 (fun w' => (∀ o, w'.cell? ⟨wr.heap.size, o, none⟩ = W.cell? ⟨wr.heap.size, o, none⟩) ∧ W.heap.size ≤ w'.heap.size)
        (first
          | (with_reducible exact SC.start)
          | (go_split_ands; (with_reducible refine SC.app l1 ?_ hgrow hneq); exact SC.alloc l1 ⟨by assumption, by assumption⟩ _)
          | (go_split_ands; (with_reducible refine SC.app l1 ?_ hgrow hneq); exact ⟨by assumption, by assumption⟩)
          | (go_split_ands; (with_reducible refine SC.call l1 ?_ hb); exact ⟨by assumption, by assumption⟩)
          | (go_split_ands; (with_reducible refine SC.alloc l1 ?_ _); exact ⟨by assumption, by assumption⟩))
        (first
          | (go_at_call 38; refine (start_any _ _ _ _ _ _ _ _).mono ?_; rintro e w1 ⟨rfl, hb⟩; have hzz := hb.size; (try simp only [World.size_alloc, World.size_drew_] at hzz); (first | (have hZ := below_next hZ hb) | (have hZ := below_first hb)))
          | (go_at_call 39; refine (end_any _ _ _ _ _ _ _ _).mono ?_; rintro e w1 ⟨rfl, hb⟩; have hzz := hb.size; (try simp only [World.size_alloc, World.size_drew_] at hzz); (first | (have hZ := below_next hZ hb) | (have hZ := below_first hb)))
          | (go_at_call 37; refine (pointOf_any _ _ _ _).mono ?_; rintro e w1 ⟨rfl, hb⟩; have hzz := hb.size; (try simp only [World.size_alloc, World.size_drew_] at hzz); (first | (have hZ := below_next hZ hb) | (have hZ := below_first hb)))
          | (refine step_append_lies _ rfl _ _ 24 rfl w.heap.size 80 i0 _ 7 64 Tryz.underlying24 hi0 hz0 hz1 hzb rfl (by omega) (.slice A2 j c2) j X (by rfl) (own_alloc HOwnW.out hZ _) ⟨w1.heap.size, 0, none⟩ 1 1 [.int .i64 (oL l), .int .i64 (oC l cc), .int .i64 (oO oo), .int .i64 (oL l2), .int .i64 (oC l2 c3), .int .i64 (oO o2), .string t] (by rfl) (by rfl) (World.news_of_block (cs := #[.int .i64 (oL l), .int .i64 (oC l cc), .int .i64 (oO oo), .int .i64 (oL l2), .int .i64 (oC l2 c3), .int .i64 (oO o2), .string t]) (t := 80) (fr := (0, 0)) (heap_alloc_new w1 _)) (by simp [Value.oneCell']) (by omega) (by unfold maxLen; omega) (by omega) (by have := hblW.size; have := hZ.size; simp; omega) (w1.heap.size + 1) (by simp) ?_; intro g2 cap2 w5 hown1 hgrow hat hlt2))
      have hZ2 := hZ
      go_wp2
      go_roundw
      case rel => exact ⟨j + 1, by go_num, by omega, hide (hX.out _ _ _ _ _ hZ2 hown1 hgrow)⟩
      case measure => simp [intOf]; omega
    · have : j = es.length := by omega
      subst this
      have he : (es.map ofCells).length = es.length := by rw [List.length_map]
      have hfin : Hid (ofRes w es (.returned (.slice A2 es.length c2)) wr) := hide ⟨A2, c2, rfl, own_le hown, by
        rw [List.take_length] at hown
        refine own_rows (base := w.heap.size) (c := c2) (t := 80) (by rw [he]; exact hown) (fun r hr => ?_)
        obtain ⟨x, _, rfl⟩ := List.mem_map.1 hr; rfl, hbl⟩
      clear hlt hown he
      go_wp2
      go_ret
      exact hfin.out
end Go.Proofs.YtgegialfhkgggaaGreatDoor
namespace Go.Proofs.YtgegialfhkgggaaGreatDoor
open Go.RowKit Mye Go.Proofs.YtgegialfhkgggaaGreatDoor.Lines
attribute [local go_sem ↓] Go.wp_at_zero Go.wp_at_succ

/-- An edit of plain data. -/
structure Pe where
  l : Int
  c : Int
  o : Int
  l2 : Int
  c2 : Int
  o2 : Int
  t : ByteArray
def peCells (e : Pe) : List Value := [.int .i64 e.l, .int .i64 e.c, .int .i64 e.o, .int .i64 e.l2, .int .i64 e.c2, .int .i64 e.o2, .string e.t]
/-- The edit that it is made to. -/
def toEd (e : Pe) : Ed := ⟨⟨#[97]⟩, cl e.l, cc e.l e.c, co e.l e.c e.o, eN (cl e.l2) (cc e.l2 e.c2) (co e.l2 e.c2 e.o2) (cl e.l) (cl e.l2), eN (cl e.l2) (cc e.l2 e.c2) (co e.l2 e.c2 e.o2) (cc e.l e.c) (cc e.l2 e.c2), eN (cl e.l2) (cc e.l2 e.c2) (co e.l2 e.c2 e.o2) (co e.l e.c e.o) (co e.l2 e.c2 e.o2), e.t⟩
def ToRel (w wr : World) (es : List Pe) (j : Nat) (ev : Value) : Prop := ∃ A c, ev = .slice A j c ∧ wr.ownsRow w.heap.size 89 8 (.slice A j c) j ((es.take j).map (fun e => edCells (toEd e))).flatten ∧ Below w.heap.size w wr

set_option maxHeartbeats 4000000 in
set_option maxRecDepth 100000 in
theorem editsTo_any (es : List Pe) (A : Option Addr) (c : Nat) (hn : es.length ≤ 1000000) (w : World) (hA : RowsAt w A 7 (es.map peCells)) : Calls Tryz.prog 24 #[.slice A es.length c] w (EdsRes w (es.map toEd)) := by
  obtain ⟨i0, hi0, hz0, hz1, hzb⟩ := info_parts info_te
  have HA := hide hA
  clear hA
  go_enter Tryz.func24, Tryz.ntmps24
  go_wp2
  go_loopw [3, 9] (fun ev jv wr => ∃ j : Nat, jv = .int .i64 j ∧ j ≤ es.length ∧ Hid (ToRel w wr es j ev)) (fun _ jv _ => es.length - (intOf jv).toNat)
  case atStart => exact ⟨0, rfl, Nat.zero_le _, hide ⟨some ⟨w.heap.size, 0, none⟩, 0, rfl, ⟨rfl, Or.inr ⟨w.heap.size, 0, #[], rfl, Nat.le_refl _, Blk.new _ _ _, Nat.le_refl _, by unfold maxLen; omega, rfl, rfl⟩⟩, by go_grown⟩⟩
  case round =>
    obtain ⟨j, rfl, hj, hcr⟩ := hrel
    obtain ⟨A2, c2, rfl, hown, hbl⟩ := hcr.out
    by_cases hlt : j < es.length
    · have hrows := HA.out.kept hbl
      obtain ⟨b, o, rfl, h0⟩ := hrows j 0 (by simpa using hlt) (by omega)
      have hc : ∀ i, i < 7 → wr.cell? ⟨b, o + j * 7 + i, none⟩ = some ((peCells es[j]).getD i undef) := by
        intro i hi
        obtain ⟨b', o', e, h⟩ := hrows j i (by simpa using hlt) hi
        injection e with e
        injection e with e1 e2
        subst e1; subst e2
        rw [Nat.add_assoc, h]
        simp [List.getD_eq_getElem?_getD, List.getElem?_eq_getElem hlt]
      obtain ⟨e, he⟩ : ∃ e, es[j] = e := ⟨_, rfl⟩
      rw [he] at hc
      obtain ⟨l, q, oo, l2, c3, o2, t⟩ := e
      have d0 := hc 0 (by omega)
      have d1 := hc 1 (by omega)
      have d2 := hc 2 (by omega)
      have d3 := hc 3 (by omega)
      have d4 := hc 4 (by omega)
      have d5 := hc 5 (by omega)
      have d6 := hc 6 (by omega)
      simp only [peCells, List.getD_cons_zero, List.getD_cons_succ, Nat.add_zero] at d0 d1 d2 d3 d4 d5 d6
      have HOwn := hide hown
      have HE := hide he
      clear hc h0 hrows hown hcr he
      go_upto_region 5 with fail
      refine wp_gen ?_
      intro W hW
      have hbW : Below wr.heap.size wr W := by rw [hW]; go_grown
      have b1 : Blk W wr.heap.size 80 #[.int .i64 l, .int .i64 q, .int .i64 oo, .int .i64 l2, .int .i64 c3, .int .i64 o2, .string t] := by rw [hW]; exact Blk.new _ _ _
      have f1 := b1.seven
      have l1 := b1.lt
      clear hW d0 d1 d2 d3 d4 d5 d6
      have HOwnW := hide (own_kept HOwn.out hbW)
      have hblW := hbl.trans (hbW.mono hbl.size)
      have hX : Hid (∀ (w5 w1 : World) (g2 cap2 : Nat) (o : Obj), Below W.heap.size W w5 → w1.ownsRow w.heap.size 89 8 (.slice (some ⟨g2, 0, none⟩) (j + 1) cap2) (j + 1) (((es.take j).map (fun e => edCells (toEd e))).flatten ++ (edCells (toEd ⟨l, q, oo, l2, c3, o2, t⟩))) →
          (w5.alloc o).grownBy w1 (Value.slice A2 j c2).ownBlock → ToRel w w1 es (j + 1) (.slice (some ⟨g2, 0, none⟩) (j + 1) cap2)) := hide (fun w5 w1 g2 cap2 o hb5 h1 h2 => by
        have hbl5 := hblW.trans (hb5.mono hblW.size)
        have ho5 := own_kept HOwnW.out hb5
        have hB := below_grown_alloc hbl5 hbl5.size h2 (fun k hk => own_ge ho5 k hk)
        refine ⟨_, _, rfl, ?_, hB⟩
        have e : ((es.take (j + 1)).map (fun e => edCells (toEd e))).flatten = ((es.take j).map (fun e => edCells (toEd e))).flatten ++ (edCells (toEd ⟨l, q, oo, l2, c3, o2, t⟩)) := by
          rw [List.take_succ_eq_append_getElem hlt, List.map_append, List.flatten_append, HE.out]
          simp
        rw [e]
        exact h1)
      generalize hXs : ((es.take j).map (fun e => edCells (toEd e))).flatten = X at *
      clear hXs
      have hD : W.drew.heap.size = W.heap.size := rfl
      have hneq : some wr.heap.size ≠ (Value.slice A2 j c2).ownBlock := by
        have h := HOwn.out
        rcases h.2 with ⟨h1, _⟩ | ⟨g, cap, cur, h1, _, h3, _⟩
        · rw [h1]; simp [Value.ownBlock]
        · rw [h1]
          simp [Value.ownBlock]
          have : g < wr.heap.size := Blk.lt (show Blk wr g 89 cur from h3)
          omega
      go_region_held3 (fun w' => (∀ o, w'.cell? ⟨wr.heap.size, o, none⟩ = W.cell? ⟨wr.heap.size, o, none⟩) ∧ W.heap.size ≤ w'.heap.size)
        (first
          | (with_reducible exact SC.start)
          | (go_split_ands; (with_reducible refine SC.app l1 ?_ hgrow hneq); exact SC.alloc l1 ⟨by assumption, by assumption⟩ _)
          | (go_split_ands; (with_reducible refine SC.app l1 ?_ hgrow hneq); exact ⟨by assumption, by assumption⟩)
          | (go_split_ands; (with_reducible refine SC.call l1 ?_ hb); exact ⟨by assumption, by assumption⟩)
          | (go_split_ands; (with_reducible refine SC.alloc l1 ?_ _); exact ⟨by assumption, by assumption⟩))
        (first
          | (go_at_call 48; refine (pointTo_any _ _ _ _).mono ?_; rintro e w1 ⟨rfl, hb⟩; have hzz := hb.size; (try simp only [World.size_alloc, World.size_drew_] at hzz); (first | (have hZ := below_next hZ hb) | (have hZ := below_first hb)))
          | (go_at_call 42; refine (new_any _ _ _ _ _ _ _ _).mono ?_; rintro e w1 ⟨rfl, hb⟩; have hzz := hb.size; (try simp only [World.size_alloc, World.size_drew_] at hzz); (first | (have hZ := below_next hZ hb) | (have hZ := below_first hb)))
          | (refine step_append_lies _ rfl _ _ 45 rfl w.heap.size 89 i0 _ 8 80 Tryz.underlying45 hi0 hz0 hz1 hzb rfl (by omega) (.slice A2 j c2) j X (by rfl) (own_alloc HOwnW.out hZ _) ⟨w1.heap.size, 0, none⟩ 1 1 (edCells (toEd ⟨l, q, oo, l2, c3, o2, t⟩)) (by rfl) (by rfl) (World.news_of_block (cs := (edCells (toEd ⟨l, q, oo, l2, c3, o2, t⟩)).toArray) (t := 89) (fr := (0, 0)) (heap_alloc_new w1 _)) (by simp [Value.oneCell', edCells]) (by omega) (by unfold maxLen; omega) (by omega) (by have := hblW.size; have := hZ.size; simp; omega) (w1.heap.size + 1) (by simp) ?_; intro g2 cap2 w5 hown1 hgrow hat hlt2))
      have hZ2 := hZ
      go_wp2
      go_roundw
      case rel => exact ⟨j + 1, by go_num, by omega, hide (hX.out _ _ _ _ _ hZ2 hown1 hgrow)⟩
      case measure => simp [intOf]; omega
    · have : j = es.length := by omega
      subst this
      have he : (es.map toEd).length = es.length := by rw [List.length_map]
      have hfin : Hid (EdsRes w (es.map toEd) (.returned (.slice A2 es.length c2)) wr) := hide ⟨A2, c2, by rw [he], by rw [he]; exact own_le hown, by
        rw [List.take_length] at hown
        refine own_rows (base := w.heap.size) (c := c2) (t := 89) (by rw [List.length_map, he, List.map_map]; exact hown) (fun r hr => ?_)
        obtain ⟨x, _, rfl⟩ := List.mem_map.1 hr; rfl, hbl⟩
      clear hlt hown he
      go_wp2
      go_ret
      exact hfin.out
end Go.Proofs.YtgegialfhkgggaaGreatDoor
