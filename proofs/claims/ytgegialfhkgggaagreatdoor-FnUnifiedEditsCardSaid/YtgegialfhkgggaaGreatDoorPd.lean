/- Rows in memory; walks: lines and parts of a text. No condition but sizes. -/
import Derived.Test.YtgegialfhkgggaaGreatDoorPa
import Derived.Test.YtgegialfhkgggaaGreatDoorPb
import Derived.Test.YtgegialfhkgggaaGreatDoorPl
import Derived.Lib.Bytealg
import Derived.Deep.AppendLies
set_option linter.unusedVariables false
set_option linter.unusedSimpArgs false
namespace Go.Proofs.YtgegialfhkgggaaGreatDoor
/-- An edit: its name, its points, its text. -/
structure Ed where
  u : ByteArray
  l : Int
  c : Int
  o : Int
  l2 : Int
  c2 : Int
  o2 : Int
  t : ByteArray
def edCells (e : Ed) : List Value := [.string e.u, .int .i64 e.l, .int .i64 e.c, .int .i64 e.o, .int .i64 e.l2, .int .i64 e.c2, .int .i64 e.o2, .string e.t]
end Go.Proofs.YtgegialfhkgggaaGreatDoor
namespace Go.Proofs.YtgegialfhkgggaaGreatDoor
open Go.RowKit

/-- Rows of sz cells each, from an address on. -/
def RowsAt (w : World) (A : Option Addr) (sz : Nat) (rows : List (List Value)) : Prop :=
  ∀ i j, i < rows.length → j < sz → ∃ b o, A = some ⟨b, o, none⟩ ∧ w.cell? ⟨b, o + (i * sz + j), none⟩ = some ((rows.getD i []).getD j undef)
theorem flatten_get : ∀ (rows : List (List Value)) (sz : Nat), (∀ r ∈ rows, r.length = sz) → ∀ i j, i < rows.length → j < sz → rows.flatten[i * sz + j]? = some ((rows.getD i []).getD j undef)
  | [], _, _, i, _, h, _ => absurd h (Nat.not_lt_zero _)
  | r :: rows, sz, hr, 0, j, _, hj => by
    have := hr r (List.mem_cons_self ..)
    rw [List.flatten_cons, Nat.zero_mul, Nat.zero_add, List.getElem?_append_left (by omega)]
    simp [List.getD_eq_getElem?_getD, List.getElem?_eq_getElem (show j < r.length by omega)]
  | r :: rows, sz, hr, i + 1, j, hi, hj => by
    have h1 := hr r (List.mem_cons_self ..)
    rw [List.flatten_cons, List.getElem?_append_right (by rw [h1, Nat.succ_mul]; omega)]
    have e : (i + 1) * sz + j - r.length = i * sz + j := by rw [h1, Nat.succ_mul]; omega
    rw [e, flatten_get rows sz (fun r h => hr r (List.mem_cons_of_mem _ h)) i j (by simpa using hi) hj]
    simp
theorem own_rows {w : World} {base sz : Nat} {A : Option Addr} {c : Nat} {t : TypeId} {rows : List (List Value)} (h : w.ownsRow base t sz (.slice A rows.length c) rows.length rows.flatten) (hr : ∀ r ∈ rows, r.length = sz) : RowsAt w A sz rows := by
  intro i j hi hj
  obtain ⟨g, cap, hv, _, hlt⟩ := h.form (by omega)
  have hA : A = some ⟨g, 0, none⟩ := by injection hv
  subst hA
  refine ⟨g, 0, rfl, ?_⟩
  injection hv with _ _ hcc
  subst hcc
  have hf := flatten_get rows sz hr i j hi hj
  have hlen : i * sz + j < rows.flatten.length := by
    rcases Nat.lt_or_ge (i * sz + j) rows.flatten.length with h | h
    · exact h
    · rw [List.getElem?_eq_none h] at hf; cases hf
  rw [Nat.zero_add, h.cellAt (i * sz + j) (by rw [← h.1]; exact hlen), hf]
theorem RowsAt.kept {w w1 : World} {A : Option Addr} {sz : Nat} {rows : List (List Value)} (h : RowsAt w A sz rows) (hb : Below w.heap.size w w1) : RowsAt w1 A sz rows := by
  intro i j hi hj
  obtain ⟨b, o, e, hc⟩ := h i j hi hj
  exact ⟨b, o, e, kcell hb hc⟩
end Go.Proofs.YtgegialfhkgggaaGreatDoor
namespace Go.Proofs.YtgegialfhkgggaaGreatDoor
open Go.RowKit Go.Proofs.YtgegialfhkgggaaGreatDoor.Lines
attribute [local go_sem ↓] Go.wp_at_zero Go.wp_at_succ

theorem indexByte_nlAt (l : List UInt8) : Lib.indexByte l 10 = if nlAt l < l.length then (nlAt l : Int) else -1 := by
  induction l with
  | nil => rfl
  | cons b t ih =>
    have hle := nlAt_le t
    unfold Lib.indexByte nlAt
    by_cases e : b = 10
    · subst e; simp
    · rw [if_neg e, if_neg (show ¬ (b == 10) = true by simpa using e), ih, List.length_cons]
      by_cases h : nlAt t < t.length
      · rw [if_pos h, if_neg (show ¬ (((nlAt t : Int) == -1) = true) by simp <;> omega), if_pos (show nlAt t + 1 < t.length + 1 by omega)]; rfl
      · rw [if_neg h, if_pos (show ((-1 : Int) == -1) = true by rfl), if_neg (show ¬ nlAt t + 1 < t.length + 1 by omega)]

set_option maxRecDepth 100000 in
theorem indexByte_any (s : ByteArray) (c : Int) (w : World) :
    Calls Tryz.prog 55 #[.string s, .int .u8 c] w fun e w' => e = .returned (.int .i64 (Lib.indexByte s.data.toList c.toNat.toUInt8)) ∧ w' = w := by
  go_enter Tryz.func55, Tryz.ntmps55
  go_wp2
  rw [run_callFunc_extern Tryz.func100 (by kernel_rfl) (by kernel_rfl) (by kernel_rfl) (e := Extern.BytealgIndexByte.indexByte) (by kernel_rfl), Lib.run_indexByteString]
  simp only [Result.andThen]
  rw [Oper.upon_value]
  go_wp2
  go_ret
  exact ⟨rfl, rfl⟩

theorem indexNl_any (s : ByteArray) (w : World) :
    Calls Tryz.prog 55 #[.string s, .int .u8 10] w fun e w' => e = .returned (.int .i64 (if nlAt s.data.toList < s.size then (nlAt s.data.toList : Int) else -1)) ∧ w = w' := by
  refine (indexByte_any s 10 w).mono ?_
  rintro e w' ⟨rfl, rfl⟩
  refine ⟨?_, rfl⟩
  have h := indexByte_nlAt s.data.toList
  rw [show s.data.toList.length = s.size from by rw [Array.length_toList]; rfl] at h
  rw [← h]
  rfl

/-- The lines of a text, as texts. -/
def linesB (s : ByteArray) : List ByteArray := (linesL s.data.toList).map toB
theorem size_list (s : ByteArray) : s.data.toList.length = s.size := by rw [Array.length_toList]; rfl
theorem linesB_length (s : ByteArray) : (linesB s).length = (stTo s s.size).length := by
  unfold linesB
  rw [List.length_map]
  cases hn : s.size with
  | zero =>
    have : s.data.toList = [] := List.length_eq_zero_iff.1 (by rw [size_list, hn])
    rw [this]; rfl
  | succ k =>
    have hne : s.data.toList ≠ [] := fun h => by have := size_list s; rw [h, List.length_nil] at this; omega
    rw [linesL_length _ hne, size_list, hn, stTo_length s k (by omega)]
    rfl
/-- Nothing is left of an empty text; a text that isn't empty begins with its first line. -/
theorem linesB_cons {s : ByteArray} {n : Nat} (h0 : 0 < s.size) (hn : n = if nlAt s.data.toList < s.size then nlAt s.data.toList + 1 else s.size) :
    linesB s = s.extract 0 n :: linesB (s.extract n s.size) := by
  have hne : s.data.toList ≠ [] := fun h => by have := size_list s; rw [h, List.length_nil] at this; omega
  have hle := nlAt_le s.data.toList
  rw [size_list] at hle
  unfold linesB
  rw [linesL_cons _ hne, List.map_cons]
  have e1 : (s.extract 0 n).data.toList = s.data.toList.take (nlAt s.data.toList + 1) := by
    rw [extract_list, List.drop_zero, hn]
    split
    · simp
    · rw [List.take_of_length_le (by rw [size_list]; omega), List.take_of_length_le (by rw [size_list]; omega)]
  have e2 : (s.extract n s.size).data.toList = s.data.toList.drop (nlAt s.data.toList + 1) := by
    rw [extract_list, List.take_of_length_le (by rw [List.length_drop, size_list]; omega), hn]
    split
    · rfl
    · rw [List.drop_of_length_le (by rw [size_list]; omega), List.drop_of_length_le (by rw [size_list]; omega)]
  rw [e2, ← e1, toB_of]

/-- What spec.Lines leaves: a list of texts. -/
def LinesRes (w : World) (ss : List ByteArray) (e : Ending) (w' : World) : Prop := ∃ A c, e = .returned (.slice A ss.length c) ∧ ss.length ≤ c ∧ Strs w' A ss ∧ Below w.heap.size w w'

theorem info_str : (Tryz.prog.info? 9).map (fun i => (i.zero, i.size, i.bytes)) = some (some (.string ⟨#[]⟩), 1, 16) := by kernel_rfl

theorem own_strs {w : World} {base : Nat} {A : Option Addr} {c : Nat} {zs : List ByteArray} {t : TypeId} (h : w.ownsRow base t 1 (.slice A zs.length c) zs.length (zs.map Value.string)) : Strs w A zs := by
  intro i hi
  obtain ⟨g, cap, hv, _, hlt⟩ := h.form (by omega)
  have hA : A = some ⟨g, 0, none⟩ := by injection hv
  subst hA
  refine ⟨g, 0, rfl, ?_⟩
  injection hv with _ _ hcc
  subst hcc
  rw [Nat.zero_add, h.cellAt i (by omega)]
  simp [List.getD_eq_getElem?_getD, List.getElem?_eq_getElem hi]

theorem own_le {w : World} {base n sz : Nat} {A : Option Addr} {c : Nat} {xs : List Value} {t : TypeId} (h : w.ownsRow base t sz (.slice A n c) n xs) : n ≤ c := by
  rcases h.2 with ⟨h1, h2⟩ | ⟨g, cap, cur, h1, _, _, h2, _⟩
  · omega
  · injection h1 with _ _ h3; omega

/-- The relation of its loop: the lines noted, and the text that is left. -/
def LinesRel (w wr : World) (s : ByteArray) (out t : Value) : Prop := ∃ (done : List ByteArray) (r : ByteArray) (A : Option Addr) (c : Nat), t = .string r ∧ out = .slice A done.length c ∧ r.size + done.length ≤ s.size ∧ linesB s = done ++ linesB r ∧
  wr.ownsRow w.heap.size 9 1 (.slice A done.length c) done.length (done.map Value.string) ∧ Below w.heap.size w wr

theorem lines_step {w wr w1 : World} {s r : ByteArray} {done : List ByteArray} {A : Option Addr} {c g2 cap2 n : Nat} {o : Obj} {x y : ByteArray} (hx : r.extract 0 n = x) (hy : r.extract n r.size = y) (hle : r.size + done.length ≤ s.size) (hlin : linesB s = done ++ linesB r) (h0 : 0 < r.size)
    (hn : n = if nlAt r.data.toList < r.size then nlAt r.data.toList + 1 else r.size)
    (hown : wr.ownsRow w.heap.size 9 1 (.slice A done.length c) done.length (done.map Value.string)) (hbl : Below w.heap.size w wr)
    (hown1 : w1.ownsRow w.heap.size 9 1 (.slice (some ⟨g2, 0, none⟩) (done.length + 1) cap2) (done.length + 1) (done.map Value.string ++ [.string x]))
    (hgrow : (wr.alloc o).grownBy w1 (Value.slice A done.length c).ownBlock) :
    LinesRel w w1 s (.slice (some ⟨g2, 0, none⟩) (done.length + 1) cap2) (.string y) := by
  subst hx; subst hy
  have hB := below_grown_alloc hbl hbl.size hgrow (fun k hk => own_ge hown k hk)
  have h1 : 1 ≤ n := by rw [hn]; split <;> omega
  refine ⟨done ++ [r.extract 0 n], r.extract n r.size, some ⟨g2, 0, none⟩, cap2, rfl, ?_, ?_, ?_, ?_, hB⟩
  · rw [List.length_append]; rfl
  · rw [List.length_append, ByteArray.size_extract]; simp; omega
  · rw [hlin, linesB_cons h0 hn]; simp
  · rw [List.length_append, List.map_append]; exact hown1

theorem string_empty {r : ByteArray} (h : r.size = 0) : r = ⟨#[]⟩ := by
  cases r; simp [ByteArray.size] at h; rw [h]

theorem str_ne {r : ByteArray} (h : ¬ r.size = 0) : r.toList.isEmpty = false := by
  have h1 : r.toList = r.data.toList := ByteArray.toList_eq r
  rw [h1]
  cases hl : r.data.toList with
  | nil => exact absurd (by rw [← size_list, hl]; rfl) h
  | cons b t => rfl

set_option maxHeartbeats 2000000 in
set_option maxRecDepth 100000 in
theorem lines_any (s : ByteArray) (hs : s.size ≤ 2147483647) (w : World) : Calls Tryz.prog 28 #[.string s] w (LinesRes w (linesB s)) := by
  obtain ⟨i0, hi0, hz0, hz1, hz2⟩ := info_parts info_str
  go_enter Tryz.func28, Tryz.ntmps28
  go_wp2
  go_loopw [0, 3] (fun t out wr => LinesRel w wr s out t) (fun t _ _ => match t with | .string r => r.size | _ => 0)
  case atStart =>
    exact ⟨[], s, some ⟨w.heap.size, 0, none⟩, 0, rfl, rfl, by simp, by simp, ⟨rfl, Or.inr ⟨w.heap.size, 0, #[], rfl, Nat.le_refl _, Blk.new _ _ _, Nat.le_refl _, by unfold maxLen; omega, rfl, rfl⟩⟩, by go_grown⟩
  case round =>
    obtain ⟨done, r, A, cc, rfl, rfl, hle, hlin, hown, hbl⟩ := hrel
    by_cases hr : r.size = 0
    · have := string_empty hr
      subst this
      have HL := hide hlin
      clear hlin
      go_wp2
      go_ret
      have hd : linesB s = done := by rw [HL.out]; simp [linesB, linesL]
      exact ⟨A, cc, by rw [hd]; rfl, by rw [hd]; exact own_le hown, by rw [hd]; exact own_strs hown, hbl⟩
    · have hne : r.toList.isEmpty = false := by
        exact str_ne hr
      have hsz := hbl.size
      by_cases hk : nlAt r.data.toList < r.size
      · have hI : ∀ W, Calls Tryz.prog 55 #[.string r, .int .u8 10] W fun e w' => e = .returned (.int .i64 (nlAt r.data.toList : Nat)) ∧ W = w' := fun W => by
          have h := indexNl_any r W
          rw [if_pos hk] at h
          exact h
        have E1 := hide (fun (w1 : World) (g2 cap2 : Nat) (o : Obj) => lines_step (w1 := w1) (g2 := g2) (cap2 := cap2) (o := o) (n := nlAt r.data.toList + 1) rfl rfl hle hlin (by omega) (by rw [if_pos hk]) hown hbl)
        have HI := hide hI
        clear hI hlin
        generalize nlAt r.data.toList = k at *
        generalize hL : done.length = L at *
        generalize hX : done.map Value.string = X at *
        clear hL hX
        have hc : (((k : Int) + 1) == 0) = false := by simp; omega
        go_wp2_with fail
        refine (HI.out _).mono ?_
        rintro e w1 ⟨rfl, rfl⟩
        go_wp2_with (first
          | (at_builtin; refine wpList_append_lies _ rfl _ _ 38 rfl w.heap.size 9 i0 _ 1 16 Tryz.underlying38 hi0 hz0 hz1 hz2 rfl (by omega) (.slice A L cc) L X (by rfl) (hown.alloc _) ⟨wr.heap.size, 0, none⟩ 1 1 [.string (r.extract 0 (k + 1))] (by rfl) (by rfl) (World.news_of_block (cs := #[.string (r.extract 0 (k + 1))]) (t := 9) (fr := (0, 0)) (heap_alloc_new wr _)) (by simp [Value.oneCell']) (by omega) (by unfold maxLen; omega) (by omega) (by simp; omega) (wr.heap.size + 1) (by simp) ?_; intro g2 cap2 w1 hown1 hgrow hat hlt2))
        go_roundw
        case rel => exact E1.out _ _ _ _ hown1 hgrow
        case measure => simp; omega
      · have hI : ∀ W, Calls Tryz.prog 55 #[.string r, .int .u8 10] W fun e w' => e = .returned (.int .i64 (-1)) ∧ W = w' := fun W => by
          have h := indexNl_any r W
          rw [if_neg hk] at h
          exact h
        have E1 := hide (fun (w1 : World) (g2 cap2 : Nat) (o : Obj) => lines_step (w1 := w1) (g2 := g2) (cap2 := cap2) (o := o) (n := r.size) (x := r) (y := ByteArray.empty) (by simp) (by simp) hle hlin (by omega) (by rw [if_neg hk]) hown hbl)
        have HI := hide hI
        clear hI hlin hk
        generalize hL : done.length = L at *
        generalize hX : done.map Value.string = X at *
        clear hL hX
        go_wp2_with fail
        refine (HI.out _).mono ?_
        rintro e w1 ⟨rfl, rfl⟩
        go_wp2_with (first
          | (at_builtin; refine wpList_append_lies _ rfl _ _ 38 rfl w.heap.size 9 i0 _ 1 16 Tryz.underlying38 hi0 hz0 hz1 hz2 rfl (by omega) (.slice A L cc) L X (by rfl) (hown.alloc _) ⟨wr.heap.size, 0, none⟩ 1 1 [.string r] (by rfl) (by rfl) (World.news_of_block (cs := #[.string r]) (t := 9) (fr := (0, 0)) (heap_alloc_new wr _)) (by simp [Value.oneCell']) (by omega) (by unfold maxLen; omega) (by omega) (by simp; omega) (wr.heap.size + 1) (by simp) ?_; intro g2 cap2 w1 hown1 hgrow hat hlt2))
        go_roundw
        case rel => exact E1.out _ _ _ _ hown1 hgrow
        case measure => simp; omega
end Go.Proofs.YtgegialfhkgggaaGreatDoor
namespace Go.Proofs.YtgegialfhkgggaaGreatDoor
open Go.RowKit Go.Proofs.YtgegialfhkgggaaGreatDoor.Lines
attribute [local go_sem ↓] Go.wp_at_zero Go.wp_at_succ

theorem splitL_cons : ∀ (l : List UInt8), nlAt l < l.length → splitL l = l.take (nlAt l + 1) :: splitL (l.drop (nlAt l + 1))
  | [], h => by simp [nlAt] at h
  | b :: t, h => by
    rw [splitL, nlAt]
    by_cases e : b = 10
    · rw [if_pos e, if_pos e]; simp
    · rw [nlAt, if_neg e] at h
      rw [if_neg e, if_neg e, splitL_cons t (by simpa using h)]; simp
theorem splitL_last : ∀ (l : List UInt8), nlAt l = l.length → splitL l = [l]
  | [], _ => rfl
  | b :: t, h => by
    rw [nlAt] at h
    by_cases e : b = 10
    · rw [if_pos e] at h; simp at h
    · rw [if_neg e] at h
      rw [splitL, if_neg e, splitL_last t (by simpa using h)]
/-- The parts behind newlines, as texts. -/
def splitB (s : ByteArray) : List ByteArray := (splitL s.data.toList).map toB
theorem bt_drop (s : ByteArray) (f k : Nat) : (s.data.toList.drop f).getD k 0 = s.data.toList.getD (f + k) 0 := by
  rw [List.getD_eq_getElem?_getD, List.getElem?_drop, List.getD_eq_getElem?_getD]
theorem bt_ten {s : ByteArray} {k : Nat} : bt s k = 10 ↔ s.data.toList.getD k 0 = 10 := by
  unfold bt
  constructor
  · intro h; exact UInt8.toNat_inj.1 (by rw [h]; rfl)
  · intro h; rw [h]; rfl
theorem sub_B (s : ByteArray) (a b : Nat) : s.extract a b = toB ((s.data.toList.drop a).take (b - a)) := eq_of_list (by rw [extract_list, toB_list])

/-- The relation of the loop at byte i: the parts noted, and where the next one begins. -/
def SplitRel (w wr : World) (s : ByteArray) (out : Value) (f i : Nat) : Prop := ∃ (done : List ByteArray) (A : Option Addr) (c : Nat), out = .slice A done.length c ∧ done.length ≤ f ∧
  splitB s = done ++ (splitL (s.data.toList.drop f)).map toB ∧ i - f ≤ nlAt (s.data.toList.drop f) ∧
  wr.ownsRow w.heap.size 9 1 (.slice A done.length c) done.length (done.map Value.string) ∧ Below w.heap.size w wr

theorem split_step {w wr w1 : World} {s x : ByteArray} {done : List ByteArray} {A : Option Addr} {c g2 cap2 f i : Nat} {o : Obj} (hx : s.extract f (i + 1) = x) (hi : i < s.size) (hfi : f ≤ i) (hle : done.length ≤ f)
    (hsp : splitB s = done ++ (splitL (s.data.toList.drop f)).map toB) (hnl : i - f ≤ nlAt (s.data.toList.drop f)) (h10 : bt s i = 10)
    (hown : wr.ownsRow w.heap.size 9 1 (.slice A done.length c) done.length (done.map Value.string)) (hbl : Below w.heap.size w wr)
    (hown1 : w1.ownsRow w.heap.size 9 1 (.slice (some ⟨g2, 0, none⟩) (done.length + 1) cap2) (done.length + 1) (done.map Value.string ++ [.string x]))
    (hgrow : (wr.alloc o).grownBy w1 (Value.slice A done.length c).ownBlock) :
    SplitRel w w1 s (.slice (some ⟨g2, 0, none⟩) (done.length + 1) cap2) (i + 1) (i + 1) := by
  subst hx
  have hB := below_grown_alloc hbl hbl.size hgrow (fun k hk => own_ge hown k hk)
  have hl : (s.data.toList.drop f).length = s.size - f := by rw [List.length_drop, size_list]
  have hn : nlAt (s.data.toList.drop f) = i - f := nlAt_hit _ _ (by omega) hnl (by rw [bt_drop, show f + (i - f) = i by omega]; exact bt_ten.1 h10)
  refine ⟨done ++ [s.extract f (i + 1)], some ⟨g2, 0, none⟩, cap2, by rw [List.length_append]; rfl, by rw [List.length_append]; simp; omega, ?_, by omega, ?_, hB⟩
  · rw [hsp, splitL_cons _ (by omega), hn, List.map_cons, sub_B, List.drop_drop, show f + (i - f + 1) = i + 1 by omega, show i + 1 - f = i - f + 1 by omega]
    simp
  · rw [List.length_append, List.map_append]; exact hown1

theorem split_end {w wr w1 : World} {s x : ByteArray} {done : List ByteArray} {A : Option Addr} {c g2 cap2 f : Nat} {o : Obj} (hx : s.extract f s.size = x) (hf : f ≤ s.size) 
    (hsp : splitB s = done ++ (splitL (s.data.toList.drop f)).map toB) (hnl : s.size - f ≤ nlAt (s.data.toList.drop f))
    (hown : wr.ownsRow w.heap.size 9 1 (.slice A done.length c) done.length (done.map Value.string)) (hbl : Below w.heap.size w wr)
    (hown1 : w1.ownsRow w.heap.size 9 1 (.slice (some ⟨g2, 0, none⟩) (done.length + 1) cap2) (done.length + 1) (done.map Value.string ++ [.string x]))
    (hgrow : (wr.alloc o).grownBy w1 (Value.slice A done.length c).ownBlock) :
    LinesRes w (splitB s) (.returned (.slice (some ⟨g2, 0, none⟩) (done.length + 1) cap2)) w1 := by
  subst hx
  have hB := below_grown_alloc hbl hbl.size hgrow (fun k hk => own_ge hown k hk)
  have hl : (s.data.toList.drop f).length = s.size - f := by rw [List.length_drop, size_list]
  have hle := nlAt_le (s.data.toList.drop f)
  have hall : splitB s = done ++ [s.extract f s.size] := by
    rw [hsp, splitL_last _ (by omega), sub_B, List.take_of_length_le (by omega)]; rfl
  have e : (splitB s).length = done.length + 1 := by rw [hall, List.length_append]; rfl
  have e2 : (splitB s).map Value.string = done.map Value.string ++ [.string (s.extract f s.size)] := by rw [hall, List.map_append]; rfl
  rw [← e, ← e2] at hown1
  exact ⟨_, _, by rw [e], own_le hown1, own_strs hown1, hB⟩

set_option maxHeartbeats 2000000 in
set_option maxRecDepth 100000 in
theorem splitAfter_any (s : ByteArray) (hs : s.size ≤ 2147483647) (w : World) : Calls Tryz.prog 69 #[.string s] w (LinesRes w (splitB s)) := by
  obtain ⟨i0, hi0, hz0, hz1, hz2⟩ := info_parts info_str
  go_enter Tryz.func69, Tryz.ntmps69
  go_wp2
  go_loopw [3, 4, 5] (fun out fv iv wr => ∃ f i : Nat, fv = .int .i64 f ∧ iv = .int .i64 i ∧ f ≤ i ∧ i ≤ s.size ∧ SplitRel w wr s out f i) (fun _ _ i _ => s.size - (intOf i).toNat)
  case atStart => exact ⟨0, 0, rfl, rfl, Nat.le_refl _, Nat.zero_le _, [], none, 0, rfl, Nat.le_refl _, rfl, Nat.zero_le _, ⟨rfl, Or.inl ⟨rfl, rfl⟩⟩, by go_grown⟩
  case round =>
    obtain ⟨f, i, rfl, rfl, hfi, hi, done, A, cc, rfl, hle, hsp, hnl, hown, hbl⟩ := hrel
    have hsz := hbl.size
    by_cases hlt : i < s.size
    · have hbt := hide (bt_get hlt)
      by_cases h10 : bt s i = 10
      · have hc : (((s[i]'hlt).toNat : Int) == 10) = true := by rw [hbt.out, h10]; rfl
        have E1 := hide (fun (w1 : World) (g2 cap2 : Nat) (o : Obj) => split_step (w1 := w1) (g2 := g2) (cap2 := cap2) (o := o) rfl hlt hfi hle hsp hnl h10 hown hbl)
        clear h10 hsp hnl hbt
        generalize hL : done.length = L at *
        generalize hX : done.map Value.string = X at *
        clear hL hX
        go_wp2_with (first
          | (at_builtin; refine wpList_append_lies _ rfl _ _ 38 rfl w.heap.size 9 i0 _ 1 16 Tryz.underlying38 hi0 hz0 hz1 hz2 rfl (by omega) (.slice A L cc) L X (by rfl) (hown.alloc _) ⟨wr.heap.size, 0, none⟩ 1 1 [.string (s.extract f (i + 1))] (by rfl) (by rfl) (World.news_of_block (cs := #[.string (s.extract f (i + 1))]) (t := 9) (fr := (0, 0)) (heap_alloc_new wr _)) (by simp [Value.oneCell']) (by omega) (by unfold maxLen; omega) (by omega) (by simp; omega) (wr.heap.size + 1) (by simp) ?_; intro g2 cap2 w1 hown1 hgrow hat hlt2))
        go_roundw
        case rel => exact ⟨i + 1, i + 1, by go_num, by go_num, Nat.le_refl _, by omega, E1.out _ _ _ _ hown1 hgrow⟩
        case measure => simp [intOf]; omega
      · have hc : (((s[i]'hlt).toNat : Int) == 10) = false := by rw [hbt.out]; simp; omega
        have hn2 : i + 1 - f ≤ nlAt (s.data.toList.drop f) := by
          have hl : (s.data.toList.drop f).length = s.size - f := by rw [List.length_drop, size_list]
          have := nlAt_step (s.data.toList.drop f) (i - f) (by omega) hnl (by rw [bt_drop, show f + (i - f) = i by omega]; exact fun h => h10 (bt_ten.2 h))
          omega
        have E1 : Hid (SplitRel w wr s (.slice A done.length cc) f (i + 1)) := hide ⟨done, A, cc, rfl, hle, hsp, hn2, hown, hbl⟩
        clear h10 hsp hnl hbt hn2
        go_wp2
        go_roundw
        case rel => exact ⟨f, i + 1, rfl, by go_num, by omega, by omega, E1.out⟩
        case measure => simp [intOf]; omega
    · have : i = s.size := by omega
      subst this
      by_cases hf0 : f = 0
      · subst hf0
        have E1 := hide (fun (w1 : World) (g2 cap2 : Nat) (o : Obj) => split_end (w1 := w1) (g2 := g2) (cap2 := cap2) (o := o) (f := 0) (x := s) (by simp) (Nat.zero_le _) hsp hnl hown hbl)
        clear hsp hnl
        generalize hL : done.length = L at *
        generalize hX : done.map Value.string = X at *
        clear hL hX
        go_wp2_with (first
          | (at_builtin; refine wpList_append_lies _ rfl _ _ 38 rfl w.heap.size 9 i0 _ 1 16 Tryz.underlying38 hi0 hz0 hz1 hz2 rfl (by omega) (.slice A L cc) L X (by rfl) (hown.alloc _) ⟨wr.heap.size, 0, none⟩ 1 1 [.string s] (by rfl) (by rfl) (World.news_of_block (cs := #[.string s]) (t := 9) (fr := (0, 0)) (heap_alloc_new wr _)) (by simp [Value.oneCell']) (by omega) (by unfold maxLen; omega) (by omega) (by simp; omega) (wr.heap.size + 1) (by simp) ?_; intro g2 cap2 w1 hown1 hgrow hat hlt2))
        go_ret
        exact E1.out _ _ _ _ hown1 hgrow
      · have E1 := hide (fun (w1 : World) (g2 cap2 : Nat) (o : Obj) => split_end (w1 := w1) (g2 := g2) (cap2 := cap2) (o := o) (f := f) rfl hfi hsp hnl hown hbl)
        clear hsp hnl
        generalize hL : done.length = L at *
        generalize hX : done.map Value.string = X at *
        clear hL hX
        go_wp2_with (first
          | (at_builtin; refine wpList_append_lies _ rfl _ _ 38 rfl w.heap.size 9 i0 _ 1 16 Tryz.underlying38 hi0 hz0 hz1 hz2 rfl (by omega) (.slice A L cc) L X (by rfl) (hown.alloc _) ⟨wr.heap.size, 0, none⟩ 1 1 [.string (s.extract f s.size)] (by rfl) (by rfl) (World.news_of_block (cs := #[.string (s.extract f s.size)]) (t := 9) (fr := (0, 0)) (heap_alloc_new wr _)) (by simp [Value.oneCell']) (by omega) (by unfold maxLen; omega) (by omega) (by simp; omega) (wr.heap.size + 1) (by simp) ?_; intro g2 cap2 w1 hown1 hgrow hat hlt2))
        go_ret
        exact E1.out _ _ _ _ hown1 hgrow

theorem getD_left {α : Type} (a b : List α) (d : α) {i : Nat} (h : i < a.length) : (a ++ b).getD i d = a.getD i d := by
  rw [List.getD_eq_getElem?_getD, List.getD_eq_getElem?_getD, List.getElem?_append_left h]
theorem getD_last1 {α : Type} (a : List α) (x d : α) : (a ++ [x]).getD a.length d = x := by
  rw [List.getD_eq_getElem?_getD, List.getElem?_append_right (Nat.le_refl _)]; simp
theorem splitB_length (s : ByteArray) : 1 ≤ (splitB s).length := by
  unfold splitB
  rw [List.length_map]
  cases h : s.data.toList with
  | nil => simp [splitL]
  | cons b t => rw [splitL]; split
                · simp
                · split <;> simp
theorem splitL_le : ∀ (l : List UInt8), (splitL l).length ≤ l.length + 1
  | [] => by simp [splitL]
  | b :: t => by
    have ih := splitL_le t
    rw [splitL]
    split
    · simp; omega
    · cases hs : splitL t with
      | nil => simp
      | cons x r => rw [hs] at ih; simp at ih ⊢; omega
theorem splitB_le (s : ByteArray) : (splitB s).length ≤ s.size + 1 := by
  unfold splitB; rw [List.length_map, ← size_list]; exact splitL_le _
theorem linesL_mem : ∀ (l : List UInt8) (x : List UInt8), x ∈ linesL l → x ≠ []
  | [], x, h => by simp [linesL] at h
  | b :: t, x, h => by
    rw [linesL] at h
    split at h
    · rcases List.mem_cons.1 h with rfl | h
      · simp
      · exact linesL_mem t x h
    · cases hs : linesL t with
      | nil => rw [hs] at h; simp at h; subst h; simp
      | cons y r =>
        rw [hs] at h
        rcases List.mem_cons.1 h with rfl | h
        · simp
        · exact linesL_mem t x (by rw [hs]; exact List.mem_cons_of_mem _ h)
/-- The parts are the lines and an empty one, or the lines, none of which is empty. -/
theorem split_cases (s : ByteArray) : (splitB s = linesB s ++ [⟨#[]⟩] ∧ True) ∨ (splitB s = linesB s ∧ ∀ x ∈ splitB s, x.toList.isEmpty = false) := by
  have h := splitL_lines s.data.toList
  by_cases hc : s.data.toList = [] ∨ s.data.toList.getLast? = some 10
  · rw [if_pos hc] at h
    refine Or.inl ⟨?_, trivial⟩
    unfold splitB linesB
    rw [h, List.map_append]
    rfl
  · rw [if_neg hc, List.append_nil] at h
    refine Or.inr ⟨by unfold splitB linesB; rw [h], fun x hx => ?_⟩
    unfold splitB at hx
    rw [h] at hx
    obtain ⟨y, hy, rfl⟩ := List.mem_map.1 hx
    refine str_ne (fun e => linesL_mem _ y hy ?_)
    rw [toB_size] at e
    exact List.length_eq_zero_iff.1 e

set_option maxHeartbeats 1000000 in
theorem mSplitLines_any (s : ByteArray) (hs : s.size ≤ 2147483647) (w : World) : Calls Tryz.prog 41 #[.string s] w (LinesRes w (linesB s)) := by
  have hlen := splitB_length s
  have hbig : (splitB s).length ≤ 2147483648 := by have := splitB_le s; omega
  obtain ⟨m, hm⟩ : ∃ m, (splitB s).length = m + 1 := ⟨(splitB s).length - 1, by omega⟩
  have hmb : m ≤ 2147483648 := by omega
  clear hbig
  go_enter Tryz.func41, Tryz.ntmps41
  go_wp2_with fail
  refine (splitAfter_any s hs _).mono ?_
  rintro e w1 ⟨A, c, rfl, hcap, hstr, hb⟩
  obtain ⟨b, o, rfl, hcell⟩ := hstr m (by omega)
  rw [hm] at hcap ⊢
  rcases split_cases s with ⟨h1, h2⟩ | ⟨h1, h2⟩
  · have hL : (linesB s).length = m := by rw [h1] at hm; simpa using hm
    have hv : (splitB s).getD m ByteArray.empty = ⟨#[]⟩ := by rw [h1, ← hL]; exact getD_last1 _ _ _
    rw [hv] at hcell
    have hS : Hid (Strs w1 (some ⟨b, o, none⟩) (linesB s)) := hide (fun i hi => by
      obtain ⟨b', o', e, hc⟩ := hstr i (by omega)
      refine ⟨b', o', e, ?_⟩
      rw [hc, h1, getD_left _ _ _ hi])
    have HL := hide hL
    clear hstr h1 hv hL hlen hm h2
    go_wp2
    go_ret
    exact ⟨some ⟨b, o, none⟩, c, by rw [HL.out]; rfl, by rw [HL.out]; omega, hS.out, hb⟩
  · have hL : (linesB s).length = m + 1 := by rw [h1] at hm; exact hm
    have hv : ((splitB s).getD m ByteArray.empty).toList.isEmpty = false := by
      apply h2; rw [List.getD_eq_getElem?_getD, List.getElem?_eq_getElem (by omega)]; exact List.getElem_mem _
    have hS : Hid (Strs w1 (some ⟨b, o, none⟩) (linesB s)) := hide (by rw [← h1]; exact hstr)
    have HL := hide hL
    clear hstr h1 hL hlen hm h2
    generalize (splitB s).getD m ByteArray.empty = x at *
    go_wp2
    go_ret
    exact ⟨some ⟨b, o, none⟩, c, by rw [HL.out]; rfl, by rw [HL.out]; omega, hS.out, hb⟩

set_option maxHeartbeats 1000000 in
theorem dSplitLines_any (s : ByteArray) (hs : s.size ≤ 2147483647) (w : World) : Calls Tryz.prog 50 #[.string s] w (LinesRes w (linesB s)) := by
  have hlen := splitB_length s
  have hbig : (splitB s).length ≤ 2147483648 := by have := splitB_le s; omega
  obtain ⟨m, hm⟩ : ∃ m, (splitB s).length = m + 1 := ⟨(splitB s).length - 1, by omega⟩
  have hmb : m ≤ 2147483648 := by omega
  clear hbig
  go_enter Tryz.func50, Tryz.ntmps50
  go_wp2_with fail
  refine (splitAfter_any s hs _).mono ?_
  rintro e w1 ⟨A, c, rfl, hcap, hstr, hb⟩
  obtain ⟨b, o, rfl, hcell⟩ := hstr m (by omega)
  rw [hm] at hcap ⊢
  rcases split_cases s with ⟨h1, h2⟩ | ⟨h1, h2⟩
  · have hL : (linesB s).length = m := by rw [h1] at hm; simpa using hm
    have hv : (splitB s).getD m ByteArray.empty = ⟨#[]⟩ := by rw [h1, ← hL]; exact getD_last1 _ _ _
    rw [hv] at hcell
    have hS : Hid (Strs w1 (some ⟨b, o, none⟩) (linesB s)) := hide (fun i hi => by
      obtain ⟨b', o', e, hc⟩ := hstr i (by omega)
      refine ⟨b', o', e, ?_⟩
      rw [hc, h1, getD_left _ _ _ hi])
    have HL := hide hL
    clear hstr h1 hv hL hlen hm h2
    go_wp2
    go_ret
    exact ⟨some ⟨b, o, none⟩, c, by rw [HL.out]; rfl, by rw [HL.out]; omega, hS.out, hb⟩
  · have hL : (linesB s).length = m + 1 := by rw [h1] at hm; exact hm
    have hv : ((splitB s).getD m ByteArray.empty).toList.isEmpty = false := by
      apply h2; rw [List.getD_eq_getElem?_getD, List.getElem?_eq_getElem (by omega)]; exact List.getElem_mem _
    have hS : Hid (Strs w1 (some ⟨b, o, none⟩) (linesB s)) := hide (by rw [← h1]; exact hstr)
    have HL := hide hL
    clear hstr h1 hL hlen hm h2
    generalize (splitB s).getD m ByteArray.empty = x at *
    go_wp2
    go_ret
    exact ⟨some ⟨b, o, none⟩, c, by rw [HL.out]; rfl, by rw [HL.out]; omega, hS.out, hb⟩
end Go.Proofs.YtgegialfhkgggaaGreatDoor
