/- Walks: strings.IndexByte at a newline, and spec.Lines: the lines of a text. No condition but its size. -/
import Derived.Test.YtbbdhlnldkkdbaaPlace
import Derived.Test.YtbbdhlnldkkdbaaLines
import Derived.Lib.Bytealg
import Derived.Deep.AppendLies
namespace Go.Proofs.Ytbbdhlnldkkdbaa
open Go.RowKit Go.Proofs.Ytbbdhlnldkkdbaa.Lines
attribute [local go_sem ↓] Go.wp_at_zero Go.wp_at_succ

theorem indexByte_nlAt (l : List UInt8) : Lib.indexByte l 10 = if nlAt l < l.length then (nlAt l : Int) else -1 := by
  induction l with
  | nil => rfl
  | cons b t ih =>
    have hle := nlAt_le t
    unfold Lib.indexByte nlAt
    by_cases e : b = 10
    · subst e; simp
    · rw [if_neg e, if_neg (show ¬ (b == 10) = true by simpa using e), ih, List.length_cons]
      by_cases h : nlAt t < t.length
      · rw [if_pos h, if_neg (show ¬ (((nlAt t : Int) == -1) = true) by simp <;> omega), if_pos (show nlAt t + 1 < t.length + 1 by omega)]; rfl
      · rw [if_neg h, if_pos (show ((-1 : Int) == -1) = true by rfl), if_neg (show ¬ nlAt t + 1 < t.length + 1 by omega)]

theorem indexByte_any (s : ByteArray) (c : Int) (w : World) :
    Calls Try.prog 46 #[.string s, .int .u8 c] w fun e w' => e = .returned (.int .i64 (Lib.indexByte s.data.toList c.toNat.toUInt8)) ∧ w' = w := by
  go_enter Try.func46, Try.ntmps46
  go_wp2
  rw [run_callFunc_extern Try.func78 (by kernel_rfl) (by kernel_rfl) (by kernel_rfl) (e := Extern.BytealgIndexByte.indexByte) (by kernel_rfl), Lib.run_indexByteString]
  simp only [Result.andThen]
  rw [Oper.upon_value]
  go_wp2
  go_ret
  exact ⟨rfl, rfl⟩

theorem indexNl_any (s : ByteArray) (w : World) :
    Calls Try.prog 46 #[.string s, .int .u8 10] w fun e w' => e = .returned (.int .i64 (if nlAt s.data.toList < s.size then (nlAt s.data.toList : Int) else -1)) ∧ w = w' := by
  refine (indexByte_any s 10 w).mono ?_
  rintro e w' ⟨rfl, rfl⟩
  refine ⟨?_, rfl⟩
  have h := indexByte_nlAt s.data.toList
  rw [show s.data.toList.length = s.size from by rw [Array.length_toList]; rfl] at h
  rw [← h]
  rfl

/-- The lines of a text, as texts. -/
def linesB (s : ByteArray) : List ByteArray := (linesL s.data.toList).map toB
theorem size_list (s : ByteArray) : s.data.toList.length = s.size := by rw [Array.length_toList]; rfl
theorem linesB_length (s : ByteArray) : (linesB s).length = (stTo s s.size).length := by
  unfold linesB
  rw [List.length_map]
  cases hn : s.size with
  | zero =>
    have : s.data.toList = [] := List.length_eq_zero_iff.1 (by rw [size_list, hn])
    rw [this]; rfl
  | succ k =>
    have hne : s.data.toList ≠ [] := fun h => by have := size_list s; rw [h, List.length_nil] at this; omega
    rw [linesL_length _ hne, size_list, hn, stTo_length s k (by omega)]
    rfl
/-- Nothing is left of an empty text; a text that isn't empty begins with its first line. -/
theorem linesB_cons {s : ByteArray} {n : Nat} (h0 : 0 < s.size) (hn : n = if nlAt s.data.toList < s.size then nlAt s.data.toList + 1 else s.size) :
    linesB s = s.extract 0 n :: linesB (s.extract n s.size) := by
  have hne : s.data.toList ≠ [] := fun h => by have := size_list s; rw [h, List.length_nil] at this; omega
  have hle := nlAt_le s.data.toList
  rw [size_list] at hle
  unfold linesB
  rw [linesL_cons _ hne, List.map_cons]
  have e1 : (s.extract 0 n).data.toList = s.data.toList.take (nlAt s.data.toList + 1) := by
    rw [extract_list, List.drop_zero, hn]
    split
    · simp
    · rw [List.take_of_length_le (by rw [size_list]; omega), List.take_of_length_le (by rw [size_list]; omega)]
  have e2 : (s.extract n s.size).data.toList = s.data.toList.drop (nlAt s.data.toList + 1) := by
    rw [extract_list, List.take_of_length_le (by rw [List.length_drop, size_list]; omega), hn]
    split
    · rfl
    · rw [List.drop_of_length_le (by rw [size_list]; omega), List.drop_of_length_le (by rw [size_list]; omega)]
  rw [e2, ← e1, toB_of]

/-- What spec.Lines leaves: a list of texts. -/
def LinesRes (w : World) (ss : List ByteArray) (e : Ending) (w' : World) : Prop := ∃ A c, e = .returned (.slice A ss.length c) ∧ Strs w' A ss ∧ Below w.heap.size w w'

theorem info_str : (Try.prog.info? 9).map (fun i => (i.zero, i.size, i.bytes)) = some (some (.string ⟨#[]⟩), 1, 16) := by kernel_rfl

theorem own_strs {w : World} {base : Nat} {A : Option Addr} {c : Nat} {zs : List ByteArray} {t : TypeId} (h : w.ownsRow base t 1 (.slice A zs.length c) zs.length (zs.map Value.string)) : Strs w A zs := by
  intro i hi
  obtain ⟨g, cap, hv, _, hlt⟩ := h.form (by omega)
  have hA : A = some ⟨g, 0, none⟩ := by injection hv
  subst hA
  refine ⟨g, 0, rfl, ?_⟩
  injection hv with _ _ hcc
  subst hcc
  rw [Nat.zero_add, h.cellAt i (by omega)]
  simp [List.getD_eq_getElem?_getD, List.getElem?_eq_getElem hi]

/-- The relation of its loop: the lines noted, and the text that is left. -/
def LinesRel (w wr : World) (s : ByteArray) (out t : Value) : Prop := ∃ (done : List ByteArray) (r : ByteArray) (A : Option Addr) (c : Nat), t = .string r ∧ out = .slice A done.length c ∧ r.size + done.length ≤ s.size ∧ linesB s = done ++ linesB r ∧
  wr.ownsRow w.heap.size 9 1 (.slice A done.length c) done.length (done.map Value.string) ∧ Below w.heap.size w wr

theorem lines_step {w wr w1 : World} {s r : ByteArray} {done : List ByteArray} {A : Option Addr} {c g2 cap2 n : Nat} {o : Obj} {x y : ByteArray} (hx : r.extract 0 n = x) (hy : r.extract n r.size = y) (hle : r.size + done.length ≤ s.size) (hlin : linesB s = done ++ linesB r) (h0 : 0 < r.size)
    (hn : n = if nlAt r.data.toList < r.size then nlAt r.data.toList + 1 else r.size)
    (hown : wr.ownsRow w.heap.size 9 1 (.slice A done.length c) done.length (done.map Value.string)) (hbl : Below w.heap.size w wr)
    (hown1 : w1.ownsRow w.heap.size 9 1 (.slice (some ⟨g2, 0, none⟩) (done.length + 1) cap2) (done.length + 1) (done.map Value.string ++ [.string x]))
    (hgrow : (wr.alloc o).grownBy w1 (Value.slice A done.length c).ownBlock) :
    LinesRel w w1 s (.slice (some ⟨g2, 0, none⟩) (done.length + 1) cap2) (.string y) := by
  subst hx; subst hy
  have hB := below_grown_alloc hbl hbl.size hgrow (fun k hk => own_ge hown k hk)
  have h1 : 1 ≤ n := by rw [hn]; split <;> omega
  refine ⟨done ++ [r.extract 0 n], r.extract n r.size, some ⟨g2, 0, none⟩, cap2, rfl, ?_, ?_, ?_, ?_, hB⟩
  · rw [List.length_append]; rfl
  · rw [List.length_append, ByteArray.size_extract]; simp; omega
  · rw [hlin, linesB_cons h0 hn]; simp
  · rw [List.length_append, List.map_append]; exact hown1

theorem string_empty {r : ByteArray} (h : r.size = 0) : r = ⟨#[]⟩ := by
  cases r; simp [ByteArray.size] at h; rw [h]

theorem str_ne {r : ByteArray} (h : ¬ r.size = 0) : r.toList.isEmpty = false := by
  have h1 : r.toList = r.data.toList := ByteArray.toList_eq r
  rw [h1]
  cases hl : r.data.toList with
  | nil => exact absurd (by rw [← size_list, hl]; rfl) h
  | cons b t => rfl

set_option maxHeartbeats 2000000 in
set_option maxRecDepth 100000 in
theorem lines_any (s : ByteArray) (hs : s.size ≤ 2147483647) (w : World) : Calls Try.prog 25 #[.string s] w (LinesRes w (linesB s)) := by
  obtain ⟨i0, hi0, hz0, hz1, hz2⟩ := info_parts info_str
  go_enter Try.func25, Try.ntmps25
  go_wp2
  go_loopw [0, 3] (fun t out wr => LinesRel w wr s out t) (fun t _ _ => match t with | .string r => r.size | _ => 0)
  case atStart =>
    exact ⟨[], s, some ⟨w.heap.size, 0, none⟩, 0, rfl, rfl, by simp, by simp, ⟨rfl, Or.inr ⟨w.heap.size, 0, #[], rfl, Nat.le_refl _, Blk.new _ _ _, Nat.le_refl _, by unfold maxLen; omega, rfl, rfl⟩⟩, by go_grown⟩
  case round =>
    obtain ⟨done, r, A, cc, rfl, rfl, hle, hlin, hown, hbl⟩ := hrel
    by_cases hr : r.size = 0
    · have := string_empty hr
      subst this
      have HL := hide hlin
      clear hlin
      go_wp2
      go_ret
      have hd : linesB s = done := by rw [HL.out]; simp [linesB, linesL]
      exact ⟨A, cc, by rw [hd]; rfl, by rw [hd]; exact own_strs hown, hbl⟩
    · have hne : r.toList.isEmpty = false := by
        exact str_ne hr
      have hsz := hbl.size
      by_cases hk : nlAt r.data.toList < r.size
      · have hI : ∀ W, Calls Try.prog 46 #[.string r, .int .u8 10] W fun e w' => e = .returned (.int .i64 (nlAt r.data.toList : Nat)) ∧ W = w' := fun W => by
          have h := indexNl_any r W
          rw [if_pos hk] at h
          exact h
        have E1 := hide (fun (w1 : World) (g2 cap2 : Nat) (o : Obj) => lines_step (w1 := w1) (g2 := g2) (cap2 := cap2) (o := o) (n := nlAt r.data.toList + 1) rfl rfl hle hlin (by omega) (by rw [if_pos hk]) hown hbl)
        have HI := hide hI
        clear hI hlin
        generalize nlAt r.data.toList = k at *
        generalize hL : done.length = L at *
        generalize hX : done.map Value.string = X at *
        clear hL hX
        have hc : (((k : Int) + 1) == 0) = false := by simp; omega
        go_wp2_with fail
        refine (HI.out _).mono ?_
        rintro e w1 ⟨rfl, rfl⟩
        go_wp2_with (first
          | (at_builtin; refine wpList_append_lies _ rfl _ _ 39 rfl w.heap.size 9 i0 _ 1 16 Try.underlying39 hi0 hz0 hz1 hz2 rfl (by omega) (.slice A L cc) L X (by rfl) (hown.alloc _) ⟨wr.heap.size, 0, none⟩ 1 1 [.string (r.extract 0 (k + 1))] (by rfl) (by rfl) (World.news_of_block (cs := #[.string (r.extract 0 (k + 1))]) (t := 9) (fr := (0, 0)) (heap_alloc_new wr _)) (by simp [Value.oneCell']) (by omega) (by unfold maxLen; omega) (by omega) (by simp; omega) (wr.heap.size + 1) (by simp) ?_; intro g2 cap2 w1 hown1 hgrow hat hlt2))
        go_roundw
        case rel => exact E1.out _ _ _ _ hown1 hgrow
        case measure => simp; omega
      · have hI : ∀ W, Calls Try.prog 46 #[.string r, .int .u8 10] W fun e w' => e = .returned (.int .i64 (-1)) ∧ W = w' := fun W => by
          have h := indexNl_any r W
          rw [if_neg hk] at h
          exact h
        have E1 := hide (fun (w1 : World) (g2 cap2 : Nat) (o : Obj) => lines_step (w1 := w1) (g2 := g2) (cap2 := cap2) (o := o) (n := r.size) (x := r) (y := ByteArray.empty) (by simp) (by simp) hle hlin (by omega) (by rw [if_neg hk]) hown hbl)
        have HI := hide hI
        clear hI hlin hk
        generalize hL : done.length = L at *
        generalize hX : done.map Value.string = X at *
        clear hL hX
        go_wp2_with fail
        refine (HI.out _).mono ?_
        rintro e w1 ⟨rfl, rfl⟩
        go_wp2_with (first
          | (at_builtin; refine wpList_append_lies _ rfl _ _ 39 rfl w.heap.size 9 i0 _ 1 16 Try.underlying39 hi0 hz0 hz1 hz2 rfl (by omega) (.slice A L cc) L X (by rfl) (hown.alloc _) ⟨wr.heap.size, 0, none⟩ 1 1 [.string r] (by rfl) (by rfl) (World.news_of_block (cs := #[.string r]) (t := 9) (fr := (0, 0)) (heap_alloc_new wr _)) (by simp [Value.oneCell']) (by omega) (by unfold maxLen; omega) (by omega) (by simp; omega) (wr.heap.size + 1) (by simp) ?_; intro g2 cap2 w1 hown1 hgrow hat hlt2))
        go_roundw
        case rel => exact E1.out _ _ _ _ hown1 hgrow
        case measure => simp; omega
end Go.Proofs.Ytbbdhlnldkkdbaa
