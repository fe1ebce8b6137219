/- Walk: impl.SplitAfterLines; plain lemmas on the parts of a text. No condition but sizes. -/
import Derived.Test.YtgegialfhkgggaaGreatDoorPi
import Derived.Test.YtgegialfhkgggaaGreatDoorPd
import Derived.Test.YtgegialfhkgggaaGreatDoorShelf
set_option linter.unusedVariables false
set_option linter.unusedSimpArgs false
namespace Go.Proofs.YtgegialfhkgggaaGreatDoor
open Go.RowKit Go.Proofs.YtgegialfhkgggaaGreatDoor.Lines
attribute [local go_sem ↓] Go.wp_at_zero Go.wp_at_succ

theorem splitL_flat : ∀ (l : List UInt8), (splitL l).flatten = l
  | [] => rfl
  | b :: t => by
    have ih := splitL_flat t
    rw [splitL]
    by_cases e : b = 10
    · rw [if_pos e, List.flatten_cons, ih, e]; rfl
    · rw [if_neg e]
      cases h : splitL t with
      | nil => rw [h] at ih; simp at ih; simp [← ih]
      | cons x r => rw [h] at ih; simp only [List.flatten_cons, List.cons_append] at ih ⊢; rw [ih]
theorem splitL_count : ∀ (l : List UInt8), (splitL l).length = l.count 10 + 1
  | [] => rfl
  | b :: t => by
    have ih := splitL_count t
    rw [splitL]
    by_cases e : b = 10
    · rw [if_pos e, List.length_cons, ih, e]; simp
    · rw [if_neg e]
      cases h : splitL t with
      | nil => rw [h] at ih; simp at ih
      | cons x r => rw [h] at ih; rw [List.count_cons]; simp only [List.length_cons] at ih ⊢; simp [e]; omega
theorem splitL_full : ∀ (l : List UInt8) (i : Nat) (h : i + 1 < (splitL l).length), full ((splitL l)[i]'(by omega))
  | [], i, h => by simp [splitL] at h
  | b :: t, i, h => by
    have ih := splitL_full t
    by_cases e : b = 10
    · have hs : splitL (b :: t) = [10] :: splitL t := by rw [splitL, if_pos e, e]
      simp only [hs] at h ⊢
      cases i with
      | zero => simp [full, nlAt]
      | succ i => simpa using ih i (by simpa using h)
    · cases hL : splitL t with
      | nil => have hs : splitL (b :: t) = [[b]] := by rw [splitL, if_neg e, hL]
               simp only [hs] at h; simp at h
      | cons x r =>
        have hs : splitL (b :: t) = (b :: x) :: r := by rw [splitL, if_neg e, hL]
        simp only [hL] at ih
        simp only [hs] at h ⊢
        cases i with
        | zero =>
          have := ih 0 (by simpa using h)
          simp only [List.getElem_cons_zero] at this ⊢
          unfold full at this ⊢
          rw [nlAt, if_neg e, List.length_cons]; omega
        | succ i => simpa using ih (i + 1) (by simpa using h)
theorem splitB_flat (s : ByteArray) : toB (Lib.join ((splitB s).map (·.data.toList)) []) = s := by
  unfold splitB
  rw [List.map_map]
  have : ((fun x : ByteArray => x.data.toList) ∘ toB) = id := by funext x; exact toB_list x
  rw [this, List.map_id, join_flat, splitL_flat, toB_of]
theorem splitB_count (s : ByteArray) : (splitB s).length = nls s + 1 := by unfold splitB nls; rw [List.length_map, splitL_count]
theorem splitB_size (s : ByteArray) (i : Nat) (h : i < (splitB s).length) : ((splitB s).getD i ByteArray.empty).size ≤ s.size := by
  unfold splitB at h ⊢
  rw [List.length_map] at h
  rw [List.getD_eq_getElem?_getD, List.getElem?_map, List.getElem?_eq_getElem h]
  simp only [Option.map_some, Option.getD_some, toB_size]
  have := (List.sublist_flatten_of_mem (List.getElem_mem h)).length_le
  rw [splitL_flat, size_list] at this
  exact this
/-- Where a part of the text has its newline. -/
theorem splitB_nl (s : ByteArray) (i : Nat) (h : i + 1 < (splitB s).length) : nlAt ((splitB s).getD i ByteArray.empty).data.toList + 1 = ((splitB s).getD i ByteArray.empty).size := by
  have h2 : i + 1 < (splitL s.data.toList).length := by unfold splitB at h; rw [List.length_map] at h; exact h
  have hf := splitL_full s.data.toList i h2
  unfold splitB
  rw [List.getD_eq_getElem?_getD, List.getElem?_map, List.getElem?_eq_getElem (by omega)]
  simp only [Option.map_some, Option.getD_some, toB_list, toB_size]
  exact hf

end Go.Proofs.YtgegialfhkgggaaGreatDoor
