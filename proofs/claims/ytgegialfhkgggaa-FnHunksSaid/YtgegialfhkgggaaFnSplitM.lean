/- Walk: impl.SplitAfterLines; plain lemmas on the parts of a text. No condition but sizes. -/
import Derived.Test.YtgegialfhkgggaaPi
import Derived.Test.YtgegialfhkgggaaPd
import Derived.Test.YtgegialfhkgggaaShelf
set_option linter.unusedVariables false
set_option linter.unusedSimpArgs false
namespace Go.Proofs.Ytgegialfhkgggaa
open Go.RowKit Go.Proofs.Ytgegialfhkgggaa.Lines
attribute [local go_sem ↓] Go.wp_at_zero Go.wp_at_succ

theorem splitL_flat : ∀ (l : List UInt8), (splitL l).flatten = l
  | [] => rfl
  | b :: t => by
    have ih := splitL_flat t
    rw [splitL]
    by_cases e : b = 10
    · rw [if_pos e, List.flatten_cons, ih, e]; rfl
    · rw [if_neg e]
      cases h : splitL t with
      | nil => rw [h] at ih; simp at ih; simp [← ih]
      | cons x r => rw [h] at ih; simp only [List.flatten_cons, List.cons_append] at ih ⊢; rw [ih]
theorem splitL_count : ∀ (l : List UInt8), (splitL l).length = l.count 10 + 1
  | [] => rfl
  | b :: t => by
    have ih := splitL_count t
    rw [splitL]
    by_cases e : b = 10
    · rw [if_pos e, List.length_cons, ih, e]; simp
    · rw [if_neg e]
      cases h : splitL t with
      | nil => rw [h] at ih; simp at ih
      | cons x r => rw [h] at ih; rw [List.count_cons]; simp only [List.length_cons] at ih ⊢; simp [e]; omega
theorem splitL_full : ∀ (l : List UInt8) (i : Nat) (h : i + 1 < (splitL l).length), full ((splitL l)[i]'(by omega))
  | [], i, h => by simp [splitL] at h
  | b :: t, i, h => by
    have ih := splitL_full t
    by_cases e : b = 10
    · have hs : splitL (b :: t) = [10] :: splitL t := by rw [splitL, if_pos e, e]
      simp only [hs] at h ⊢
      cases i with
      | zero => simp [full, nlAt]
      | succ i => simpa using ih i (by simpa using h)
    · cases hL : splitL t with
      | nil => have hs : splitL (b :: t) = [[b]] := by rw [splitL, if_neg e, hL]
               simp only [hs] at h; simp at h
      | cons x r =>
        have hs : splitL (b :: t) = (b :: x) :: r := by rw [splitL, if_neg e, hL]
        simp only [hL] at ih
        simp only [hs] at h ⊢
        cases i with
        | zero =>
          have := ih 0 (by simpa using h)
          simp only [List.getElem_cons_zero] at this ⊢
          unfold full at this ⊢
          rw [nlAt, if_neg e, List.length_cons]; omega
        | succ i => simpa using ih (i + 1) (by simpa using h)
theorem splitB_flat (s : ByteArray) : toB (Lib.join ((splitB s).map (·.data.toList)) []) = s := by
  unfold splitB
  rw [List.map_map]
  have : ((fun x : ByteArray => x.data.toList) ∘ toB) = id := by funext x; exact toB_list x
  rw [this, List.map_id, join_flat, splitL_flat, toB_of]
theorem splitB_count (s : ByteArray) : (splitB s).length = nls s + 1 := by unfold splitB nls; rw [List.length_map, splitL_count]
theorem splitB_size (s : ByteArray) (i : Nat) (h : i < (splitB s).length) : ((splitB s).getD i ByteArray.empty).size ≤ s.size := by
  unfold splitB at h ⊢
  rw [List.length_map] at h
  rw [List.getD_eq_getElem?_getD, List.getElem?_map, List.getElem?_eq_getElem h]
  simp only [Option.map_some, Option.getD_some, toB_size]
  have := (List.sublist_flatten_of_mem (List.getElem_mem h)).length_le
  rw [splitL_flat, size_list] at this
  exact this
/-- Where a part of the text has its newline. -/
theorem splitB_nl (s : ByteArray) (i : Nat) (h : i + 1 < (splitB s).length) : nlAt ((splitB s).getD i ByteArray.empty).data.toList + 1 = ((splitB s).getD i ByteArray.empty).size := by
  have h2 : i + 1 < (splitL s.data.toList).length := by unfold splitB at h; rw [List.length_map] at h; exact h
  have hf := splitL_full s.data.toList i h2
  unfold splitB
  rw [List.getD_eq_getElem?_getD, List.getElem?_map, List.getElem?_eq_getElem (by omega)]
  simp only [Option.map_some, Option.getD_some, toB_list, toB_size]
  exact hf

set_option maxHeartbeats 4000000 in
set_option maxRecDepth 100000 in
theorem iSplit_any (s : ByteArray) (hs : s.size ≤ 400000) (w : World) : Calls Try.prog 23 #[.string s] w (LinesRes w (splitB s)) := by
  obtain ⟨i0, hi0, hz0, hz1, hzb⟩ := info_parts info_str
  have h1 := splitB_length s
  have h2 := splitB_le s
  have HS := hide (fun W => splitAfter_any s (by omega) W)
  go_enter Try.func23, Try.ntmps23
  go_wp2_with fail
  refine (HS.out _).mono ?_
  rintro e w1 ⟨A, ca, rfl, _, hA, hb1⟩
  obtain ⟨b, o, rfl, _⟩ := hA 0 (by omega)
  have hbl : Below w.heap.size w w1 := Below.trans (by go_grown) (hb1.mono (by simp))
  have hnews : ∀ j u, ((splitB s).map Value.string)[j]? = some u → w1.cell? ((⟨b, o, none⟩ : Addr).add j) = some u := by
    intro j u hj
    have hlt : j < (splitB s).length := by
      rcases Nat.lt_or_ge j (splitB s).length with h | h
      · exact h
      · rw [List.getElem?_eq_none (by simpa using h)] at hj; cases hj
    obtain ⟨b', o', e, hc⟩ := hA j hlt
    injection e with e
    injection e with e1 e2
    subst e1; subst e2
    rw [List.getElem?_map, List.getElem?_eq_getElem hlt] at hj
    rw [List.getD_eq_getElem?_getD, List.getElem?_eq_getElem hlt] at hc
    simp only [Option.map_some, Option.some.injEq] at hj
    subst hj
    rw [Addr.add_lit]
    simpa using hc
  have hown : w1.ownsRow w.heap.size 9 1 (.slice (some ⟨w.heap.size, 0, none⟩) 0 0) 0 [] :=
    own_kept (w := w.alloc (.cells #[] 9)) ⟨rfl, Or.inr ⟨w.heap.size, 0, #[], rfl, Nat.le_refl _, Blk.new _ _ _, Nat.le_refl _, by unfold maxLen; omega, rfl, rfl⟩⟩ hb1
  have hcs : ∀ u ∈ (splitB s).map Value.string, u.oneCell' = true := by
    intro u hu
    obtain ⟨x, _, rfl⟩ := List.mem_map.1 hu
    rfl
  have hsz := hbl.size
  go_wp2_with (first
    | (at_builtin; refine wpList_append_lies _ rfl _ _ 29 rfl w.heap.size 9 i0 _ 1 16 Try.underlying29 hi0 hz0 hz1 hzb rfl (by omega) _ 0 [] (by rfl) hown ⟨b, o, none⟩ (splitB s).length ca ((splitB s).map Value.string) (by rfl) (by rw [List.length_map, Nat.mul_one]) hnews hcs (by omega) (by unfold maxLen; omega) (by omega) hsz w1.heap.size rfl ?_; intro g2 cap2 w2 hown2 hgrow hat hlt2))
  have hB : Below w.heap.size w w2 := hbl.grown hgrow hsz (fun k hk => own_ge hown k hk)
  rw [Nat.zero_add, List.nil_append] at hown2
  have hF : Hid (LinesRes w (splitB s) (.returned (.slice (some ⟨g2, 0, none⟩) (splitB s).length cap2)) w2) := hide ⟨_, _, rfl, own_le hown2, own_strs hown2, hB⟩
  clear hown2 hB hgrow hnews hown hcs hA
  go_wp2
  go_ret
  first | exact hF.out | (simp only [Nat.zero_add]; exact hF.out)
end Go.Proofs.Ytgegialfhkgggaa
