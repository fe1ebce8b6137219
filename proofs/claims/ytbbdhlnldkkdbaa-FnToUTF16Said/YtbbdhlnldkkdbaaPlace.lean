/- Walks: spec.Place and strings.LastIndexByte at a newline; the plain mathematics of lines and columns. No condition but sizes. -/
import Derived.Test.YtbbdhlnldkkdbaaOff
namespace Go.Proofs.Ytbbdhlnldkkdbaa
open Go.RowKit
attribute [local go_sem ↓] Go.wp_at_zero Go.wp_at_succ

/-- The last newline among the first k bytes, or -1. -/
def lastNl (s : ByteArray) : Nat → Int
  | 0 => -1
  | k + 1 => if bt s k = 10 then (k : Int) else lastNl s k
theorem lastNl_bd (s : ByteArray) (k : Nat) : -1 ≤ lastNl s k ∧ lastNl s k < k := by
  induction k with
  | zero => simp [lastNl]
  | succ k ih => rw [lastNl]; split <;> omega

set_option maxHeartbeats 1000000 in
theorem lastIndex_nl (s : ByteArray) (hs : s.size ≤ 140737488355328) (w : World) : Calls Try.prog 71 #[.string s, .int .u8 10] w fun e w' => e = .returned (.int .i64 (lastNl s s.size)) ∧ w = w' := by
  go_enter Try.func71, Try.ntmps71
  go_wp2
  go_loop [5] (fun i => ∃ k : Nat, k ≤ s.size ∧ i = .int .i64 ((k : Int) - 1) ∧ lastNl s s.size = lastNl s k) (fun i => (intOf i + 1).toNat)
  case atStart => exact ⟨s.size, Nat.le_refl _, rfl, rfl⟩
  case round =>
    obtain ⟨k, hk, rfl, hln⟩ := hrel
    cases k with
    | zero =>
      have HL := hide hln
      clear hln
      have hneg : ¬ (0 : Int) ≤ ((0 : Nat) : Int) - 1 := by omega
      go_wp2
      go_ret
      exact ⟨ret_int (by rw [HL.out]; rfl), rfl⟩
    | succ j =>
      rw [show ((j + 1 : Nat) : Int) - 1 = (j : Int) by omega]
      have hlt : j < s.size := by omega
      have hbt := hide (bt_get hlt)
      by_cases h10 : bt s j = 10
      · have hm : lastNl s s.size = j := by rw [hln, lastNl, if_pos h10]
        have HM := hide hm
        have hc : (((s[j]'hlt).toNat : Int) == 10) = true := by rw [hbt.out, h10]; rfl
        clear h10 hm hln
        go_wp2
        go_ret
        exact ⟨ret_int HM.out.symm, rfl⟩
      · have hm : lastNl s s.size = lastNl s j := by rw [hln, lastNl, if_neg h10]
        have HM := hide hm
        have hc : (((s[j]'hlt).toNat : Int) == 10) = false := by rw [hbt.out]; simp; omega
        clear h10 hm hln
        go_wp2
        go_round
        case rel => exact ⟨j, by omega, by go_num, HM.out⟩
        case measure => simp [intOf]

theorem lastIndexByte_nl (s : ByteArray) (hs : s.size ≤ 140737488355328) (w : World) : Calls Try.prog 49 #[.string s, .int .u8 10] w fun e w' => e = .returned (.int .i64 (lastNl s s.size)) ∧ w = w' := by
  go_enter Try.func49, Try.ntmps49
  go_wp2_with fail
  refine (lastIndex_nl s hs _).mono ?_
  rintro e w1 ⟨rfl, rfl⟩
  go_wp2
  go_ret
  exact ⟨rfl, rfl⟩

theorem ext_list (s : ByteArray) (k : Nat) : (s.extract 0 k).data.toList = s.data.toList.take k := by simp
theorem ext_size {s : ByteArray} {k : Nat} (h : k ≤ s.size) : (s.extract 0 k).size = k := by simp; omega
theorem bt_ext {s : ByteArray} {k i : Nat} (h : i < k) : bt (s.extract 0 k) i = bt s i := by
  unfold bt
  rw [ext_list, List.getD_eq_getElem?_getD, List.getD_eq_getElem?_getD, List.getElem?_take, if_pos h]
theorem nls_ext (s : ByteArray) (k : Nat) : nls (s.extract 0 k) = nlTo s k := by unfold nls nlTo; rw [ext_list]
theorem lastNl_ext {s : ByteArray} {k : Nat} : ∀ i, i ≤ k → lastNl (s.extract 0 k) i = lastNl s i := by
  intro i
  induction i with
  | zero => intro _; rfl
  | succ i ih => intro h; rw [lastNl, lastNl, bt_ext (by omega), ih (by omega)]

set_option maxHeartbeats 1000000 in
theorem place_any (s : ByteArray) (k : Nat) (hk : k ≤ s.size) (hs : s.size ≤ 2147483647) (w : World) : Calls Try.prog 30 #[.string s, .int .i64 k] w fun e w' =>
    e = .returned (.agg #[.int .i64 ((nlTo s k : Int) + 1), .int .i64 ((k : Int) - lastNl s k), .int .i64 k]) ∧ Below w.heap.size w w' := by
  have h1 := fun W => newlines_any (s.extract 0 k) (by rw [ext_size hk]; omega) W
  have h2 := fun W => lastIndexByte_nl (s.extract 0 k) (by rw [ext_size hk]; omega) W
  rw [nls_ext] at h1
  rw [ext_size hk, lastNl_ext k (Nat.le_refl _)] at h2
  have hn := nlTo_le s k
  have hl := lastNl_bd s k
  have H1 := hide h1
  have H2 := hide h2
  clear h1 h2
  generalize nlTo s k = a at *
  generalize lastNl s k = b at *
  obtain ⟨l1, l2⟩ := hl
  go_enter Try.func30, Try.ntmps30
  go_wp2_with fail
  refine (H1.out _).mono ?_
  rintro e w1 ⟨rfl, rfl⟩
  go_wp2_with fail
  refine (H2.out _).mono ?_
  rintro e w1 ⟨rfl, rfl⟩
  go_wp2
  go_returns
  exact ⟨rfl, by go_grown⟩

/-! ### The plain law: lines and columns -/
theorem stTo_length (s : ByteArray) (k : Nat) (h : k < s.size) : (stTo s (k + 1)).length = nlTo s k + 1 := by
  induction k with
  | zero => simp [stTo, isSt, nlTo]
  | succ k ih =>
    have ih := ih (by omega)
    rw [nlTo_succ s k (by omega)]
    by_cases h10 : bt s k = 10
    · rw [stTo_true (by rw [isSt_succ]; simpa using h10), List.length_append, ih, if_pos h10]; simp
    · rw [stTo_false (by rw [isSt_succ]; simpa using h10), ih, if_neg h10]
theorem stTo_last (s : ByteArray) (k : Nat) : (stTo s (k + 1)).getLast? = some (lastNl s k + 1) := by
  induction k with
  | zero => simp [stTo, isSt, lastNl]
  | succ k ih =>
    by_cases h10 : bt s k = 10
    · rw [stTo_true (by rw [isSt_succ]; simpa using h10), List.getLast?_append, lastNl, if_pos h10]; simp
    · rw [stTo_false (by rw [isSt_succ]; simpa using h10), ih, lastNl, if_neg h10]
theorem getD_last {L : List Int} {x : Int} {m : Nat} (h : L.getLast? = some x) (hm : L.length = m + 1) : L.getD m 0 = x := by
  rw [List.getLast?_eq_getElem?, hm] at h
  rw [List.getD_eq_getElem?_getD]
  simp at h
  simp [h]
theorem stTo_prefix (s : ByteArray) (k m : Nat) (h : k ≤ m) : ∃ r, stTo s m = stTo s k ++ r ∧ ∀ x ∈ r, (k : Int) ≤ x := by
  induction m with
  | zero =>
    have : k = 0 := by omega
    subst this
    exact ⟨[], by simp, by simp⟩
  | succ m ih =>
    by_cases e : k = m + 1
    · subst e; exact ⟨[], by simp, by simp⟩
    · obtain ⟨r, hr, hx⟩ := ih (by omega)
      cases hst : isSt s m
      · exact ⟨r, by rw [stTo_false hst, hr], hx⟩
      · refine ⟨r ++ [(m : Int)], by rw [stTo_true hst, hr, List.append_assoc], ?_⟩
        intro x hxm
        rw [List.mem_append] at hxm
        rcases hxm with h1 | h1
        · exact hx x h1
        · simp at h1; omega
theorem lineOf_skip (P r : List Int) (off : Int) (hx : ∀ x ∈ r, off < x) : ∀ i, P.length ≤ i → i ≤ (P ++ r).length → lineOf (P ++ r) off i = lineOf (P ++ r) off P.length := by
  intro i
  induction i with
  | zero => intro h _; rw [show P.length = 0 by omega]
  | succ i ih =>
    intro h1 h2
    by_cases e : P.length = i + 1
    · rw [e]
    · rw [lineOf, if_neg, ih (by omega) (by omega)]
      have hlt : i < (P ++ r).length := by omega
      rw [List.getD_eq_getElem?_getD, List.getElem?_append_right (by omega)]
      have hlr : i - P.length < r.length := by rw [List.length_append] at hlt; omega
      rw [List.getElem?_eq_getElem hlr]
      have := hx _ (List.getElem_mem hlr)
      simp only [Option.getD_some]
      omega
theorem lineOf_at (s : ByteArray) (k n : Nat) (h : k < n) (hn : n ≤ s.size) : lineOf (stTo s n) k (stTo s n).length = nlTo s k + 1 := by
  obtain ⟨r, hr, hx⟩ := stTo_prefix s (k + 1) n h
  rw [hr, lineOf_skip _ _ _ (fun x hxr => by have := hx x hxr; omega) _ (by simp) (Nat.le_refl _)]
  have hl := stTo_length s k (by omega)
  rw [hl, lineOf, if_pos]
  have hlast := getD_last (stTo_last s k) hl
  rw [List.getD_eq_getElem?_getD] at hlast ⊢
  rw [List.getElem?_append_left (by omega), hlast]
  have := lastNl_bd s k
  omega
theorem start_at (s : ByteArray) (k n : Nat) (h : k < n) (hn : n ≤ s.size) : (stTo s n).getD (nlTo s k) 0 = lastNl s k + 1 := by
  obtain ⟨r, hr, _⟩ := stTo_prefix s (k + 1) n h
  have hl := stTo_length s k (by omega)
  have hlast := getD_last (stTo_last s k) hl
  rw [hr, List.getD_eq_getElem?_getD, List.getElem?_append_left (by omega), ← List.getD_eq_getElem?_getD, hlast]
theorem pos_at (s : ByteArray) (k : Nat) (h : k < s.size) : posLine s.size (stTo s s.size) k = (nlTo s k : Int) + 1 ∧ posCol s.size (stTo s s.size) k = (k : Int) - lastNl s k := by
  unfold posLine posCol
  rw [if_neg (by omega), if_neg (by omega), lineOf_at s k s.size h (Nat.le_refl _), colOf, start_at s k s.size h (Nat.le_refl _)]
  omega
end Go.Proofs.Ytbbdhlnldkkdbaa
