/- Walks: spec.IsLetters, spec.IsAhead. No condition but sizes. -/
import Derived.Test.YtckgdkjgllopmaaDoorPa
import Derived.Test.YtckgdkjgllopmaaDoorPd
set_option linter.unusedVariables false
set_option linter.unusedSimpArgs false
namespace Go.Proofs.YtckgdkjgllopmaaDoor
open Go.RowKit
attribute [local go_sem ↓] Go.wp_at_zero Go.wp_at_succ

/-- Letters alone. -/
def LetTo (s : ByteArray) (k : Nat) : Prop := ∀ j, j < k → (97 ≤ bt s j ∧ bt s j ≤ 122) ∨ (65 ≤ bt s j ∧ bt s j ≤ 90)
def LetRes (s : ByteArray) (w : World) (e : Ending) (w' : World) : Prop := ∃ b : Bool, e = .returned (.bool b) ∧ (b = true → LetTo s s.size ∧ 1 ≤ s.size ∧ s.size ≤ 1000) ∧ w = w'
theorem LetRes.no {s : ByteArray} {w : World} : LetRes s w (.returned (.bool false)) w := ⟨false, rfl, (fun h => by cases h), rfl⟩

set_option maxHeartbeats 4000000 in
theorem isLetters_any (s : ByteArray) (hs : s.size ≤ 2147483647) (w : World) : Calls Tryd.prog 12 #[.string s] w (LetRes s w) := by
  go_enter Tryd.func12, Tryd.ntmps12
  go_wp2
  go_loop [6] (fun i => ∃ k : Nat, k ≤ s.size ∧ i = .int .i64 k ∧ Hid (LetTo s k)) (fun i => s.size - (intOf i).toNat)
  case atStart => exact ⟨0, Nat.zero_le _, rfl, hide (fun j h => absurd h (Nat.not_lt_zero _))⟩
  case round =>
    obtain ⟨k, hk, rfl, hl⟩ := hrel
    by_cases hlt : k < s.size
    · have hbt := hide (bt_get hlt)
      have hnx : Hid ((97 ≤ bt s k ∧ bt s k ≤ 122) ∨ (65 ≤ bt s k ∧ bt s k ≤ 90) → LetTo s (k + 1)) := hide (fun h j hj => by
        by_cases e : j = k
        · subst e; exact h
        · exact hl.out j (by omega))
      have hnx2 : Hid ((97 ≤ (s[k]'hlt).toNat ∧ (s[k]'hlt).toNat ≤ 122) ∨ (65 ≤ (s[k]'hlt).toNat ∧ (s[k]'hlt).toNat ≤ 90) → LetTo s (k + 1)) := hide (fun h => hnx.out (by rw [← hbt.out]; exact h))
      have HN := hide (@LetRes.no s w)
      clear hl hnx hbt
      obtain ⟨h1, h2⟩ | ⟨h1, h2⟩ | h1 | ⟨h1, h2⟩ | h1 : ((97 : Int) ≤ ((s[k]'hlt).toNat : Int) ∧ ((s[k]'hlt).toNat : Int) ≤ 122) ∨ ((65 : Int) ≤ ((s[k]'hlt).toNat : Int) ∧ ((s[k]'hlt).toNat : Int) ≤ 90) ∨ ((s[k]'hlt).toNat : Int) < 65 ∨ ((90 : Int) < ((s[k]'hlt).toNat : Int) ∧ ((s[k]'hlt).toNat : Int) < 97) ∨ (122 : Int) < ((s[k]'hlt).toNat : Int) := by omega
      · have g1 : ¬ ((s[k]'hlt).toNat : Int) < 97 := by omega
        have g2 : ¬ (122 : Int) < ((s[k]'hlt).toNat : Int) := by omega
        have HM := hide (hnx2.out (Or.inl (by omega)))
        clear h1 h2 hnx2
        go_wp2
        go_round
        case rel => exact ⟨k + 1, by omega, by go_num, HM⟩
        case measure => simp [intOf]; omega
      · have g1 : ((s[k]'hlt).toNat : Int) < 97 := by omega
        have g3 : ¬ ((s[k]'hlt).toNat : Int) < 65 := by omega
        have g2 : ¬ (90 : Int) < ((s[k]'hlt).toNat : Int) := by omega
        have HM := hide (hnx2.out (Or.inr (by omega)))
        clear h1 h2 hnx2
        go_wp2
        go_round
        case rel => exact ⟨k + 1, by omega, by go_num, HM⟩
        case measure => simp [intOf]; omega
      · have g1 : ((s[k]'hlt).toNat : Int) < 97 := by omega
        clear hnx2
        go_wp2
        go_ret
        exact HN.out
      · have g3 : ¬ ((s[k]'hlt).toNat : Int) < 65 := by omega
        clear hnx2
        go_wp2
        go_ret
        exact HN.out
      · have g1 : ¬ ((s[k]'hlt).toNat : Int) < 97 := by omega
        have g3 : ¬ ((s[k]'hlt).toNat : Int) < 65 := by omega
        have g2 : (90 : Int) < ((s[k]'hlt).toNat : Int) := by omega
        clear hnx2
        go_wp2
        go_ret
        exact HN.out
    · have e : k = s.size := by omega
      subst e
      have HN := hide (@LetRes.no s w)
      by_cases h0 : s.size = 0
      · have hse : s.toList.isEmpty = true := by
          have h1 := size_list s
          rw [ByteArray.toList_eq s, List.isEmpty_iff]
          exact List.eq_nil_of_length_eq_zero (by omega)
        go_wp2
        go_ret
        exact HN.out
      · have hse := str_ne h0
        by_cases h1 : (s.size : Int) ≤ 1000
        · have HF : Hid (LetRes s w (.returned (.bool true)) w) := hide ⟨true, rfl, fun _ => ⟨hl.out, by omega, by omega⟩, rfl⟩
          clear hl
          go_wp2
          go_ret
          exact HF.out
        · clear hl
          go_wp2
          go_ret
          exact HN.out

/-- One point is not behind another. -/
def AhRes (l c o l2 c2 o2 : Int) (w : World) (e : Ending) (w' : World) : Prop := ∃ b : Bool, e = .returned (.bool b) ∧ (b = true → (l < l2 ∨ (l = l2 ∧ c ≤ c2)) ∧ o ≤ o2) ∧ Below w.heap.size w w'
set_option maxHeartbeats 4000000 in
theorem isAhead_any (l c o l2 c2 o2 : Int) (w : World) : Calls Tryd.prog 14 #[.agg #[.int .i64 l, .int .i64 c, .int .i64 o], .agg #[.int .i64 l2, .int .i64 c2, .int .i64 o2]] w (AhRes l c o l2 c2 o2 w) := by
  have HN : Hid (∀ w', Below w.heap.size w w' → AhRes l c o l2 c2 o2 w (.returned (.bool false)) w') := hide (fun w' h2 => ⟨false, rfl, (fun h => by cases h), h2⟩)
  have HY : Hid ((l < l2 ∨ (l = l2 ∧ c ≤ c2)) ∧ o ≤ o2 → ∀ w', Below w.heap.size w w' → AhRes l c o l2 c2 o2 w (.returned (.bool true)) w') := hide (fun h w' h2 => ⟨true, rfl, fun _ => h, h2⟩)
  by_cases h1 : l < l2
  · by_cases h3 : o ≤ o2
    · have HF := hide (HY.out ⟨Or.inl h1, h3⟩)
      clear HY HN
      go_enter Tryd.func14, Tryd.ntmps14
      go_wp2
      go_ret
      exact HF.out _ (by go_grown)
    · clear HY
      go_enter Tryd.func14, Tryd.ntmps14
      go_wp2
      go_ret
      exact HN.out _ (by go_grown)
  · by_cases h2 : l = l2
    · subst h2
      by_cases h4 : c ≤ c2
      · by_cases h3 : o ≤ o2
        · have HF := hide (HY.out ⟨Or.inr ⟨rfl, h4⟩, h3⟩)
          clear HY HN
          go_enter Tryd.func14, Tryd.ntmps14
          go_wp2
          go_ret
          exact HF.out _ (by go_grown)
        · clear HY
          go_enter Tryd.func14, Tryd.ntmps14
          go_wp2
          go_ret
          exact HN.out _ (by go_grown)
      · clear HY
        go_enter Tryd.func14, Tryd.ntmps14
        go_wp2
        go_ret
        exact HN.out _ (by go_grown)
    · have hne : (l == l2) = false := by simpa using h2
      clear HY
      go_enter Tryd.func14, Tryd.ntmps14
      go_wp2
      go_ret
      exact HN.out _ (by go_grown)
end Go.Proofs.YtckgdkjgllopmaaDoor
