/- Walk: spec.IsTitle. No condition but sizes. -/
import Derived.Test.YtgegialfhkgggaaGreatDoorPd
import Derived.Test.YtgegialfhkgggaaGreatDoorPr
set_option linter.unusedVariables false
set_option linter.unusedSimpArgs false
namespace Go.Proofs.YtgegialfhkgggaaGreatDoor
open Go.RowKit Go.Proofs.YtgegialfhkgggaaGreatDoor.Lines
attribute [local go_sem ↓] Go.wp_at_zero Go.wp_at_succ

theorem size_listN (s : ByteArray) : s.toList.length = s.size := by rw [ByteArray.toList_eq s, Array.length_toList]; rfl
/-- No control characters. -/
def TitTo (s : ByteArray) (k : Nat) : Prop := ∀ j, j < k → 32 ≤ bt s j
def TitRes (s : ByteArray) (w : World) (e : Ending) (w' : World) : Prop := ∃ b : Bool, e = .returned (.bool b) ∧ (b = true → noTen s.data.toList ∧ 1 ≤ s.size ∧ s.size ≤ 1000) ∧ w = w'
theorem TitRes.no {s : ByteArray} {w : World} : TitRes s w (.returned (.bool false)) w := ⟨false, rfl, (fun h => by cases h), rfl⟩
theorem titTo_noTen {s : ByteArray} (h : TitTo s s.size) : noTen s.data.toList := by
  intro x hx e
  obtain ⟨j, hj, rfl⟩ := List.mem_iff_getElem.1 hx
  rw [size_list] at hj
  have h1 := h j hj
  unfold bt at h1
  rw [List.getD_eq_getElem?_getD, List.getElem?_eq_getElem (by rw [size_list]; exact hj), Option.getD_some, e] at h1
  exact absurd h1 (by decide)

set_option maxHeartbeats 4000000 in
theorem isTitle_any (s : ByteArray) (hs : s.size ≤ 2147483647) (w : World) : Calls Tryz.prog 13 #[.string s] w (TitRes s w) := by
  go_enter Tryz.func13, Tryz.ntmps13
  go_wp2
  go_loop [6] (fun i => ∃ k : Nat, k ≤ s.size ∧ i = .int .i64 k ∧ Hid (TitTo s k)) (fun i => s.size - (intOf i).toNat)
  case atStart => exact ⟨0, Nat.zero_le _, rfl, hide (fun j h => absurd h (Nat.not_lt_zero _))⟩
  case round =>
    obtain ⟨k, hk, rfl, hl⟩ := hrel
    have HN := hide (@TitRes.no s w)
    by_cases hlt : k < s.size
    · have hbt := hide (bt_get hlt)
      have hnx2 : Hid (32 ≤ (s[k]'hlt).toNat → TitTo s (k + 1)) := hide (fun h j hj => by
        by_cases e : j = k
        · subst e; rw [← hbt.out]; exact h
        · exact hl.out j (by omega))
      clear hl hbt
      by_cases h1 : ((s[k]'hlt).toNat : Int) < 32
      · clear hnx2
        go_wp2
        go_ret
        exact HN.out
      · cases h2 : (((s[k]'hlt).toNat : Int) == 127)
        · have HM := hide (hnx2.out (by omega))
          clear hnx2
          go_wp2
          go_round
          case rel => exact ⟨k + 1, by omega, by go_num, HM⟩
          case measure => simp [intOf]; omega
        · clear hnx2
          go_wp2
          go_ret
          exact HN.out
    · have e : k = s.size := by omega
      subst e
      by_cases h0 : s.size = 0
      · have hse : s.toList.isEmpty = true := by
          have h1 := size_listN s
          rw [List.isEmpty_iff]
          exact List.eq_nil_of_length_eq_zero (by omega)
        go_wp2
        go_ret
        exact HN.out
      · have hse := str_ne h0
        by_cases h1 : (s.size : Int) ≤ 1000
        · have HF : Hid (TitRes s w (.returned (.bool true)) w) := hide ⟨true, rfl, fun _ => ⟨titTo_noTen hl.out, by omega, by omega⟩, rfl⟩
          clear hl
          go_wp2
          go_ret
          exact HF.out
        · clear hl
          go_wp2
          go_ret
          exact HN.out
end Go.Proofs.YtgegialfhkgggaaGreatDoor
