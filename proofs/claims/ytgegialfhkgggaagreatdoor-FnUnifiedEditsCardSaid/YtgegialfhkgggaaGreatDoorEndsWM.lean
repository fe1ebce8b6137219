/- Walk: spec.EndsLine. No condition but sizes. -/
import Derived.Test.YtgegialfhkgggaaGreatDoorPj
set_option linter.unusedVariables false
set_option linter.unusedSimpArgs false
namespace Go.Proofs.YtgegialfhkgggaaGreatDoor
open Go.RowKit Go.Proofs.YtgegialfhkgggaaGreatDoor.Lines
attribute [local go_sem ↓] Go.wp_at_zero Go.wp_at_succ

/-- A text that is empty or ends with a newline. -/
def endsB (s : ByteArray) : Bool := s.data.toList.getLast?.getD 10 == 10

set_option maxHeartbeats 4000000 in
theorem endsLine_any (s : ByteArray) (hs : s.size ≤ 2147483647) (w : World) :
    Calls Tryz.prog 29 #[.string s] w fun e w' => e = .returned (.bool (endsB s)) ∧ w' = w := by
  by_cases h0 : s.size = 0
  · have he : endsB s = true := by
      unfold endsB
      have : s.data.toList = [] := List.eq_nil_of_length_eq_zero (by rw [size_list]; exact h0)
      rw [this]; rfl
    rw [he]
    have hse : s.toList.isEmpty = true := by
      cases h : s.toList.isEmpty
      · exfalso
        have := size_list s
        have hd : s.toList = s.data.toList := ByteArray.toList_eq s
        have hn : s.data.toList = [] := List.eq_nil_of_length_eq_zero (by rw [size_list]; exact h0)
        rw [hd, hn] at h
        cases h
      · rfl
    go_enter Tryz.func29, Tryz.ntmps29
    go_wp2
    go_ret
    exact ⟨rfl, rfl⟩
  · have hse := str_ne h0
    have hl : s.data.toList.getLast? = some (s[s.size - 1]'(by omega)) := by
      rw [List.getLast?_eq_getElem?, size_list, Array.getElem?_toList, Array.getElem?_eq_getElem (show s.size - 1 < s.size by omega)]
      rfl
    have he : ((((s[s.size - 1]'(by omega)).toNat : Nat) : Int) == 10) = endsB s := by
      unfold endsB
      rw [hl, Option.getD_some]
      generalize (s[s.size - 1]'(by omega)) = c
      rw [Bool.eq_iff_iff, beq_iff_eq, beq_iff_eq]
      constructor
      · intro h
        apply UInt8.toNat_inj.1
        show c.toNat = 10
        omega
      · rintro rfl; rfl
    go_enter Tryz.func29, Tryz.ntmps29
    go_wp2
    go_ret
    exact ⟨by rw [← he]; rfl, rfl⟩
end Go.Proofs.YtgegialfhkgggaaGreatDoor
