/- Walks: utf8.DecodeLastRuneInString at a text that ends with a byte below 128; gtspan.zzLastNonDigit. No condition but sizes. -/
import Derived.Test.YtckgdkjgllopmaaDoorPa
import Derived.Test.YtckgdkjgllopmaaDoorPb
import Derived.Test.YtckgdkjgllopmaaDoorPl
import Derived.Test.YtckgdkjgllopmaaDoorNumPM
set_option linter.unusedVariables false
set_option linter.unusedSimpArgs false
namespace Go.Proofs.YtckgdkjgllopmaaDoor
open Go.RowKit Go.Proofs.YtckgdkjgllopmaaDoor.Lines
attribute [local go_sem ↓] Go.wp_at_zero Go.wp_at_succ

set_option maxHeartbeats 4000000 in
theorem lastR_ascii (s : ByteArray) (h0 : 0 < s.size) (hs : s.size ≤ 2147483647) (x : UInt8) (hx : s[s.size - 1]'(by omega) = x) (h : x.toNat < 128) (w : World) :
    Calls Tryd.prog 57 #[.string s] w fun e w' => e = .returned (.tuple #[.int .i32 (x.toNat : Int), .int .i64 1]) ∧ w = w' := by
  have hz : ((s.size : Int) == 0) = false := beq_eq_false_iff_ne.2 (by omega)
  have hlt : (x.toNat : Int) < 128 := by omega
  go_enter Tryd.func57, Tryd.ntmps57
  go_wp2
  go_returns
  exact ⟨rfl, rfl⟩

theorem last_of_take {s : ByteArray} {k : Nat} (hk : k < s.size) : ∃ h : (s.extract 0 (k + 1)).size - 1 < (s.extract 0 (k + 1)).size, (s.extract 0 (k + 1))[(s.extract 0 (k + 1)).size - 1]'h = s[k]'hk := by
  have hz : (s.extract 0 (k + 1)).size = k + 1 := by rw [ByteArray.size_extract]; omega
  refine ⟨by omega, ?_⟩
  apply UInt8.toNat_inj.1
  rw [bt_get, bt_get]
  unfold bt
  rw [extract_list, hz, List.drop_zero, Nat.add_sub_cancel, List.getD_eq_getElem?_getD, List.getD_eq_getElem?_getD, List.getElem?_take_of_lt (by omega)]

set_option maxHeartbeats 4000000 in
theorem zzLast_any (s : ByteArray) (p : Nat) (hp : p < s.size) (hs : s.size ≤ 2147483647) (hx : bt s p < 128 ∧ ¬ (48 ≤ bt s p ∧ bt s p ≤ 57)) (hd : ∀ j, p < j → j < s.size → 48 ≤ bt s j ∧ bt s j ≤ 57) (w : World) :
    Calls Tryd.prog 55 #[.string s] w fun e w' => e = .returned (.int .i64 p) ∧ w = w' := by
  have HR : Hid (∀ k (hk : k < s.size) W, bt s k < 128 → Calls Tryd.prog 57 #[.string (s.extract 0 (k + 1))] W fun e w' => e = .returned (.tuple #[.int .i32 (bt s k : Int), .int .i64 1]) ∧ W = w') := hide (fun k hk W h => by
    obtain ⟨h1, h2⟩ := last_of_take hk
    have hz : (s.extract 0 (k + 1)).size = k + 1 := by rw [ByteArray.size_extract]; omega
    have h3 := lastR_ascii (s.extract 0 (k + 1)) (by omega) (by omega) _ h2 (by rw [bt_get hk]; exact h) W
    rw [bt_get hk] at h3
    exact h3)
  have HX := hide hx
  have HD := hide hd
  clear hx hd
  go_enter Tryd.func55, Tryd.ntmps55
  go_wp2
  go_loop [3] (fun i => ∃ k : Nat, p ≤ k ∧ k < s.size ∧ i = .int .i64 ((k : Int) + 1)) (fun i => (intOf i).toNat)
  case atStart => exact ⟨s.size - 1, by omega, by omega, by go_num⟩
  case round =>
    obtain ⟨k, hk, hks, rfl⟩ := hrel
    by_cases e : k = p
    · subst e
      obtain ⟨q1, q2⟩ := HX.out
      have HRk := hide (fun W => HR.out k hks W q1)
      clear HR HD HX
      generalize bt s k = b at *
      have hcd : (b : Int) < 48 ∨ (57 : Int) < (b : Int) := by omega
      go_wp2_with fail
      refine (HRk.out _).mono ?_
      rintro e w1 ⟨rfl, rfl⟩
      rcases hcd with hcd | hcd
      · go_wp2
        go_ret
        exact ⟨rfl, rfl⟩
      · go_wp2
        go_ret
        exact ⟨rfl, rfl⟩
    · obtain ⟨q1, q2⟩ := HD.out k (by omega) hks
      have HRk := hide (fun W => HR.out k hks W (by omega))
      clear HR HX
      generalize bt s k = b at *
      have c1 : ¬ (b : Int) < 48 := by omega
      have c2 : ¬ (57 : Int) < (b : Int) := by omega
      go_wp2_with fail
      refine (HRk.out _).mono ?_
      rintro e w1 ⟨rfl, rfl⟩
      go_wp2
      go_round
      case rel => exact ⟨k - 1, by omega, by omega, by go_num⟩
      case measure => simp [intOf] <;> omega
end Go.Proofs.YtckgdkjgllopmaaDoor
