/- Walk: spec.IsWhole. No condition but sizes. -/
import Derived.Test.YtckgdkjgllopmaaDoorUnitsM
import Derived.Test.YtckgdkjgllopmaaDoorWholePM
set_option linter.unusedVariables false
set_option linter.unusedSimpArgs false
namespace Go.Proofs.YtckgdkjgllopmaaDoor
open Go.RowKit Go.Proofs.YtckgdkjgllopmaaDoor.Lines
attribute [local go_sem ↓] Go.wp_at_zero Go.wp_at_succ

set_option maxHeartbeats 4000000 in
set_option maxRecDepth 100000 in
theorem isWhole_any (s : ByteArray) (m : Nat) (hm : m ≤ s.size) (hs : s.size ≤ 2147483647) (w : World) :
    Calls Tryd.prog 9 #[.string s, .int .i64 m] w fun e w' => e = .returned (.bool (goes s.data.toList m 0)) ∧ Below w.heap.size w w' := by
  have HW := hide (fun a (ha : a < m) W => wide_any (s.extract a s.size) (by rw [ByteArray.size_extract]; omega) (by rw [ByteArray.size_extract]; omega) W)
  have HG : Hid (∀ a, a < m → (dec (s.extract a s.size).data.toList).2 ≤ 4 ∧ goes s.data.toList m (a + (dec (s.extract a s.size).data.toList).2) = goes s.data.toList m a) := hide (fun a ha => by
    rw [drop_list]
    exact ⟨(dec_wide _).2.1, (goes_lt ha).symm⟩)
  have HE : Hid (∀ a, ¬ a < m → (((a : Int) == (m : Int)) : Bool) = goes s.data.toList m a) := hide (fun a ha => by
    rw [goes_ge ha, Bool.eq_iff_iff, beq_iff_eq, beq_iff_eq]; omega)
  go_enter Tryd.func9, Tryd.ntmps9
  go_wp2_with fail
  go_loopw [5] (fun av wr => ∃ a : Nat, av = .int .i64 a ∧ a ≤ m + 4 ∧ Hid (goes s.data.toList m a = goes s.data.toList m 0) ∧ Hid (Below w.heap.size w wr)) (fun av _ => m - (intOf av).toNat)
  case atStart => exact ⟨0, rfl, Nat.zero_le _, hide rfl, hide (Below.refl _ _)⟩
  case round =>
    obtain ⟨a, rfl, ha, hg, hr⟩ := hrel
    by_cases hlt : a < m
    · have HWa := hide (fun W => HW.out a hlt W)
      obtain ⟨h4, hnx⟩ := HG.out a hlt
      have hd1 := (dec_wide (s.extract a s.size).data.toList).1
      generalize dec (s.extract a s.size).data.toList = d at *
      unfold WideRes at HWa
      have HNx := hide (hnx.trans hg.out)
      clear hnx hg HW HG
      obtain ⟨d1, d2⟩ := d
      dsimp only at HWa HNx h4 hd1
      go_wp2_with fail
      refine (HWa.out _).mono ?_
      rintro e w1 ⟨rfl, hb1⟩
      have HB1 := hide (hr.out.trans (hb1.mono hr.out.size))
      clear hb1 hr HWa
      go_wp2
      go_roundw
      case rel => exact ⟨a + d2, by go_num, by omega, HNx, HB1⟩
      case measure => simp [intOf]; omega
    · have he := HE.out a hlt
      rw [hg.out] at he
      have HB := hr
      clear HW HG HE hg
      go_wp2
      go_ret
      exact ⟨rfl, HB.out⟩
end Go.Proofs.YtckgdkjgllopmaaDoor
