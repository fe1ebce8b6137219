/- Walks: the thin package's ToOffset; its plain law. No condition but sizes. -/
import Derived.Test.YtbbdhlnldkkdbaaPosB
import Derived.Test.YtbbdhlnldkkdbaaPlace
namespace Go.Proofs.Ytbbdhlnldkkdbaa
open Go.RowKit
attribute [local go_sem ↓] Go.wp_at_zero Go.wp_at_succ

/-- The place of an offset of a byte, or of the end, leads back to it. -/
theorem toOffset_place (s : ByteArray) (k : Nat) (hk : k ≤ s.size) (hs : s.size ≤ 2147483647) (p : Nat) (w : World) (hC : Conv w p s.size (stTo s s.size)) :
    Calls Try.prog 45 #[.pointer (some ⟨p, 0, none⟩), .int .i64 ((nlTo s k : Int) + 1), .int .i64 ((k : Int) - lastNl s k)] w (OffRes w k) := by
  have hL := stTo_len s s.size
  have hlb := lastNl_bd s k
  by_cases hlt : k < s.size
  · have hst := start_at s k s.size hlt (Nat.le_refl _)
    have hlen : nlTo s k < (stTo s s.size).length := by
      obtain ⟨r, hr, _⟩ := stTo_prefix s (k + 1) s.size hlt
      have := stTo_length s k hlt
      rw [hr, List.length_append]; omega
    have h := toOffset_in p s.size (stTo s s.size) (nlTo s k) ((k : Int) - lastNl s k) w hC (by omega) hlen hs (by rw [hst]; omega) (by omega) (by omega) (by rw [hst]; omega) (by rw [hst]; omega)
    rw [hst, show lastNl s k + 1 + ((k : Int) - lastNl s k) - 1 = k by omega] at h
    exact h
  · have hk' : k = s.size := by omega
    subst hk'
    rcases Nat.eq_zero_or_pos s.size with h0 | h0
    · have e1 : stTo s s.size = [] := by rw [h0]; rfl
      have e2 : nlTo s s.size = 0 := by rw [h0]; simp [nlTo]
      have e3 : lastNl s s.size = -1 := by rw [h0]; rfl
      rw [e1] at hC
      have h := toOffset_end p s.size [] 1 w hC (by simp) (by omega)
      rw [e2, e3]
      rw [h0] at h ⊢
      exact h
    · obtain ⟨m, hm⟩ : ∃ m, s.size = m + 1 := ⟨s.size - 1, by omega⟩
      have hlen := stTo_length s m (by omega)
      have hnl := nlTo_succ s m (by omega)
      by_cases h10 : bt s m = 10
      · have e2 : nlTo s s.size = (stTo s s.size).length := by rw [hm, hnl, if_pos h10, hlen]
        have e3 : lastNl s s.size = m := by rw [hm, lastNl, if_pos h10]
        have h := toOffset_end p s.size (stTo s s.size) 1 w hC (by omega) (by omega)
        rw [e2, e3, show ((s.size : Int) - (m : Int)) = 1 by omega]
        exact h
      · have e2 : nlTo s s.size = nlTo s m := by rw [hm, hnl, if_neg h10]; omega
        have e3 : lastNl s s.size = lastNl s m := by rw [hm, lastNl, if_neg h10]
        have hst := start_at s m s.size (by omega) (Nat.le_refl _)
        have hbm := lastNl_bd s m
        have hlen2 : nlTo s m < (stTo s s.size).length := by rw [hm, hlen]; omega
        have h := toOffset_in p s.size (stTo s s.size) (nlTo s m) ((s.size : Int) - lastNl s m) w hC (by omega) hlen2 hs (by rw [hst]; omega) (by omega) (by omega) (by rw [hst]; omega) (by rw [hst]; omega)
        rw [hst, show lastNl s m + 1 + ((s.size : Int) - lastNl s m) - 1 = s.size by omega] at h
        rw [e2, e3]
        exact h

set_option maxHeartbeats 1000000 in
theorem iToOffset_place (s : ByteArray) (k : Nat) (hk : k ≤ s.size) (hs : s.size ≤ 2147483647) (w : World) :
    Calls Try.prog 24 #[.string s, .int .i64 ((nlTo s k : Int) + 1), .int .i64 ((k : Int) - lastNl s k)] w fun e w' => e = .returned (.tuple #[.int .i64 k, .bool true]) ∧ Below w.heap.size w w' := by
  have hcv := fun W => run_bytes_of_string (P := Try.prog) W 9 73 5 s Try.underlying9 Try.underlying73 Try.underlying5
  have HT := hide (toOffset_place s k hk hs)
  generalize (nlTo s k : Int) + 1 = a at *
  generalize (k : Int) - lastNl s k = b at *
  go_enter Try.func24, Try.ntmps24
  go_wp2_with fail
  refine (newConv_any _ s _ _ hs _ (bytes_new _ _ _ _ _)).mono ?_
  rintro e w1 ⟨p, rfl, hC, hb1⟩
  have hbl1 : Below w.heap.size w w1 := Below.trans (by go_grown) (hb1.mono (by simp))
  go_wp2_with fail
  refine (HT.out p _ hC).mono ?_
  rintro e w2 ⟨rfl, hb2⟩
  have hbl2 := hbl1.trans (hb2.mono hbl1.size)
  go_wp2
  go_ret2
  exact ⟨rfl, hbl2⟩
set_option maxHeartbeats 1000000 in
theorem iToOffset_beyond (s : ByteArray) (line col : Int) (hs : s.size ≤ 2147483647) (ho : ((stTo s s.size).length : Int) + 1 < line) (w : World) :
    Calls Try.prog 24 #[.string s, .int .i64 line, .int .i64 col] w fun e w' => e = .returned (.tuple #[.int .i64 0, .bool false]) ∧ Below w.heap.size w w' := by
  have hcv := fun W => run_bytes_of_string (P := Try.prog) W 9 73 5 s Try.underlying9 Try.underlying73 Try.underlying5
  go_enter Try.func24, Try.ntmps24
  go_wp2_with fail
  refine (newConv_any _ s _ _ hs _ (bytes_new _ _ _ _ _)).mono ?_
  rintro e w1 ⟨p, rfl, hC, hb1⟩
  have hbl1 : Below w.heap.size w w1 := Below.trans (by go_grown) (hb1.mono (by simp))
  go_wp2_with fail
  refine (toOffset_beyond p _ _ _ _ _ hC (by have := stTo_len s s.size; omega) ho).mono ?_
  rintro e w2 ⟨x, t, v, rfl, hb2⟩
  have hbl2 := hbl1.trans (hb2.mono hbl1.size)
  go_wp2
  go_ret2
  exact ⟨rfl, hbl2⟩
end Go.Proofs.Ytbbdhlnldkkdbaa
