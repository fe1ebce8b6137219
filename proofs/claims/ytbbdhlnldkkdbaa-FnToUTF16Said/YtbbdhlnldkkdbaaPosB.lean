/- Walks: the thin package's ToPosition. No condition but sizes. -/
import Derived.Test.YtbbdhlnldkkdbaaPos
namespace Go.Proofs.Ytbbdhlnldkkdbaa
open Go.RowKit
attribute [local go_sem ↓] Go.wp_at_zero Go.wp_at_succ

theorem bytes_new (W : World) (s : ByteArray) (C : Nat) (t : TypeId) (fr : Nat × Nat) : BytesAt (W.drew.alloc (.cells (bytesRow s C) t fr)) W.heap.size s := by
  intro i hi
  have h := World.cell?_alloc_mark W.drew (bytesRow s C) t fr i
  have h2 := bytesRow_at s C i (by simpa using hi)
  rw [h2] at h
  have e : (s.data[i]'(by simpa using hi)).toNat = bt s i := by rw [← bt_get hi]; rfl
  rw [e] at h
  exact h

theorem stTo_bound (s : ByteArray) (k : Nat) : ∀ x ∈ stTo s k, (0 : Int) ≤ x ∧ x < k := by
  induction k with
  | zero => simp [stTo]
  | succ k ih =>
    intro x hx
    cases h : isSt s k
    · rw [stTo_false h] at hx; have := ih x hx; omega
    · rw [stTo_true h, List.mem_append] at hx
      rcases hx with hx | hx
      · have := ih x hx; omega
      · simp at hx; omega

set_option maxHeartbeats 1000000 in
theorem iToPosition_past (s : ByteArray) (off : Int) (hs : s.size ≤ 2147483647) (ho : (s.size : Int) < off) (w : World) :
    Calls Try.prog 23 #[.string s, .int .i64 off] w fun e w' => e = .returned (.tuple #[.int .i64 0, .int .i64 0, .bool false]) ∧ Below w.heap.size w w' := by
  have hcv := fun W => run_bytes_of_string (P := Try.prog) W 9 73 5 s Try.underlying9 Try.underlying73 Try.underlying5
  go_enter Try.func23, Try.ntmps23
  go_wp2_with fail
  refine (newConv_any _ s _ _ hs _ (bytes_new _ _ _ _ _)).mono ?_
  rintro e w1 ⟨p, rfl, hC, hb1⟩
  have hbl1 : Below w.heap.size w w1 := Below.trans (by go_grown) (hb1.mono (by simp))
  go_wp2_with fail
  refine (toPosition_past p _ _ _ _ hC ho).mono ?_
  rintro e w2 ⟨t, v, rfl, hb2⟩
  have hbl2 := hbl1.trans (hb2.mono hbl1.size)
  go_wp2
  go_ret3
  exact ⟨rfl, hbl2⟩

set_option maxHeartbeats 1000000 in
theorem iToPosition_in (s : ByteArray) (off : Int) (hs : s.size ≤ 2147483647) (h0 : 0 ≤ off) (ho : off ≤ s.size) (w : World) :
    Calls Try.prog 23 #[.string s, .int .i64 off] w fun e w' => e = .returned (.tuple #[.int .i64 (posLine s.size (stTo s s.size) off), .int .i64 (posCol s.size (stTo s s.size) off), .bool true]) ∧ Below w.heap.size w w' := by
  have hcv := fun W => run_bytes_of_string (P := Try.prog) W 9 73 5 s Try.underlying9 Try.underlying73 Try.underlying5
  go_enter Try.func23, Try.ntmps23
  go_wp2_with fail
  refine (newConv_any _ s _ _ hs _ (bytes_new _ _ _ _ _)).mono ?_
  rintro e w1 ⟨p, rfl, hC, hb1⟩
  have hbl1 : Below w.heap.size w w1 := Below.trans (by go_grown) (hb1.mono (by simp))
  go_wp2_with fail
  refine (toPosition_in p _ _ _ _ hC h0 ho (by have := stTo_len s s.size; omega) hs (fun x hx => by have := stTo_bound s s.size x hx; omega)).mono ?_
  rintro e w2 ⟨rfl, hb2⟩
  have hbl2 := hbl1.trans (hb2.mono hbl1.size)
  go_wp2
  go_ret3
  exact ⟨rfl, hbl2⟩
end Go.Proofs.Ytbbdhlnldkkdbaa
