/- Walk: laws.FnToUTF16, from the place on. No condition but sizes. -/
import Derived.Test.YtbbdhlnldkkdbaaUtfCol
import Derived.Test.YtbbdhlnldkkdbaaSpans
namespace Go.Proofs.Ytbbdhlnldkkdbaa
open Go.RowKit Go.Proofs.Ytbbdhlnldkkdbaa.Lines
attribute [local go_sem ↓] Go.wp_at_zero Go.wp_at_succ

theorem short_size {s : ByteArray} (h : shortB [s] = true) : s.size ≤ 100000 := by
  unfold shortB at h
  simp at h
  have := h.1
  unfold sumSz at this
  simp at this
  exact this

set_option maxHeartbeats 2000000 in
theorem fnToUTF16_near (s : ByteArray) (k : Nat) (hk : k ≤ s.size) (hsh : shortB [s] = true) (w : World) :
    Calls Try.prog 11 #[.string s, .int .i64 k] w fun e w' => e = .returned (.bool true) ∧ Below w.heap.size w w' := by
  have hs := short_size hsh
  have HF := hide hsh
  clear hsh
  have hbd := lastNl_bd s k
  obtain ⟨b, hb⟩ := Int.eq_ofNat_of_zero_le (show 0 ≤ lastNl s k + 1 by omega)
  have hP := fun W => place_any s k hk (by omega) W
  have h0 : k = 0 → ((nlTo s k : Nat) : Int) + 1 = 1 := by rintro rfl; simp [nlTo]
  generalize hl : ((nlTo s k : Nat) : Int) + 1 = l at *
  have h1 : 1 ≤ l := by omega
  rw [show (k : Int) - lastNl s k = (k : Int) - b + 1 by omega] at hP
  have HT := hide (fun W => iToUTF16_any s l b k h1 (by omega) hk h0 (by omega) W)
  have hbk : b ≤ k := by omega
  have HU := hide (fun W => units_any (s.extract b k) (by rw [ByteArray.size_extract]; omega) W)
  have hU := units_le _ (s.extract b k).data.toList (Nat.le_refl _)
  rw [size_list, ByteArray.size_extract] at hU
  have hU2 : units (s.extract b k).data.toList ≤ 2147483647 := by omega
  have HP := hide hP
  have q1 : decide ((k : Int) < 0) = false := by simp
  have q2 : decide (s.size < k) = false := by simp; omega
  clear hU hP hb hbd hl
  generalize units (s.extract b k).data.toList = U at *
  obtain ⟨m, rfl⟩ : ∃ m, k = b + m := ⟨k - b, by omega⟩
  rw [show (((b + m : Nat) : Int) - b + 1) = (m : Int) + 1 by omega] at HT HP
  go_enter Try.func11, Try.ntmps11
  go_wp2_with fail
  refine (isShort_any _ _ [s] (by simp) (by simp; omega) _ (Strs.blk (Blk.newAt (by simp)) rfl)).mono ?_
  rintro e w1 ⟨rfl, rfl⟩
  rw [HF.out]
  go_wp2_with fail
  refine (HP.out _).mono ?_
  rintro e w1 ⟨rfl, hb1⟩
  have hbl1 : Below w.heap.size w w1 := Below.trans (by go_grown) (hb1.mono (by simp))
  have hz1 := hbl1.size
  go_wp2_with fail
  refine (HT.out _).mono ?_
  rintro e w2 ⟨rfl, hb2⟩
  have hbl2 : Below w.heap.size w w2 := Below.trans (by go_grown) (hb2.mono (by simp; omega))
  have k2 := Blk.kept (Blk.newAt (g := w1.heap.size) (by simp)) hb2
  clear hb1 hb2
  go_wp2_with fail
  refine (spans_any _).mono ?_
  rintro e w3 ⟨rfl, hb3⟩
  have hbl3 := hbl2.trans (hb3.mono hbl2.size)
  have k3 := k2.kept hb3
  have f3 := k3.three
  have l3 := k3.lt
  go_wp2_with fail
  rw [show ((b : Int) + (m : Int) - ((m : Int) + 1) + 1).toNat = b from by omega]
  refine (HU.out _).mono ?_
  rintro e w4 ⟨rfl, hb4⟩
  have hbl4 := hbl3.trans (hb4.mono hbl3.size)
  go_wp2
  go_ret
  exact ⟨rfl, hbl4⟩
end Go.Proofs.Ytbbdhlnldkkdbaa
