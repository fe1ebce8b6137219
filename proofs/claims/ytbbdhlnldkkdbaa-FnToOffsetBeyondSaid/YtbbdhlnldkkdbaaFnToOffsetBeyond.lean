/- Walk: laws.FnToOffsetBeyond, from the lines on. No condition but sizes. -/
import Derived.Test.YtbbdhlnldkkdbaaOffB
import Derived.Test.YtbbdhlnldkkdbaaLinesW
import Derived.Test.YtbbdhlnldkkdbaaSpans
namespace Go.Proofs.Ytbbdhlnldkkdbaa
open Go.RowKit
attribute [local go_sem ↓] Go.wp_at_zero Go.wp_at_succ

set_option maxHeartbeats 2000000 in
theorem fnToOffsetBeyond_near (s : ByteArray) (b c : Int) (hs : s.size ≤ 2147483647) (hb2 : 2 ≤ b) (hb3 : b ≤ 1000000) (hc : near 1 [c] = true) (hsh : shortB [s] = true) (w : World) :
    Calls Try.prog 6 #[.string s, .int .i64 b, .int .i64 c] w fun e w' => e = .returned (.bool true) ∧ Below w.heap.size w w' := by
  have HF := hide hsh
  have HN := hide hc
  have q1 : decide (b < 2) = false := by simpa using hb2
  have q2 : decide (1000000 < b) = false := by simpa using hb3
  clear hc hsh
  have hlen := linesB_length s
  have hle := stTo_len s s.size
  have HT := hide (fun W => iToOffset_beyond s ((linesB s).length + b) c hs (by omega) W)
  have hl : ∀ W, Calls Try.prog 25 #[.string s] W fun e w' => ∃ A c, e = .returned (.slice A (linesB s).length c) ∧ Below W.heap.size W w' := fun W => (lines_any s hs W).mono (fun e w' ⟨A, c, h1, _, h2⟩ => ⟨A, c, h1, h2⟩)
  have hn : (linesB s).length ≤ 2147483647 := by omega
  clear hlen hle
  generalize (linesB s).length = n at *
  have HL := hide hl
  clear hl
  have hi : ((n : Int) + b) ≤ 9223372036854775807 := by omega
  go_enter Try.func6, Try.ntmps6
  go_wp2_with fail
  refine (isShort_any _ _ [s] (by simp) (by simp; omega) _ (Strs.blk (Blk.newAt (by simp)) rfl)).mono ?_
  rintro e w1 ⟨rfl, rfl⟩
  rw [HF.out]
  go_wp2_with fail
  refine (isNear_any 1 _ _ [c] (by simp) _ (Ints.blk (Blk.newAt (by simp)) rfl)).mono ?_
  rintro e w1 ⟨rfl, rfl⟩
  rw [HN.out]
  go_wp2_with fail
  refine (HL.out _).mono ?_
  rintro e w1 ⟨A, cA, rfl, hb1⟩
  have hbl1 : Below w.heap.size w w1 := Below.trans (by go_grown) (hb1.mono (by simp; omega))
  have hz1 := hbl1.size
  go_wp2_with fail
  refine (HT.out _).mono ?_
  rintro e w2 ⟨rfl, hb2⟩
  have hbl2 := hbl1.trans (hb2.mono hbl1.size)
  go_wp2_with fail
  refine (spans_any _).mono ?_
  rintro e w3 ⟨rfl, hb3⟩
  have hbl3 := hbl2.trans (hb3.mono hbl2.size)
  go_wp2
  go_ret
  exact ⟨rfl, hbl3⟩
end Go.Proofs.Ytbbdhlnldkkdbaa
