/- Walk: laws.FnPoint. No condition. -/
import Derived.Test.YtbbdhlnldkkdbaaMade
namespace Go.Proofs.Ytbbdhlnldkkdbaa
open Go.RowKit
attribute [local go_sem ↓] Go.wp_at_zero Go.wp_at_succ

set_option maxHeartbeats 2000000 in
theorem fnPoint_walk (l c o : Int) (w : World) :
    Calls Try.prog 4 #[.int .i64 l, .int .i64 c, .int .i64 o] w fun e w' => e = .returned (.bool true) ∧ Below w.heap.size w w' := by
  by_cases hf : near 1 [l, c, o] = true
  · have hb := near_bound hf
    simp only [List.mem_cons, List.not_mem_nil, or_false, forall_eq_or_imp, forall_eq] at hb
    obtain ⟨⟨p1, _⟩, ⟨p2, _⟩, ⟨p3, _⟩⟩ := hb
    have HF := hide hf
    clear hf
    have h1 := fun W => made_any l c o W
    simp only [cl_pos p1, cc_pos p2, co_pos p3, oL_pos p1, oC_pos p1, oO_pos (show 0 ≤ o by omega), told_pos p1] at h1
    have h2 := fun W => made_any 0 0 o W
    have e0 : co 0 0 o = o := co_pos p3
    have et : told 0 o = true := by unfold told; simp; omega
    simp only [show cl 0 = 0 from rfl, show cc 0 0 = 0 from rfl, e0, show oL 0 = 0 from rfl, show oC 0 0 = 0 from rfl, oO_pos (show 0 ≤ o by omega), et] at h2
    have h3 := fun W => made_any l c (-1) W
    have e3 : co l c (-1) = -1 := by unfold co; rw [if_neg (by omega)]
    simp only [cl_pos p1, cc_pos p2, e3, oL_pos p1, oC_pos p1, show oO (-1) = -1 from rfl, told_pos p1] at h3
    have H1 := hide h1
    have H2 := hide h2
    have H3 := hide h3
    clear h1 h2 h3 e0 et e3
    go_enter Try.func4, Try.ntmps4
    go_wp2_with fail
    refine (isNear_any 1 _ _ [l, c, o] (by simp) _ (Ints.blk (Blk.newAt (by simp)) rfl)).mono ?_
    rintro e w1 ⟨rfl, rfl⟩
    rw [HF.out]
    go_wp2_with fail
    refine (H1.out _).mono ?_
    rintro e w1 ⟨rfl, hb1⟩
    have hbl1 : Below w.heap.size w w1 := Below.trans (by go_grown) (hb1.mono (by simp; omega))
    have k1 := Blk.kept (Blk.newAt (g := w.heap.size + 1) (by simp)) hb1
    have f1 := k1.three
    have g1 := k1.lt
    have hz1 := hb1.size
    simp at hz1
    clear hb1
    go_wp2_with fail
    refine (only_any _ _ _ _).mono ?_
    rintro e w2 ⟨rfl, hb2⟩
    have hbl2 : Below w.heap.size w w2 := Below.trans (by go_grown) (hb2.mono (by simp; omega))
    have k2 := (k1.alloc _).kept hb2
    have m2 := Blk.kept (Blk.newAt (g := w1.heap.size) (by simp)) hb2
    have hz2 := hb2.size
    simp at hz2
    clear hb2 k1 f1 g1
    go_wp2_with fail
    refine (H2.out _).mono ?_
    rintro e w3 ⟨rfl, hb3⟩
    have hbl3 := hbl2.trans (hb3.mono (by omega))
    have k3 := k2.kept hb3
    have m3 := m2.kept hb3
    have f3 := k3.three
    have g3 := k3.lt
    have hz3 := hb3.size
    clear hb3 k2 m2
    go_wp2_with fail
    refine (bare_any _ _ _ _).mono ?_
    rintro e w4 ⟨rfl, hb4⟩
    have hbl4 : Below w.heap.size w w4 := Below.trans (by go_grown) (hb4.mono (by simp; omega))
    have k4 := (k3.alloc _).kept hb4
    have m4 := (m3.alloc _).kept hb4
    have n4 := Blk.kept (Blk.newAt (g := w3.heap.size) (by simp)) hb4
    have hz4 := hb4.size
    simp at hz4
    clear hb4 k3 m3 f3 g3
    go_wp2_with fail
    refine (H3.out _).mono ?_
    rintro e w5 ⟨rfl, hb5⟩
    have hbl5 := hbl4.trans (hb5.mono (by omega))
    have k5 := k4.kept hb5
    have m5 := m4.kept hb5
    have n5 := n4.kept hb5
    clear hb5 k4 m4 n4
    go_wp2_with fail
    refine wp_gen ?_
    intro W hW
    have hblW : Below w.heap.size w W := by have := hbl5.size; rw [hW]; go_grown
    have b1 := k5.al1 hW
    have b2 := m5.al1 hW
    have b3 := n5.al1 hW
    have b4 := blk1_1 hW
    clear k5 m5 n5 hW
    have a1 := b1.lt
    have a2 := b2.lt
    have a3 := b3.lt
    have a4 := b4.lt
    have f1 := b1.three
    have f2 := b2.three
    have f3 := b3.three
    have f4 := b4.three
    clear b1 b2 b3 b4 hbl1 hbl2 hbl3 hbl4 hbl5 hz1 hz2 hz3 hz4
    go_region_held3 (fun w' => (∀ b o, b < W.heap.size → w'.cell? ⟨b, o, none⟩ = W.cell? ⟨b, o, none⟩) ∧ W.heap.size ≤ w'.heap.size ∧ Below (W.heap.size) W w')
    (first
      | (with_reducible exact SB.start (by omega))
      | (go_split_ands; (with_reducible refine SB.call ?_ hb); exact ⟨by assumption, by assumption, by assumption⟩))
    (first
      | (go_at_call 16; refine (spans_any _).mono ?_; rintro e w1 ⟨rfl, hb⟩)
      | (go_at_call 20; refine (only_any _ _ _ _).mono ?_; rintro e w1 ⟨rfl, hb⟩)
      | (go_at_call 21; refine (bare_any _ _ _ _).mono ?_; rintro e w1 ⟨rfl, hb⟩))
    go_wp2
    go_split_ands
    try go_ret
    exact ⟨rfl, hblW.trans (Below.mono (B := W.heap.size) (by assumption) (by have := hblW.size; omega))⟩
  · have hf' : near 1 [l, c, o] = false := by simpa using hf
    have HF := hide hf'
    clear hf hf'
    go_enter Try.func4, Try.ntmps4
    go_wp2_with fail
    refine (isNear_any 1 _ _ [l, c, o] (by simp) _ (Ints.blk (Blk.newAt (by simp)) rfl)).mono ?_
    rintro e w1 ⟨rfl, rfl⟩
    rw [HF.out]
    go_wp2_with fail
    refine (spans_any _).mono ?_
    rintro e w1 ⟨rfl, hb1⟩
    have hbl1 : Below w.heap.size w w1 := Below.trans (by go_grown) (hb1.mono (by simp))
    go_wp2
    go_ret
    exact ⟨rfl, by go_grown⟩
end Go.Proofs.Ytbbdhlnldkkdbaa
