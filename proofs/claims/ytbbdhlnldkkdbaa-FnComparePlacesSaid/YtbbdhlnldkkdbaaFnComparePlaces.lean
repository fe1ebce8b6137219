/- Walk: laws.FnComparePlaces. No condition. -/
import Derived.Test.YtbbdhlnldkkdbaaCompareB
namespace Go.Proofs.Ytbbdhlnldkkdbaa
open Go.RowKit
attribute [local go_sem ↓] Go.wp_at_zero Go.wp_at_succ

theorem sgn_bd (a b : Int) : -1 ≤ sgn a b ∧ sgn a b ≤ 1 := by simp only [sgn]; (repeat' split) <;> omega

set_option maxHeartbeats 4000000 in
theorem fnComparePlaces_walk (l c l2 c2 : Int) (w : World) :
    Calls Try.prog 8 #[.int .i64 l, .int .i64 c, .int .i64 l2, .int .i64 c2] w fun e w' => e = .returned (.bool true) ∧ Below w.heap.size w w' := by
  by_cases hf : near 1 [l, c, l2, c2] = true
  · have hb := near_bound hf
    simp only [List.mem_cons, List.not_mem_nil, or_false, forall_eq_or_imp, forall_eq] at hb
    obtain ⟨⟨p1, _⟩, ⟨p2, _⟩, ⟨p3, _⟩, ⟨p4, _⟩⟩ := hb
    have HF := hide hf
    clear hf
    obtain ⟨r, hr⟩ : ∃ r, sgn2 l c l2 c2 = r := ⟨_, rfl⟩
    obtain ⟨s, hs⟩ : ∃ s, sgn l l2 = s := ⟨_, rfl⟩
    have hP := fun W => places_point p1 p2 p3 p4 W
    have hQ := fun W => places_point p3 p4 p1 p2 W
    have hS := fun (u : ByteArray) W => places_span u p1 p2 p3 p4 W
    have hG := fun W => sign_any l l2 W
    have hG2 := fun W => sign_any c c2 W
    rw [hr] at hP
    rw [sgn2_neg, hr] at hQ
    rw [hr] at hS
    have hrs : (s = 0 ∧ sgn c c2 = r) ∨ ((s == 0) = false ∧ s = r) := by
      unfold sgn2 at hr
      rw [hs] at hr
      by_cases h0 : s = 0
      · rw [if_pos h0] at hr; exact Or.inl ⟨h0, hr⟩
      · rw [if_neg h0] at hr; exact Or.inr ⟨by simpa using h0, hr⟩
    have hb2 := sgn_bd c c2
    have hb1 := sgn_bd l l2
    have hbr : -1 ≤ r ∧ r ≤ 1 := by rcases hrs with ⟨_, h⟩ | ⟨_, h⟩ <;> omega
    obtain ⟨lo, hi⟩ := hbr
    rw [hs] at hG
    clear hr hs hb1 hb2
    rcases hrs with ⟨rfl, h⟩ | ⟨hs0, rfl⟩
    · rw [h] at hG2
      have HP := hide hP
      have HQ := hide hQ
      have HS := hide hS
      have HG := hide hG
      have HG2 := hide hG2
      clear hP hQ hS hG hG2 h
      go_enter Try.func8, Try.ntmps8
      go_wp2_with fail
      refine (isNear_any 1 _ _ [l, c, l2, c2] (by simp) _ (Ints.blk (Blk.newAt (by simp)) rfl)).mono ?_
      rintro e w1 ⟨rfl, rfl⟩
      rw [HF.out]
      go_wp2_with fail
      refine (HG.out _).mono ?_
      rintro e w1 ⟨rfl, rfl⟩
      go_wp2_with fail
      refine (HG2.out _).mono ?_
      rintro e w1 ⟨rfl, rfl⟩
      go_wp2_with fail
      refine (spans_any _).mono ?_
      rintro e w1 ⟨rfl, hb1⟩
      have hbl1 : Below w.heap.size w w1 := Below.trans (by go_grown) (hb1.mono (by simp; omega))
      have k1 := Blk.kept ((Blk.newAt (g := w.heap.size + 1) (by simp)).alloc _) hb1
      have m1 := Blk.kept (Blk.newAt (g := w.heap.size + 1 + 1) (by simp)) hb1
      have f1 := k1.three
      have g1 := m1.three
      clear hb1
      go_wp2_with fail
      refine (HP.out _).mono ?_
      rintro e w2 ⟨rfl, hb2⟩
      have hbl2 := hbl1.trans (hb2.mono hbl1.size)
      have k2 := k1.kept hb2
      have m2 := m1.kept hb2
      have f2 := k2.three
      have g2 := m2.three
      clear hb2 k1 m1 f1 g1
      go_wp2_with fail
      refine (HQ.out _).mono ?_
      rintro e w3 ⟨rfl, hb3⟩
      have hbl3 := hbl2.trans (hb3.mono hbl2.size)
      have k3 := k2.kept hb3
      have m3 := m2.kept hb3
      have f3 := k3.three
      have g3 := m3.three
      clear hb3 k2 m2 f2 g2
      go_wp2_with fail
      refine (HS.out _ _).mono ?_
      rintro e w4 ⟨rfl, hb4⟩
      have hbl4 := hbl3.trans (hb4.mono hbl3.size)
      clear hb4 k3 m3 f3 g3
      go_wp2
      go_ret
      exact ⟨rfl, hbl4⟩
    · have HP := hide hP
      have HQ := hide hQ
      have HS := hide hS
      have HG := hide hG
      have HG2 := hide hG2
      clear hP hQ hS hG hG2
      go_enter Try.func8, Try.ntmps8
      go_wp2_with fail
      refine (isNear_any 1 _ _ [l, c, l2, c2] (by simp) _ (Ints.blk (Blk.newAt (by simp)) rfl)).mono ?_
      rintro e w1 ⟨rfl, rfl⟩
      rw [HF.out]
      go_wp2_with fail
      refine (HG.out _).mono ?_
      rintro e w1 ⟨rfl, rfl⟩
      go_wp2_with fail
      refine (spans_any _).mono ?_
      rintro e w1 ⟨rfl, hb1⟩
      have hbl1 : Below w.heap.size w w1 := Below.trans (by go_grown) (hb1.mono (by simp; omega))
      have k1 := Blk.kept ((Blk.newAt (g := w.heap.size + 1) (by simp)).alloc _) hb1
      have m1 := Blk.kept (Blk.newAt (g := w.heap.size + 1 + 1) (by simp)) hb1
      have f1 := k1.three
      have g1 := m1.three
      clear hb1
      go_wp2_with fail
      refine (HP.out _).mono ?_
      rintro e w2 ⟨rfl, hb2⟩
      have hbl2 := hbl1.trans (hb2.mono hbl1.size)
      have k2 := k1.kept hb2
      have m2 := m1.kept hb2
      have f2 := k2.three
      have g2 := m2.three
      clear hb2 k1 m1 f1 g1
      go_wp2_with fail
      refine (HQ.out _).mono ?_
      rintro e w3 ⟨rfl, hb3⟩
      have hbl3 := hbl2.trans (hb3.mono hbl2.size)
      have k3 := k2.kept hb3
      have m3 := m2.kept hb3
      have f3 := k3.three
      have g3 := m3.three
      clear hb3 k2 m2 f2 g2
      go_wp2_with fail
      refine (HS.out _ _).mono ?_
      rintro e w4 ⟨rfl, hb4⟩
      have hbl4 := hbl3.trans (hb4.mono hbl3.size)
      clear hb4 k3 m3 f3 g3
      go_wp2
      go_ret
      exact ⟨rfl, hbl4⟩
  · have hf' : near 1 [l, c, l2, c2] = false := by simpa using hf
    have HF := hide hf'
    clear hf hf'
    go_enter Try.func8, Try.ntmps8
    go_wp2_with fail
    refine (isNear_any 1 _ _ [l, c, l2, c2] (by simp) _ (Ints.blk (Blk.newAt (by simp)) rfl)).mono ?_
    rintro e w1 ⟨rfl, rfl⟩
    rw [HF.out]
    go_wp2_with fail
    refine (spans_any _).mono ?_
    rintro e w1 ⟨rfl, hb1⟩
    have hbl1 : Below w.heap.size w w1 := Below.trans (by go_grown) (hb1.mono (by simp))
    go_wp2
    go_ret
    exact ⟨rfl, by go_grown⟩
end Go.Proofs.Ytbbdhlnldkkdbaa
