/- Walk: laws.FnSpan. No condition. -/
import Derived.Test.YtbbdhlnldkkdbaaSpans
namespace Go.Proofs.Ytbbdhlnldkkdbaa
open Go.RowKit
attribute [local go_sem ↓] Go.wp_at_zero Go.wp_at_succ

set_option maxHeartbeats 2000000 in
theorem fnSpan_walk_far (u : ByteArray) (l c o l2 c2 o2 : Int) (w : World) (hu : ¬ (2147483647 : Int) < (u.size : Int)) (hf : (1000 : Int) < (u.size : Int) ∨ near 1 [l, c, o, l2, c2, o2] = false) :
    Calls Try.prog 3 #[.string u, .agg #[.int .i64 l, .int .i64 c, .int .i64 o], .agg #[.int .i64 l2, .int .i64 c2, .int .i64 o2]] w fun e w' => e = .returned (.bool true) ∧ Below w.heap.size w w' := by
  by_cases h2 : (1000 : Int) < (u.size : Int)
  · clear hf
    go_enter Try.func3, Try.ntmps3
    go_wp2_with fail
    refine (spans_any _).mono ?_
    rintro e w1 ⟨rfl, hb1⟩
    have hbl1 : Below w.heap.size w w1 := Below.trans (by go_grown) (hb1.mono (by simp; omega))
    go_wp2
    go_ret
    exact ⟨rfl, by go_grown⟩
  · have HF := hide (hf.resolve_left h2)
    clear hf
    go_enter Try.func3, Try.ntmps3
    go_wp2_with fail
    refine (isNear_any 1 _ _ [l, c, o, l2, c2, o2] (by simp) _ (Ints.blk (Blk.newAt (by simp)) rfl)).mono ?_
    rintro e w1 ⟨rfl, rfl⟩
    rw [HF.out]
    go_wp2_with fail
    refine (spans_any _).mono ?_
    rintro e w1 ⟨rfl, hb1⟩
    have hbl1 : Below w.heap.size w w1 := Below.trans (by go_grown) (hb1.mono (by simp; omega))
    go_wp2
    go_ret
    exact ⟨rfl, by go_grown⟩
set_option maxHeartbeats 2000000 in
theorem fnSpan_walk_near (u : ByteArray) (l c o l2 c2 o2 : Int) (w : World) (h1000 : ¬ (1000 : Int) < (u.size : Int)) (hf : near 1 [l, c, o, l2, c2, o2] = true) :
    Calls Try.prog 3 #[.string u, .agg #[.int .i64 l, .int .i64 c, .int .i64 o], .agg #[.int .i64 l2, .int .i64 c2, .int .i64 o2]] w fun e w' => e = .returned (.bool true) ∧ Below w.heap.size w w' := by
  have hb := near_bound hf
  simp only [List.mem_cons, List.not_mem_nil, or_false, forall_eq_or_imp, forall_eq] at hb
  obtain ⟨⟨p1, _⟩, ⟨p2, _⟩, ⟨p3, _⟩, ⟨p4, _⟩, ⟨p5, _⟩, ⟨p6, _⟩⟩ := hb
  have HF := hide hf
  clear hf
  have hI := fun W => isPoint_pos u l c o l2 c2 o2 W p1 p2 p3 p4 p5 p6
  obtain ⟨b, hp, hc⟩ : ∃ b : Bool, (l == l2 && (c == c2 && o == o2)) = b ∧ ((b = true ∧ l = l2 ∧ c = c2 ∧ o = o2) ∨ (b = false ∧ ¬ l = l2) ∨ (b = false ∧ l = l2 ∧ ¬ c = c2) ∨ (b = false ∧ l = l2 ∧ c = c2 ∧ ¬ o = o2)) := by
    refine ⟨_, rfl, ?_⟩
    by_cases e1 : l = l2 <;> by_cases e2 : c = c2 <;> by_cases e3 : o = o2 <;> simp [e1, e2, e3]
  rw [hp] at hI
  clear hp
  have HI := hide hI
  clear hI
  have HM := hide (fun W => madeSpan_pos u l c o l2 c2 o2 W p1 p2 p3 p4 p5 p6)
  rcases hc with ⟨rfl, rfl, rfl, rfl⟩ | ⟨rfl, n1⟩ | ⟨rfl, rfl, n1⟩ | ⟨rfl, rfl, rfl, n1⟩
  all_goals
    go_enter Try.func3, Try.ntmps3
    go_wp2_with fail
    refine (isNear_any 1 _ _ [l, c, o, _, _, _] (by simp) _ (Ints.blk (Blk.newAt (by simp)) rfl)).mono ?_
    rintro e w1 ⟨rfl, rfl⟩
    rw [HF.out]
    go_wp2_with fail
    refine (HM.out _).mono ?_
    rintro e w1 ⟨rfl, hb1⟩
    have hbl1 : Below w.heap.size w w1 := Below.trans (by go_grown) (hb1.mono (by simp; omega))
    have k1 := (Blk.kept (((Blk.newAt (g := w.heap.size) (by simp)).alloc _).alloc _) hb1)
    have k2 := (Blk.kept ((Blk.newAt (g := w.heap.size + 1) (by simp)).alloc _) hb1)
    have hz1 := hb1.size
    simp at hz1
    clear hb1
    go_wp2_with fail
    refine wp_gen ?_
    intro W hW
    have hblW : Below w.heap.size w W := by rw [hW]; go_grown
    have b1 := k1.al2 hW
    have b2 := k2.al2 hW
    have b3 := blk2_1 hW
    have b4 := blk2_2 hW
    clear k1 k2 hW
    have a1 := b1.lt
    have a2 := b2.lt
    have a3 := b3.lt
    have a4 := b4.lt
    have f1 := b1.three
    have f2 := b2.three
    have f3 := b3.three
    have f4 := b4.three
    clear b1 b2 b3 b4
    go_region_held3 (fun w' => (∀ b o, b < W.heap.size → w'.cell? ⟨b, o, none⟩ = W.cell? ⟨b, o, none⟩) ∧ W.heap.size ≤ w'.heap.size ∧ Below (W.heap.size) W w')
    (first
      | (with_reducible exact SB.start (by omega))
      | (go_split_ands; (with_reducible refine SB.call ?_ hb); exact ⟨by assumption, by assumption, by assumption⟩))
    (first
      | (go_at_call 16; refine (spans_any _).mono ?_; rintro e w1 ⟨rfl, hb⟩)
      | (go_at_call 18; refine (HI.out _).mono ?_; rintro e w1 ⟨rfl, hb⟩))
    go_wp2
    go_split_ands
    go_ret
    exact ⟨rfl, hblW.trans (Below.mono (B := W.heap.size) (by assumption) (by omega))⟩
end Go.Proofs.Ytbbdhlnldkkdbaa
