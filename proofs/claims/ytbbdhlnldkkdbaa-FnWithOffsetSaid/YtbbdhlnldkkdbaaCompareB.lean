/- Walks: the thin package's Compare and ComparePoint, laws.FnComparePlaces. No condition. -/
import Derived.Test.YtbbdhlnldkkdbaaCompare
namespace Go.Proofs.Ytbbdhlnldkkdbaa
open Go.RowKit
attribute [local go_sem ↓] Go.wp_at_zero Go.wp_at_succ

set_option maxHeartbeats 1000000 in
theorem iComparePoint_any (l c o l2 c2 o2 : Int) (w : World) : Calls Try.prog 29 #[.agg #[.int .i64 l, .int .i64 c, .int .i64 o], .agg #[.int .i64 l2, .int .i64 c2, .int .i64 o2]] w fun e w' =>
    e = .returned (.int .i64 (cmpP (cl l) (cc l c) (co l c o) (cl l2) (cc l2 c2) (co l2 c2 o2))) ∧ Below w.heap.size w w' := by
  go_enter Try.func29, Try.ntmps29
  go_wp2_with fail
  refine wp_gen ?_
  intro W hW
  have hbl : Below w.heap.size w W := by rw [hW]; go_grown
  have b1 := blk2_1 hW
  have b2 := blk2_2 hW
  clear hW
  have lt1 := b1.lt
  have lt2 := b2.lt
  have f1 := b1.three
  have f2 := b2.three
  clear b1 b2
  go_region_held3 (fun w' => (∀ b o, b < W.heap.size → w'.cell? ⟨b, o, none⟩ = W.cell? ⟨b, o, none⟩) ∧ W.heap.size ≤ w'.heap.size ∧ Below (W.heap.size) W w')
    (first
      | (with_reducible exact SB.start (by omega))
      | (go_split_ands; (with_reducible refine SB.call ?_ hb); exact ⟨by assumption, by assumption, by assumption⟩))
    (first
      | (go_at_call 39; refine (pointTo_any _ _ _ _).mono ?_; rintro e w1 ⟨rfl, hb⟩)
      | (go_at_call 48; refine (pCompare_any _ _ _ _ _ _ _).mono ?_; rintro e w1 ⟨rfl, hb⟩))
  go_wp2
  go_split_ands
  go_ret
  exact ⟨rfl, hbl.trans (Below.mono (B := W.heap.size) (by assumption) hbl.size)⟩

set_option maxHeartbeats 2000000 in
theorem iCompare_any (u : ByteArray) (l c o l2 c2 o2 : Int) (v : ByteArray) (a b d a2 b2 d2 : Int) (w : World) :
    Calls Try.prog 28 #[.string u, .agg #[.int .i64 l, .int .i64 c, .int .i64 o], .agg #[.int .i64 l2, .int .i64 c2, .int .i64 o2], .string v, .agg #[.int .i64 a, .int .i64 b, .int .i64 d], .agg #[.int .i64 a2, .int .i64 b2, .int .i64 d2]] w fun e w' =>
      e = .returned (.int .i64 (cmpS u (cl l) (cc l c) (co l c o) (eN (cl l2) (cc l2 c2) (co l2 c2 o2) (cl l) (cl l2)) (eN (cl l2) (cc l2 c2) (co l2 c2 o2) (cc l c) (cc l2 c2)) (eN (cl l2) (cc l2 c2) (co l2 c2 o2) (co l c o) (co l2 c2 o2))
        v (cl a) (cc a b) (co a b d) (eN (cl a2) (cc a2 b2) (co a2 b2 d2) (cl a) (cl a2)) (eN (cl a2) (cc a2 b2) (co a2 b2 d2) (cc a b) (cc a2 b2)) (eN (cl a2) (cc a2 b2) (co a2 b2 d2) (co a b d) (co a2 b2 d2)))) ∧ Below w.heap.size w w' := by
  go_enter Try.func28, Try.ntmps28
  go_wp2_with fail
  refine wp_gen ?_
  intro W hW
  have hbl : Below w.heap.size w W := by rw [hW]; go_grown
  have b1 := blk4_1 hW
  have b3 := blk4_3 hW
  have b4 := blk4_4 hW
  have b5 := blk4_2 hW
  clear hW
  have lt1 := b1.lt
  have lt5 := b5.lt
  have lt3 := b3.lt
  have lt4 := b4.lt
  have f1 := b1.three
  have f5 := b5.three
  have f3 := b3.three
  have f4 := b4.three
  clear b1 b5 b3 b4
  go_region_held3 (fun w' => (∀ b o, b < W.heap.size → w'.cell? ⟨b, o, none⟩ = W.cell? ⟨b, o, none⟩) ∧ W.heap.size ≤ w'.heap.size ∧ Below (W.heap.size) W w')
    (first
      | (with_reducible exact SB.start (by omega))
      | (go_split_ands; (with_reducible refine SB.call ?_ hb); exact ⟨by assumption, by assumption, by assumption⟩))
    (first
      | (go_at_call 37; refine (spanTo_any _ _ _ _ _ _ _ _).mono ?_; rintro e w1 ⟨rfl, hb⟩)
      | (go_at_call 47; refine (sCompare_any _ _ _ _ _ _ _ _ _ _ _ _ _ _ _).mono ?_; rintro e w1 ⟨rfl, hb⟩))
  go_wp2
  go_split_ands
  go_ret
  exact ⟨rfl, hbl.trans (Below.mono (B := W.heap.size) (by assumption) hbl.size)⟩

/-- The orders of places: by lines, then by columns. -/
def sgn2 (l c l2 c2 : Int) : Int := if sgn l l2 = 0 then sgn c c2 else sgn l l2
theorem cmpP_pos {l c o l2 c2 o2 : Int} (h : 1 ≤ l) : cmpP l c o l2 c2 o2 = sgn2 l c l2 c2 := by
  simp only [cmpP, sgn2, sgn]; (repeat' split) <;> omega
theorem sgn2_neg (l c l2 c2 : Int) : sgn2 l2 c2 l c = - sgn2 l c l2 c2 := by
  simp only [sgn2, sgn]; (repeat' split) <;> omega
theorem co_bare {l c : Int} : co l c (-1) = -1 := by unfold co; rw [if_neg (by omega)]
theorem cmpS_same (u : ByteArray) (l c o l2 c2 o2 a b d a2 b2 d2 : Int) (h : cmpP l2 c2 o2 a2 b2 d2 = cmpP l c o a b d) : cmpS u l c o l2 c2 o2 u a b d a2 b2 d2 = cmpP l c o a b d := by
  have e : cmpU u u = 0 := by unfold cmpU; simp
  unfold cmpS
  rw [if_pos e, h]
  split <;> rfl

theorem places_point {l c l2 c2 : Int} (p1 : 1 ≤ l) (p2 : 1 ≤ c) (p3 : 1 ≤ l2) (p4 : 1 ≤ c2) (w : World) :
    Calls Try.prog 29 #[.agg #[.int .i64 l, .int .i64 c, .int .i64 (-1)], .agg #[.int .i64 l2, .int .i64 c2, .int .i64 (-1)]] w fun e w' => e = .returned (.int .i64 (sgn2 l c l2 c2)) ∧ Below w.heap.size w w' := by
  have h := iComparePoint_any l c (-1) l2 c2 (-1) w
  rw [cl_pos p1, cl_pos p3, cc_pos p2, cc_pos p4, cmpP_pos p1] at h
  exact h
theorem places_span {l c l2 c2 : Int} (u : ByteArray) (p1 : 1 ≤ l) (p2 : 1 ≤ c) (p3 : 1 ≤ l2) (p4 : 1 ≤ c2) (w : World) :
    Calls Try.prog 28 #[.string u, .agg #[.int .i64 l, .int .i64 c, .int .i64 (-1)], .agg #[.int .i64 l, .int .i64 c, .int .i64 (-1)], .string u, .agg #[.int .i64 l2, .int .i64 c2, .int .i64 (-1)], .agg #[.int .i64 l2, .int .i64 c2, .int .i64 (-1)]] w fun e w' => e = .returned (.int .i64 (sgn2 l c l2 c2)) ∧ Below w.heap.size w w' := by
  have h := iCompare_any u l c (-1) l c (-1) u l2 c2 (-1) l2 c2 (-1) w
  rw [cl_pos p1, cl_pos p3, cc_pos p2, cc_pos p4, eN_keep (atSt_pos p1), eN_keep (atSt_pos p1), eN_keep (atSt_pos p1), eN_keep (atSt_pos p3), eN_keep (atSt_pos p3), eN_keep (atSt_pos p3), cmpS_same _ _ _ _ _ _ _ _ _ _ _ _ _ rfl, cmpP_pos p1] at h
  exact h
end Go.Proofs.Ytbbdhlnldkkdbaa
