/- Walks: what a span and a point tell, spanOf of the thin package. No condition. -/
import Derived.Test.YtbbdhlnldkkdbaaSpanC
namespace Go.Proofs.Ytbbdhlnldkkdbaa
open Go.RowKit
attribute [local go_sem ↓] Go.wp_at_zero Go.wp_at_succ

section
variable (u : ByteArray) (l c o l2 c2 o2 : Int) (w : World)
theorem uri_any : Calls Try.prog 57 #[.agg #[.string u, .int .i64 l, .int .i64 c, .int .i64 o, .int .i64 l2, .int .i64 c2, .int .i64 o2]] w fun e w' => e = .returned (.string u) ∧ Below w.heap.size w w' := by
  go_enter Try.func57, Try.ntmps57
  go_wp2
  go_returns
  exact ⟨rfl, by go_grown⟩
theorem start_any : Calls Try.prog 53 #[.agg #[.string u, .int .i64 l, .int .i64 c, .int .i64 o, .int .i64 l2, .int .i64 c2, .int .i64 o2]] w fun e w' => e = .returned (.agg #[.int .i64 l, .int .i64 c, .int .i64 o]) ∧ Below w.heap.size w w' := by
  go_enter Try.func53, Try.ntmps53
  go_wp2
  go_returns
  exact ⟨rfl, by go_grown⟩
theorem end_any : Calls Try.prog 54 #[.agg #[.string u, .int .i64 l, .int .i64 c, .int .i64 o, .int .i64 l2, .int .i64 c2, .int .i64 o2]] w fun e w' => e = .returned (.agg #[.int .i64 l2, .int .i64 c2, .int .i64 o2]) ∧ Below w.heap.size w w' := by
  go_enter Try.func54, Try.ntmps54
  go_wp2
  go_returns
  exact ⟨rfl, by go_grown⟩
/-- A point is told. -/
def told (l o : Int) : Bool := decide (0 < l) || decide (0 ≤ o)
theorem isValid_any : Calls Try.prog 58 #[.agg #[.string u, .int .i64 l, .int .i64 c, .int .i64 o, .int .i64 l2, .int .i64 c2, .int .i64 o2]] w fun e w' => e = .returned (.bool (told l o)) ∧ Below w.heap.size w w' := by
  by_cases h1 : 0 < l <;> by_cases h2 : 0 ≤ o
  all_goals
    go_enter Try.func58, Try.ntmps58
    go_wp2
    go_returns
    exact ⟨by simp [told, h1, h2], by go_grown⟩
end

set_option maxHeartbeats 1000000 in
/-- The span as plain data. -/
theorem spanOf_any (u : ByteArray) (l c o l2 c2 o2 : Int) (w : World) :
    Calls Try.prog 36 #[.agg #[.string u, .int .i64 l, .int .i64 c, .int .i64 o, .int .i64 l2, .int .i64 c2, .int .i64 o2]] w fun e w' =>
      e = .returned (.tuple #[.string u, .agg #[.int .i64 (oL l), .int .i64 (oC l c), .int .i64 (oO o)], .agg #[.int .i64 (oL l2), .int .i64 (oC l2 c2), .int .i64 (oO o2)], .bool (told l o)]) ∧ Below w.heap.size w w' := by
  go_enter Try.func36, Try.ntmps36
  go_wp2_with fail
  refine wp_gen ?_
  intro W hW
  have b1 := blk3_1 hW
  have b2 := (blk3_2 hW).drew
  have b3 := (blk3_3 hW).drew
  have hz : w.heap.size + 1 + 1 ≤ W.heap.size := by rw [hW]; simp
  have hbl : Below w.heap.size w W := by rw [hW]; go_grown
  clear hW
  have f1 := b1.seven
  clear b1
  go_region_held3 (fun w' => (∀ b o, b < w.heap.size + 1 → w'.cell? ⟨b, o, none⟩ = W.cell? ⟨b, o, none⟩) ∧ w.heap.size + 1 ≤ w'.heap.size ∧ Below (w.heap.size + 1) W w')
    (first
      | (go_split_ands; with_reducible (refine SB.set ?_ ?_ _; refine SB.set ?_ ?_ _; refine SB.set ?_ ?_ _; exact ⟨by assumption, by assumption, by assumption⟩; all_goals first | exact Nat.le_refl _ | exact Nat.le_succ _ | (dsimp only; omega)))
      | (with_reducible exact SB.start (by omega))
      | (go_split_ands; (with_reducible refine SB.call ?_ hb); exact ⟨by assumption, by assumption, by assumption⟩))
    (first
      | (go_at_call 57; refine (uri_any _ _ _ _ _ _ _ _).mono ?_; rintro e w1 ⟨rfl, hb⟩; have kk := Blk.kept (g := w.heap.size + 1) (by assumption) hb; have kk := Blk.kept (g := w.heap.size + 1 + 1) (by assumption) hb)
      | (go_at_call 53; refine (start_any _ _ _ _ _ _ _ _).mono ?_; rintro e w1 ⟨rfl, hb⟩; have kk := Blk.kept (g := w.heap.size + 1) (by assumption) hb; have kk := Blk.kept (g := w.heap.size + 1 + 1) (by assumption) hb)
      | (go_at_call 54; refine (end_any _ _ _ _ _ _ _ _).mono ?_; rintro e w1 ⟨rfl, hb⟩; have kk := Blk.kept (g := w.heap.size + 1) (by assumption) hb; have kk := Blk.kept (g := w.heap.size + 1 + 1) (by assumption) hb)
      | (go_at_call 40; refine (pointOf_any _ _ _ _).mono ?_; rintro e w1 ⟨rfl, hb⟩; have kk := Blk.kept (g := w.heap.size + 1) (by assumption) hb; have kk := Blk.kept (g := w.heap.size + 1 + 1) (by assumption) hb)
      | (go_at_call 58; refine (isValid_any _ _ _ _ _ _ _ _).mono ?_; rintro e w1 ⟨rfl, hb⟩; have kk := Blk.kept (g := w.heap.size + 1) (by assumption) hb; have kk := Blk.kept (g := w.heap.size + 1 + 1) (by assumption) hb; have k2 := Blk.three (g := w.heap.size + 1) (by assumption); have k3 := Blk.three (g := w.heap.size + 1 + 1) (by assumption)))
  go_wp2
  go_split_ands
  exact bodyPost_ret (v := .tuple #[.string u, .agg #[.int .i64 (oL l), .int .i64 (oC l c), .int .i64 (oO o)], .agg #[.int .i64 (oL l2), .int .i64 (oC l2 c2), .int .i64 (oO o2)], .bool (told l o)])
    (by simp [results, Try.results36, go_sem, *]) rfl ⟨rfl, hbl.trans (Below.mono (B := w.heap.size + 1) (by assumption) (by omega))⟩

set_option maxHeartbeats 1000000 in
/-- What a span tells that is made of two points. -/
theorem madeSpan_any (u : ByteArray) (l c o l2 c2 o2 : Int) (w : World) :
    Calls Try.prog 17 #[.string u, .agg #[.int .i64 l, .int .i64 c, .int .i64 o], .agg #[.int .i64 l2, .int .i64 c2, .int .i64 o2]] w fun e w' =>
      e = .returned (.tuple #[.string u, .agg #[.int .i64 (oL (cl l)), .int .i64 (oC (cl l) (cc l c)), .int .i64 (oO (co l c o))],
        .agg #[.int .i64 (oL (eN (cl l2) (cc l2 c2) (co l2 c2 o2) (cl l) (cl l2))), .int .i64 (oC (eN (cl l2) (cc l2 c2) (co l2 c2 o2) (cl l) (cl l2)) (eN (cl l2) (cc l2 c2) (co l2 c2 o2) (cc l c) (cc l2 c2))), .int .i64 (oO (eN (cl l2) (cc l2 c2) (co l2 c2 o2) (co l c o) (co l2 c2 o2)))],
        .bool (told (cl l) (co l c o))]) ∧ Below w.heap.size w w' := by
  go_enter Try.func17, Try.ntmps17
  go_wp2_with fail
  refine (spanTo_any _ _ _ _ _ _ _ _).mono ?_
  rintro e w1 ⟨rfl, hb1⟩
  have hbl1 : Below w.heap.size w w1 := Below.trans (by go_grown) (hb1.mono (by simp; omega))
  have k1 := Blk.kept (Blk.newAt (g := w.heap.size + 1 + 1 + 1) (by simp)) hb1
  have k0 := Blk.kept ((Blk.newAt (g := w.heap.size + 1 + 1) (by simp)).alloc _) hb1
  have hz1 := hb1.size
  simp at hz1
  clear hb1
  go_wp2_with fail
  refine (spanOf_any _ _ _ _ _ _ _ _).mono ?_
  rintro e w2 ⟨rfl, hb2⟩
  have hbl2 := hbl1.trans (hb2.mono (by omega))
  have m1 := (k1.kept hb2).three
  have m0 := (k0.kept hb2).three
  clear hb2 k1 k0
  go_wp2
  exact bodyPost_ret (v := .tuple #[.string u, .agg #[.int .i64 (oL (cl l)), .int .i64 (oC (cl l) (cc l c)), .int .i64 (oO (co l c o))],
        .agg #[.int .i64 (oL (eN (cl l2) (cc l2 c2) (co l2 c2 o2) (cl l) (cl l2))), .int .i64 (oC (eN (cl l2) (cc l2 c2) (co l2 c2 o2) (cl l) (cl l2)) (eN (cl l2) (cc l2 c2) (co l2 c2 o2) (cc l c) (cc l2 c2))), .int .i64 (oO (eN (cl l2) (cc l2 c2) (co l2 c2 o2) (co l c o) (co l2 c2 o2)))],
        .bool (told (cl l) (co l c o))])
    (by simp [results, Try.results17, go_sem, m1, m0]) rfl ⟨rfl, by go_grown⟩
end Go.Proofs.Ytbbdhlnldkkdbaa
