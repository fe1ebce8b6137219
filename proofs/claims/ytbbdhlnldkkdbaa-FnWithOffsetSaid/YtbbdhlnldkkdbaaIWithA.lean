/- Walks: the thin package's WithAll, WithOffset, WithPosition. No condition but sizes. -/
import Derived.Test.YtbbdhlnldkkdbaaWith
import Derived.Test.YtbbdhlnldkkdbaaBaseD
import Derived.Test.YtbbdhlnldkkdbaaSpans
namespace Go.Proofs.Ytbbdhlnldkkdbaa
open Go.RowKit
attribute [local go_sem ↓] Go.wp_at_zero Go.wp_at_succ

set_option maxHeartbeats 4000000 in
theorem iWithAll_of (s : ByteArray) (hs : s.size ≤ 2147483647) (l c o l2 c2 o2 sl sc so el ec eo l' c' o' l2' c2' o2' : Int) (w : World)
    (hS : ∀ W, Calls Try.prog 37 #[.string ⟨#[97]⟩, .agg #[.int .i64 l, .int .i64 c, .int .i64 o], .agg #[.int .i64 l2, .int .i64 c2, .int .i64 o2]] W fun e w' => e = .returned (.agg #[.string ⟨#[97]⟩, .int .i64 sl, .int .i64 sc, .int .i64 so, .int .i64 el, .int .i64 ec, .int .i64 eo]) ∧ Below W.heap.size W w')
    (hM : ∀ W p, Conv W p s.size (stTo s s.size) → Calls Try.prog 52 #[.agg #[.string ⟨#[97]⟩, .int .i64 sl, .int .i64 sc, .int .i64 so, .int .i64 el, .int .i64 ec, .int .i64 eo], .iface 71 (.pointer (some ⟨p, 0, none⟩))] W fun e w' =>
      e = .returned (.tuple #[.agg #[.string ⟨#[97]⟩, .int .i64 l', .int .i64 c', .int .i64 o', .int .i64 l2', .int .i64 c2', .int .i64 o2'], .nilIface]) ∧ Below W.heap.size W w') :
    Calls Try.prog 33 #[.string s, .agg #[.int .i64 l, .int .i64 c, .int .i64 o], .agg #[.int .i64 l2, .int .i64 c2, .int .i64 o2]] w fun e w' =>
      e = .returned (.tuple #[.agg #[.int .i64 (oL l'), .int .i64 (oC l' c'), .int .i64 (oO o')], .agg #[.int .i64 (oL l2'), .int .i64 (oC l2' c2'), .int .i64 (oO o2')], .bool true]) ∧ Below w.heap.size w w' := by
  have HS := hide hS
  have HM := hide hM
  clear hS hM
  have hcv := fun W => run_bytes_of_string (P := Try.prog) W 9 73 5 s Try.underlying9 Try.underlying73 Try.underlying5
  go_enter Try.func33, Try.ntmps33
  go_wp2_with fail
  refine (HS.out _).mono ?_
  rintro e w1 ⟨rfl, hb1⟩
  have hbl1 : Below w.heap.size w w1 := Below.trans (by go_grown) (hb1.mono (by simp; omega))
  have k1 := Blk.kept ((Blk.newAt (g := w.heap.size + 1 + 1) (by simp)).alloc _) hb1
  have m1 := Blk.kept (Blk.newAt (g := w.heap.size + 1 + 1 + 1) (by simp)) hb1
  have hz1 := hbl1.size
  clear hb1
  go_wp2_with fail
  refine (newConv_any _ s _ _ hs _ (bytes_new _ _ _ _ _)).mono ?_
  rintro e w2 ⟨p, rfl, hC, hb2⟩
  have hbl2 : Below w.heap.size w w2 := Below.trans (by go_grown) (hb2.mono (by simp; omega))
  have k2 := (k1.drew.alloc _).kept hb2
  have m2 := (m1.drew.alloc _).kept hb2
  have hz2 := hbl2.size
  clear hb2 k1 m1 hbl1
  go_wp2_with fail
  refine (HM.out _ p hC).mono ?_
  rintro e w3 ⟨rfl, hb3⟩
  have hbl3 := hbl2.trans (hb3.mono hbl2.size)
  have k3 := k2.kept hb3
  have m3 := m2.kept hb3
  clear hb3 k2 m2 hbl2 hC
  clear hcv
  go_wp2_with fail
  refine wp_gen ?_
  intro W hW
  have hz3 := hbl3.size
  have hblW : Below w.heap.size w W := by rw [hW]; go_grown
  have b1 := (k3.al1 hW).drew
  have b2 := (m3.al1 hW).drew
  have b3 := blk1_1 hW
  have a1 := (k3.al1 hW).lt
  have a2 := (m3.al1 hW).lt
  have a3 := b3.lt
  have n1 : ¬ w3.heap.size = w.heap.size + 1 + 1 := by have := k3.lt; omega
  have n2 : ¬ w3.heap.size = w.heap.size + 1 + 1 + 1 := by have := m3.lt; omega
  have f3 := b3.seven
  clear hW b3 k3 m3
  go_region_held3 (fun w' => (∀ b o, b < W.heap.size → ¬ b = w.heap.size + 1 + 1 → ¬ b = w.heap.size + 1 + 1 + 1 → w'.cell? ⟨b, o, none⟩ = W.cell? ⟨b, o, none⟩) ∧ W.heap.size ≤ w'.heap.size ∧ Off2 (w.heap.size + 1 + 1) (w.heap.size + 1 + 1 + 1) W w')
    (first
      | (go_split_ands; with_reducible (refine SY.set ?_ ?_ _; refine SY.set ?_ ?_ _; refine SY.set ?_ ?_ _; exact ⟨by assumption, by assumption, by assumption⟩; all_goals first | exact Or.inl rfl | exact Or.inr rfl))
      | (with_reducible exact SY.start)
      | (go_split_ands; (with_reducible refine SY.call ?_ hb); exact ⟨by assumption, by assumption, by assumption⟩))
    (first
      | (go_at_call 53; refine (start_any _ _ _ _ _ _ _ _).mono ?_; rintro e w1 ⟨rfl, hb⟩; have kk := Blk.kept (g := w.heap.size + 1 + 1) (by assumption) hb; have kk := Blk.kept (g := w.heap.size + 1 + 1 + 1) (by assumption) hb)
      | (go_at_call 54; refine (end_any _ _ _ _ _ _ _ _).mono ?_; rintro e w1 ⟨rfl, hb⟩; have kk := Blk.kept (g := w.heap.size + 1 + 1) (by assumption) hb; have kk := Blk.kept (g := w.heap.size + 1 + 1 + 1) (by assumption) hb)
      | (go_at_call 40; refine (pointOf_any _ _ _ _).mono ?_; rintro e w1 ⟨rfl, hb⟩; have kk := Blk.kept (g := w.heap.size + 1 + 1) (by assumption) hb; have kk := Blk.kept (g := w.heap.size + 1 + 1 + 1) (by assumption) hb; have k2 := Blk.three (g := w.heap.size + 1 + 1) (by assumption); have k3 := Blk.three (g := w.heap.size + 1 + 1 + 1) (by assumption)))
  go_wp2
  go_split_ands
  exact bodyPost_ret (v := .tuple #[.agg #[.int .i64 (oL l'), .int .i64 (oC l' c'), .int .i64 (oO o')], .agg #[.int .i64 (oL l2'), .int .i64 (oC l2' c2'), .int .i64 (oO o2')], .bool true])
    (by simp [results, Try.results33, go_sem, *]) rfl ⟨rfl, hblW.trans (Off2.below (g := w.heap.size + 1 + 1) (h := w.heap.size + 1 + 1 + 1) (by assumption) (by omega) (by omega) (by omega))⟩

end Go.Proofs.Ytbbdhlnldkkdbaa
