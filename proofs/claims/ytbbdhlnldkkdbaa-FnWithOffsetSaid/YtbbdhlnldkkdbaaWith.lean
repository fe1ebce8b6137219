/- Walks: WithAll, WithOffset, WithPosition out of update. No condition. -/
import Derived.Test.YtbbdhlnldkkdbaaUpdD
namespace Go.Proofs.Ytbbdhlnldkkdbaa
open Go.RowKit
attribute [local go_sem ↓] Go.wp_at_zero Go.wp_at_succ

set_option maxHeartbeats 2000000 in
theorem withAll_of (u : ByteArray) (l c o l2 c2 o2 l' c' o' l2' c2' o2' : Int) (p : Nat) (w : World)
    (hU : ∀ W, Below w.heap.size w W → Blk W w.heap.size 62 #[.string u, .int .i64 l, .int .i64 c, .int .i64 o, .int .i64 l2, .int .i64 c2, .int .i64 o2] →
      Calls Try.prog 73 #[.pointer (some ⟨w.heap.size, 0, none⟩), .iface 71 (.pointer (some ⟨p, 0, none⟩)), .bool true, .bool true] W
        (UpdRes W w.heap.size #[.string u, .int .i64 l', .int .i64 c', .int .i64 o', .int .i64 l2', .int .i64 c2', .int .i64 o2'])) :
    Calls Try.prog 52 #[.agg #[.string u, .int .i64 l, .int .i64 c, .int .i64 o, .int .i64 l2, .int .i64 c2, .int .i64 o2], .iface 71 (.pointer (some ⟨p, 0, none⟩))] w fun e w' =>
      e = .returned (.tuple #[.agg #[.string u, .int .i64 l', .int .i64 c', .int .i64 o', .int .i64 l2', .int .i64 c2', .int .i64 o2'], .nilIface]) ∧ Below w.heap.size w w' := by
  have HU := hide hU
  clear hU
  go_enter Try.func52, Try.ntmps52
  go_wp2_with fail
  refine (HU.out _ (by go_grown) ((Blk.newAt rfl).alloc _)).mono ?_
  rintro e w1 ⟨rfl, kk, hg⟩
  have hbl : Below w.heap.size w w1 := Below.trans (by go_grown) (SX.below hg (Nat.le_refl _) (by simp; omega))
  have k7 := kk.seven
  have r := (Blk.newAt (w := w.alloc (.cells #[.string u, .int .i64 l, .int .i64 c, .int .i64 o, .int .i64 l2, .int .i64 c2, .int .i64 o2] 62)) (g := w.heap.size + 1) (t := 62) (cs := #[.string ⟨#[]⟩, .int .i64 0, .int .i64 0, .int .i64 0, .int .i64 0, .int .i64 0, .int .i64 0]) (by simp))
  have r7 := (r.grown hg (by simp)).seven
  clear hg r
  go_wp2
  exact bodyPost_ret (v := .tuple #[.agg #[.string u, .int .i64 l', .int .i64 c', .int .i64 o', .int .i64 l2', .int .i64 c2', .int .i64 o2'], .nilIface])
    (by simp [results, Try.results52, go_sem, r7, k7]) rfl ⟨rfl, by go_grown⟩
set_option maxHeartbeats 2000000 in
theorem withOffset_of (u : ByteArray) (l c o l2 c2 o2 l' c' o' l2' c2' o2' : Int) (p : Nat) (w : World)
    (hU : ∀ W, Below w.heap.size w W → Blk W w.heap.size 62 #[.string u, .int .i64 l, .int .i64 c, .int .i64 o, .int .i64 l2, .int .i64 c2, .int .i64 o2] →
      Calls Try.prog 73 #[.pointer (some ⟨w.heap.size, 0, none⟩), .iface 71 (.pointer (some ⟨p, 0, none⟩)), .bool false, .bool true] W
        (UpdRes W w.heap.size #[.string u, .int .i64 l', .int .i64 c', .int .i64 o', .int .i64 l2', .int .i64 c2', .int .i64 o2'])) :
    Calls Try.prog 55 #[.agg #[.string u, .int .i64 l, .int .i64 c, .int .i64 o, .int .i64 l2, .int .i64 c2, .int .i64 o2], .iface 71 (.pointer (some ⟨p, 0, none⟩))] w fun e w' =>
      e = .returned (.tuple #[.agg #[.string u, .int .i64 l', .int .i64 c', .int .i64 o', .int .i64 l2', .int .i64 c2', .int .i64 o2'], .nilIface]) ∧ Below w.heap.size w w' := by
  have HU := hide hU
  clear hU
  go_enter Try.func55, Try.ntmps55
  go_wp2_with fail
  refine (HU.out _ (by go_grown) ((Blk.newAt rfl).alloc _)).mono ?_
  rintro e w1 ⟨rfl, kk, hg⟩
  have hbl : Below w.heap.size w w1 := Below.trans (by go_grown) (SX.below hg (Nat.le_refl _) (by simp; omega))
  have k7 := kk.seven
  have r := (Blk.newAt (w := w.alloc (.cells #[.string u, .int .i64 l, .int .i64 c, .int .i64 o, .int .i64 l2, .int .i64 c2, .int .i64 o2] 62)) (g := w.heap.size + 1) (t := 62) (cs := #[.string ⟨#[]⟩, .int .i64 0, .int .i64 0, .int .i64 0, .int .i64 0, .int .i64 0, .int .i64 0]) (by simp))
  have r7 := (r.grown hg (by simp)).seven
  clear hg r
  go_wp2
  exact bodyPost_ret (v := .tuple #[.agg #[.string u, .int .i64 l', .int .i64 c', .int .i64 o', .int .i64 l2', .int .i64 c2', .int .i64 o2'], .nilIface])
    (by simp [results, Try.results55, go_sem, r7, k7]) rfl ⟨rfl, by go_grown⟩
set_option maxHeartbeats 2000000 in
theorem withPosition_of (u : ByteArray) (l c o l2 c2 o2 l' c' o' l2' c2' o2' : Int) (p : Nat) (w : World)
    (hU : ∀ W, Below w.heap.size w W → Blk W w.heap.size 62 #[.string u, .int .i64 l, .int .i64 c, .int .i64 o, .int .i64 l2, .int .i64 c2, .int .i64 o2] →
      Calls Try.prog 73 #[.pointer (some ⟨w.heap.size, 0, none⟩), .iface 71 (.pointer (some ⟨p, 0, none⟩)), .bool true, .bool false] W
        (UpdRes W w.heap.size #[.string u, .int .i64 l', .int .i64 c', .int .i64 o', .int .i64 l2', .int .i64 c2', .int .i64 o2'])) :
    Calls Try.prog 56 #[.agg #[.string u, .int .i64 l, .int .i64 c, .int .i64 o, .int .i64 l2, .int .i64 c2, .int .i64 o2], .iface 71 (.pointer (some ⟨p, 0, none⟩))] w fun e w' =>
      e = .returned (.tuple #[.agg #[.string u, .int .i64 l', .int .i64 c', .int .i64 o', .int .i64 l2', .int .i64 c2', .int .i64 o2'], .nilIface]) ∧ Below w.heap.size w w' := by
  have HU := hide hU
  clear hU
  go_enter Try.func56, Try.ntmps56
  go_wp2_with fail
  refine (HU.out _ (by go_grown) ((Blk.newAt rfl).alloc _)).mono ?_
  rintro e w1 ⟨rfl, kk, hg⟩
  have hbl : Below w.heap.size w w1 := Below.trans (by go_grown) (SX.below hg (Nat.le_refl _) (by simp; omega))
  have k7 := kk.seven
  have r := (Blk.newAt (w := w.alloc (.cells #[.string u, .int .i64 l, .int .i64 c, .int .i64 o, .int .i64 l2, .int .i64 c2, .int .i64 o2] 62)) (g := w.heap.size + 1) (t := 62) (cs := #[.string ⟨#[]⟩, .int .i64 0, .int .i64 0, .int .i64 0, .int .i64 0, .int .i64 0, .int .i64 0]) (by simp))
  have r7 := (r.grown hg (by simp)).seven
  clear hg r
  go_wp2
  exact bodyPost_ret (v := .tuple #[.agg #[.string u, .int .i64 l', .int .i64 c', .int .i64 o', .int .i64 l2', .int .i64 c2', .int .i64 o2'], .nilIface])
    (by simp [results, Try.results56, go_sem, r7, k7]) rfl ⟨rfl, by go_grown⟩
end Go.Proofs.Ytbbdhlnldkkdbaa
