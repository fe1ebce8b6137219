/- Walks: updatePosition, updateOffset, update of a span. No condition but sizes. -/
import Derived.Test.YtbbdhlnldkkdbaaOffB
import Derived.Test.YtbbdhlnldkkdbaaSpanD
namespace Go.Proofs.Ytbbdhlnldkkdbaa
open Go.RowKit
attribute [local go_sem ↓] Go.wp_at_zero Go.wp_at_succ

theorem nil_pos (a : Addr) (w : World) : (nilAhead 228 71 (.pointer (some a)) "ToPosition").run Try.prog w = .ok (some false) w := by kernel_rfl
theorem met_pos (a : Addr) (w : World) : (method 228 71 (.pointer (some a)) "ToPosition").run Try.prog w = .ok (44, .pointer (some a)) w := by kernel_rfl
theorem nil_off (a : Addr) (w : World) : (nilAhead 228 71 (.pointer (some a)) "ToOffset").run Try.prog w = .ok (some false) w := by kernel_rfl
theorem met_off (a : Addr) (w : World) : (method 228 71 (.pointer (some a)) "ToOffset").run Try.prog w = .ok (45, .pointer (some a)) w := by kernel_rfl

/-- A span's block was changed, and nothing else that was there. -/
def UpdRes (w : World) (g : Nat) (cs : Array Value) (e : Ending) (w' : World) : Prop := e = .returned .nilIface ∧ Blk w' g 62 cs ∧ w.grownBy w' (some g)

theorem grown_of_below {a w : World} (h : Below a.heap.size a w) (row : Option Nat) : a.grownBy w row := ⟨h.os, h.tape, h.output, h.size, fun i hi _ => h.block i hi⟩

set_option maxHeartbeats 1000000 in
theorem updPos1 (u : ByteArray) (l c o l2 c2 o2 : Int) (g p n : Nat) (L : List Int) (w0 w : World) (hC : Conv w0 p n L) (hb0 : Below w0.heap.size w0 w)
    (hB : Blk w g 62 #[.string u, .int .i64 l, .int .i64 c, .int .i64 o, .int .i64 l2, .int .i64 c2, .int .i64 o2]) (h0 : 0 ≤ o) (ho : o ≤ n) (hL : L.length ≤ 2147483647) (hn : n ≤ 2147483647) (hLb : ∀ x ∈ L, 0 ≤ x ∧ x ≤ 2147483647) :
    Calls Try.prog 82 #[.pointer (some ⟨g, 1, none⟩), .iface 71 (.pointer (some ⟨p, 0, none⟩))] w
      (UpdRes w g #[.string u, .int .i64 (posLine n L o), .int .i64 (posCol n L o), .int .i64 o, .int .i64 l2, .int .i64 c2, .int .i64 o2]) := by
  have HT := hide (fun W (h : Conv W p n L) => toPosition_in p n L o W h h0 ho hL hn hLb)
  have HC := hide hC
  clear hC hLb
  have f := hB.seven
  have lt := hB.lt
  have hBd := hB.drew
  generalize posLine n L o = a at *
  generalize posCol n L o = b at *
  have nl := fun W => nil_pos ⟨p, 0, none⟩ W
  have mt := fun W => met_pos ⟨p, 0, none⟩ W
  go_enter Try.func82, Try.ntmps82
  go_wp2_with fail
  go_region_held3 (fun w' => (∀ b o, b < w.heap.size → w'.cell? ⟨b, o, none⟩ = w.cell? ⟨b, o, none⟩) ∧ w.heap.size ≤ w'.heap.size ∧ Below (w.heap.size) w w')
    (first
      | (with_reducible exact SB.start (by omega))
      | (go_split_ands; (with_reducible refine SB.call ?_ hb); exact ⟨by assumption, by assumption, by assumption⟩))
    (first
      | (go_at_call 44; go_split_ands; refine (HT.out _ (HC.out.kept (hb0.trans (Below.mono (B := w.heap.size) (by assumption) hb0.size)))).mono ?_; rintro e w1 ⟨rfl, hb⟩; have kk := Blk.kept (g := g) (by assumption) hb; have k7 := kk.seven))
  clear nl mt
  go_split_ands
  have hbw : Below w.heap.size w w1 := by assumption
  clear hb hB hBd
  go_wp2
  go_ret
  exact ⟨rfl, (kk.set_ 1 (.int .i64 a)).set_ 2 (.int .i64 b), (SX.set (p := ⟨g, 2, none⟩) (SX.set (p := ⟨g, 1, none⟩) (SX.of (g := g) (grown_of_below hbw _)) rfl _) rfl _).2.2⟩

set_option maxHeartbeats 1000000 in
theorem updPos4 (u : ByteArray) (l c o l2 c2 o2 : Int) (g p n : Nat) (L : List Int) (w0 w : World) (hC : Conv w0 p n L) (hb0 : Below w0.heap.size w0 w)
    (hB : Blk w g 62 #[.string u, .int .i64 l, .int .i64 c, .int .i64 o, .int .i64 l2, .int .i64 c2, .int .i64 o2]) (h0 : 0 ≤ o2) (ho : o2 ≤ n) (hL : L.length ≤ 2147483647) (hn : n ≤ 2147483647) (hLb : ∀ x ∈ L, 0 ≤ x ∧ x ≤ 2147483647) :
    Calls Try.prog 82 #[.pointer (some ⟨g, 4, none⟩), .iface 71 (.pointer (some ⟨p, 0, none⟩))] w
      (UpdRes w g #[.string u, .int .i64 l, .int .i64 c, .int .i64 o, .int .i64 (posLine n L o2), .int .i64 (posCol n L o2), .int .i64 o2]) := by
  have HT := hide (fun W (h : Conv W p n L) => toPosition_in p n L o2 W h h0 ho hL hn hLb)
  have HC := hide hC
  clear hC hLb
  have f := hB.seven
  have lt := hB.lt
  have hBd := hB.drew
  generalize posLine n L o2 = a at *
  generalize posCol n L o2 = b at *
  have nl := fun W => nil_pos ⟨p, 0, none⟩ W
  have mt := fun W => met_pos ⟨p, 0, none⟩ W
  go_enter Try.func82, Try.ntmps82
  go_wp2_with fail
  go_region_held3 (fun w' => (∀ b o, b < w.heap.size → w'.cell? ⟨b, o, none⟩ = w.cell? ⟨b, o, none⟩) ∧ w.heap.size ≤ w'.heap.size ∧ Below (w.heap.size) w w')
    (first
      | (with_reducible exact SB.start (by omega))
      | (go_split_ands; (with_reducible refine SB.call ?_ hb); exact ⟨by assumption, by assumption, by assumption⟩))
    (first
      | (go_at_call 44; go_split_ands; refine (HT.out _ (HC.out.kept (hb0.trans (Below.mono (B := w.heap.size) (by assumption) hb0.size)))).mono ?_; rintro e w1 ⟨rfl, hb⟩; have kk := Blk.kept (g := g) (by assumption) hb; have k7 := kk.seven))
  clear nl mt
  go_split_ands
  have hbw : Below w.heap.size w w1 := by assumption
  clear hb hB hBd
  go_wp2
  go_ret
  exact ⟨rfl, (kk.set_ 4 (.int .i64 a)).set_ 5 (.int .i64 b), (SX.set (p := ⟨g, 5, none⟩) (SX.set (p := ⟨g, 4, none⟩) (SX.of (g := g) (grown_of_below hbw _)) rfl _) rfl _).2.2⟩

set_option maxHeartbeats 1000000 in
theorem updOff1 (u : ByteArray) (l c o l2 c2 o2 r : Int) (g p n : Nat) (L : List Int) (w0 w : World) (hC : Conv w0 p n L) (hb0 : Below w0.heap.size w0 w)
    (hB : Blk w g 62 #[.string u, .int .i64 l, .int .i64 c, .int .i64 o, .int .i64 l2, .int .i64 c2, .int .i64 o2])
    (hT : ∀ W, Conv W p n L → Calls Try.prog 45 #[.pointer (some ⟨p, 0, none⟩), .int .i64 l, .int .i64 c] W (OffRes W r)) :
    Calls Try.prog 84 #[.pointer (some ⟨g, 1, none⟩), .iface 71 (.pointer (some ⟨p, 0, none⟩))] w
      (UpdRes w g #[.string u, .int .i64 l, .int .i64 c, .int .i64 r, .int .i64 l2, .int .i64 c2, .int .i64 o2]) := by
  have HT := hide hT
  have HC := hide hC
  clear hC hT
  have f := hB.seven
  have lt := hB.lt
  have hBd := hB.drew
  have nl := fun W => nil_off ⟨p, 0, none⟩ W
  have mt := fun W => met_off ⟨p, 0, none⟩ W
  go_enter Try.func84, Try.ntmps84
  go_wp2_with fail
  go_region_held3 (fun w' => (∀ b o, b < w.heap.size → w'.cell? ⟨b, o, none⟩ = w.cell? ⟨b, o, none⟩) ∧ w.heap.size ≤ w'.heap.size ∧ Below (w.heap.size) w w')
    (first
      | (with_reducible exact SB.start (by omega))
      | (go_split_ands; (with_reducible refine SB.call ?_ hb); exact ⟨by assumption, by assumption, by assumption⟩))
    (first
      | (go_at_call 45; go_split_ands; refine (HT.out _ (HC.out.kept (hb0.trans (Below.mono (B := w.heap.size) (by assumption) hb0.size)))).mono ?_; rintro e w1 ⟨rfl, hb⟩; have kk := Blk.kept (g := g) (by assumption) hb; have k7 := kk.seven))
  clear nl mt
  go_split_ands
  have hbw : Below w.heap.size w w1 := by assumption
  clear hb hB hBd
  go_wp2
  go_ret
  exact ⟨rfl, kk.set_ 3 (.int .i64 r), (SX.set (p := ⟨g, 3, none⟩) (SX.of (g := g) (grown_of_below hbw _)) rfl _).2.2⟩

set_option maxHeartbeats 1000000 in
theorem updOff4 (u : ByteArray) (l c o l2 c2 o2 r : Int) (g p n : Nat) (L : List Int) (w0 w : World) (hC : Conv w0 p n L) (hb0 : Below w0.heap.size w0 w)
    (hB : Blk w g 62 #[.string u, .int .i64 l, .int .i64 c, .int .i64 o, .int .i64 l2, .int .i64 c2, .int .i64 o2])
    (hT : ∀ W, Conv W p n L → Calls Try.prog 45 #[.pointer (some ⟨p, 0, none⟩), .int .i64 l2, .int .i64 c2] W (OffRes W r)) :
    Calls Try.prog 84 #[.pointer (some ⟨g, 4, none⟩), .iface 71 (.pointer (some ⟨p, 0, none⟩))] w
      (UpdRes w g #[.string u, .int .i64 l, .int .i64 c, .int .i64 o, .int .i64 l2, .int .i64 c2, .int .i64 r]) := by
  have HT := hide hT
  have HC := hide hC
  clear hC hT
  have f := hB.seven
  have lt := hB.lt
  have hBd := hB.drew
  have nl := fun W => nil_off ⟨p, 0, none⟩ W
  have mt := fun W => met_off ⟨p, 0, none⟩ W
  go_enter Try.func84, Try.ntmps84
  go_wp2_with fail
  go_region_held3 (fun w' => (∀ b o, b < w.heap.size → w'.cell? ⟨b, o, none⟩ = w.cell? ⟨b, o, none⟩) ∧ w.heap.size ≤ w'.heap.size ∧ Below (w.heap.size) w w')
    (first
      | (with_reducible exact SB.start (by omega))
      | (go_split_ands; (with_reducible refine SB.call ?_ hb); exact ⟨by assumption, by assumption, by assumption⟩))
    (first
      | (go_at_call 45; go_split_ands; refine (HT.out _ (HC.out.kept (hb0.trans (Below.mono (B := w.heap.size) (by assumption) hb0.size)))).mono ?_; rintro e w1 ⟨rfl, hb⟩; have kk := Blk.kept (g := g) (by assumption) hb; have k7 := kk.seven))
  clear nl mt
  go_split_ands
  have hbw : Below w.heap.size w w1 := by assumption
  clear hb hB hBd
  go_wp2
  go_ret
  exact ⟨rfl, kk.set_ 6 (.int .i64 r), (SX.set (p := ⟨g, 6, none⟩) (SX.of (g := g) (grown_of_below hbw _)) rfl _).2.2⟩

end Go.Proofs.Ytbbdhlnldkkdbaa
