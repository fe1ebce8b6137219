/- Walks: the converter's ToOffset. No condition but sizes. -/
import Derived.Test.YtbbdhlnldkkdbaaPos
namespace Go.Proofs.Ytbbdhlnldkkdbaa
open Go.RowKit
attribute [local go_sem ↓] Go.wp_at_zero Go.wp_at_succ

def OffRes (w : World) (o : Int) (e : Ending) (w' : World) : Prop := e = .returned (.tuple #[.int .i64 o, .nilIface]) ∧ Below w.heap.size w w'
def ErrRes2 (w : World) (e : Ending) (w' : World) : Prop := ∃ x t v, e = .returned (.tuple #[.int .i64 x, .iface t v]) ∧ Below w.heap.size w w'

set_option maxHeartbeats 1000000 in
theorem toOffset_beyond (p n : Nat) (L : List Int) (line col : Int) (w : World) (hC : Conv w p n L) (hL : L.length ≤ 2147483647) (ho : (L.length : Int) + 1 < line) :
    Calls Try.prog 45 #[.pointer (some ⟨p, 0, none⟩), .int .i64 line, .int .i64 col] w (ErrRes2 w) := by
  obtain ⟨A, c, hB, hI⟩ := hC
  have f := hB.two
  clear hB hI
  go_enter Try.func45, Try.ntmps45
  go_wp2_with fail
  refine (errNew_any _ _).mono ?_
  rintro e w1 ⟨b, rfl, hb⟩
  go_wp2
  go_ret2
  exact ⟨_, _, _, rfl, hb⟩

set_option maxHeartbeats 1000000 in
theorem toOffset_end (p n : Nat) (L : List Int) (col : Int) (w : World) (hC : Conv w p n L) (hL : L.length ≤ 2147483647) (hc : col ≤ 1) :
    Calls Try.prog 45 #[.pointer (some ⟨p, 0, none⟩), .int .i64 ((L.length : Int) + 1), .int .i64 col] w (OffRes w n) := by
  obtain ⟨A, c, hB, hI⟩ := hC
  have f := hB.two
  clear hB hI
  go_enter Try.func45, Try.ntmps45
  go_wp2
  go_ret2
  exact ⟨rfl, Below.refl _ _⟩

set_option maxHeartbeats 1000000 in
theorem toOffset_in (p n : Nat) (L : List Int) (j : Nat) (col : Int) (w : World) (hC : Conv w p n L) (hL : L.length ≤ 2147483647) (hj : j < L.length) (hn : n ≤ 2147483647) (hx : 0 ≤ L.getD j 0 ∧ L.getD j 0 ≤ 2147483647) (_hc0 : 0 ≤ col) (_hc1 : col ≤ 4294967296)
    (h0 : 0 ≤ L.getD j 0 + col - 1) (h1 : L.getD j 0 + col - 1 ≤ n) :
    Calls Try.prog 45 #[.pointer (some ⟨p, 0, none⟩), .int .i64 ((j : Int) + 1), .int .i64 col] w (OffRes w (L.getD j 0 + col - 1)) := by
  obtain ⟨A, c, hB, hI⟩ := hC
  have f := hB.two
  obtain ⟨b, o, rfl, hcell⟩ := hI j hj
  obtain ⟨x, hx'⟩ : ∃ x, L.getD j 0 = x := ⟨_, rfl⟩
  rw [hx'] at hcell hx h0 h1 ⊢
  clear hB hI hx'
  obtain ⟨hx0, hx1⟩ := hx
  have e1 : ((j : Int) + 1 == (L.length : Int) + 1) = false := by simp; omega
  have j0 : (0 : Int) ≤ (j : Int) := by omega
  have j1 : (j : Int) < (L.length : Int) := by omega
  go_enter Try.func45, Try.ntmps45
  go_wp2
  go_ret2
  exact ⟨rfl, Below.refl _ _⟩
end Go.Proofs.Ytbbdhlnldkkdbaa
