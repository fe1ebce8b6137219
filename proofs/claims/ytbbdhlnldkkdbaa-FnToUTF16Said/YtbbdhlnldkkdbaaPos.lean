/- Walks: the converter's ToPosition and ToOffset. No condition but sizes. -/
import Derived.Test.YtbbdhlnldkkdbaaConv
namespace Go.Proofs.Ytbbdhlnldkkdbaa
open Go.RowKit
attribute [local go_sem ↓] Go.wp_at_zero Go.wp_at_succ

/-- The line (from 1 on) among the first i that is the last to begin at an offset or ahead of it; 0 if there is none. -/
def lineOf (L : List Int) (off : Int) : Nat → Nat
  | 0 => 0
  | i + 1 => if L.getD i 0 ≤ off then i + 1 else lineOf L off i
/-- The column of an offset on the line found. -/
def colOf (L : List Int) (off : Int) : Nat → Int
  | 0 => 0
  | m + 1 => off - L.getD m 0 + 1
theorem lineOf_le (L : List Int) (off : Int) (i : Nat) : lineOf L off i ≤ i := by
  induction i with
  | zero => simp [lineOf]
  | succ i ih => rw [lineOf]; split <;> omega

/-- The line and the column that the converter gives for an offset up to the end. -/
def posLine (n : Nat) (L : List Int) (off : Int) : Int := if off = n then (lineOf L off L.length : Int) + 1 else lineOf L off L.length
def posCol (n : Nat) (L : List Int) (off : Int) : Int := if off = n then 1 else colOf L off (lineOf L off L.length)
def PosRes (w : World) (l c : Int) (e : Ending) (w' : World) : Prop := e = .returned (.tuple #[.int .i64 l, .int .i64 c, .nilIface]) ∧ Below w.heap.size w w'
/-- It ends with an error. -/
def ErrRes3 (w : World) (e : Ending) (w' : World) : Prop := ∃ t v, e = .returned (.tuple #[.int .i64 0, .int .i64 0, .iface t v]) ∧ Below w.heap.size w w'
def ErrNew (w : World) (e : Ending) (w' : World) : Prop := ∃ b, e = .returned (.iface 100 (.pointer (some ⟨b, 0, none⟩))) ∧ Below w.heap.size w w'

theorem errNew_any (s : ByteArray) (w : World) : Calls Try.prog 67 #[.string s] w (ErrNew w) := by
  go_enter Try.func67, Try.ntmps67
  go_wp2
  go_ret
  exact ⟨_, rfl, by go_grown⟩

set_option maxHeartbeats 1000000 in
theorem toPosition_past (p n : Nat) (L : List Int) (off : Int) (w : World) (hC : Conv w p n L) (ho : (n : Int) < off) :
    Calls Try.prog 44 #[.pointer (some ⟨p, 0, none⟩), .int .i64 off] w (ErrRes3 w) := by
  obtain ⟨A, c, hB, hI⟩ := hC
  have f := hB.two
  clear hB hI
  go_enter Try.func44, Try.ntmps44
  go_wp2_with fail
  refine (errNew_any _ _).mono ?_
  rintro e w1 ⟨b, rfl, hb⟩
  go_wp2
  go_ret3
  exact ⟨_, _, rfl, hb⟩

theorem toPos_end (n : Nat) (L : List Int) (off : Int) (m : Nat) (hm : lineOf L off L.length = m) : (off = n → posLine n L off = (m : Int) + 1 ∧ posCol n L off = 1) ∧ (¬ off = n → posLine n L off = m ∧ posCol n L off = colOf L off m) := by
  constructor
  · intro h; unfold posLine posCol; rw [if_pos h, if_pos h, hm]; exact ⟨rfl, rfl⟩
  · intro h; unfold posLine posCol; rw [if_neg h, if_neg h, hm]; exact ⟨rfl, rfl⟩

theorem ret_pos {a b a' b' : Int} (h1 : a = a') (h2 : b = b') : Ending.returned (.tuple #[.int .i64 a, .int .i64 b, .nilIface]) = Ending.returned (.tuple #[.int .i64 a', .int .i64 b', .nilIface]) := by rw [h1, h2]

set_option maxHeartbeats 2000000 in
theorem toPosition_in (p n : Nat) (L : List Int) (off : Int) (w : World) (hC : Conv w p n L) (h0 : 0 ≤ off) (ho : off ≤ n) (hL : L.length ≤ 2147483647) (hn : n ≤ 2147483647) (hLb : ∀ x ∈ L, 0 ≤ x ∧ x ≤ 2147483647) :
    Calls Try.prog 44 #[.pointer (some ⟨p, 0, none⟩), .int .i64 off] w (PosRes w (posLine n L off) (posCol n L off)) := by
  obtain ⟨A, c, hB, hI⟩ := hC
  have HI := hide hI
  have HLb := hide hLb
  have f := hB.two
  have HE := hide (toPos_end n L off)
  have hc : (off == (n : Int)) = true ∨ (off == (n : Int)) = false := by cases (off == (n : Int)) <;> simp
  clear hI hLb
  rcases hc with hc | hc
  all_goals
    go_enter Try.func44, Try.ntmps44
    go_wp2
    go_loop [7, 8, 9] (fun a b i => ∃ k : Nat, k ≤ L.length ∧ i = .int .i64 ((k : Int) - 1) ∧ a = .int .i64 0 ∧ b = .int .i64 0 ∧ lineOf L off L.length = lineOf L off k) (fun _ _ i => (intOf i + 1).toNat)
    case atStart => exact ⟨L.length, Nat.le_refl _, rfl, rfl, rfl, rfl⟩
    case round =>
      obtain ⟨k, hk, rfl, rfl, rfl, hln⟩ := hrel
      cases k with
      | zero =>
        have hm : lineOf L off L.length = 0 := hln
        have HM := hide (HE.out 0 hm)
        clear hln hm
        have hneg : ¬ (0 : Int) ≤ ((0 : Nat) : Int) - 1 := by omega
        go_wp2
        go_ret3
        refine ⟨ret_pos ?_ ?_, Below.refl _ _⟩
        · first
            | rw [(HM.out.1 (by simpa using hc)).1]; simp
            | rw [(HM.out.2 (by simpa using hc)).1]; simp
        · first
            | rw [(HM.out.1 (by simpa using hc)).2]
            | rw [(HM.out.2 (by simpa using hc)).2, colOf]
      | succ j =>
        rw [show ((j + 1 : Nat) : Int) - 1 = (j : Int) by omega]
        obtain ⟨b, o, rfl, hcell⟩ := HI.out j (by omega)
        have hxb := HLb.out (L.getD j 0) (by rw [List.getD_eq_getElem?_getD, List.getElem?_eq_getElem (by omega)]; exact List.getElem_mem _)
        obtain ⟨x, hx⟩ : ∃ x, L.getD j 0 = x := ⟨_, rfl⟩
        rw [hx] at hcell hxb
        by_cases hle : x ≤ off
        · have hm : lineOf L off L.length = j + 1 := by rw [hln, lineOf, hx, if_pos hle]
          have HM := hide (HE.out (j + 1) hm)
          have HX := hide hx
          clear hln hm hx
          have j0 : (0 : Int) ≤ (j : Int) := by omega
          have j1 : (j : Int) < (L.length : Int) := by omega
          have e1 : IntKind.i64.wrap ((j : Int) + 1) = (j : Int) + 1 := IntWalk.i64_in _ (by omega)
          have e2 : IntKind.i64.wrap (off - x) = off - x := IntWalk.i64_in _ (by omega)
          have e3 : IntKind.i64.wrap (off - x + 1) = off - x + 1 := IntWalk.i64_in _ (by omega)
          go_wp2
          go_region_held3 (fun w' => w'.cell? ⟨p, 1, none⟩ = some (.slice (some ⟨b, o, none⟩) L.length c) ∧ w'.cell? ⟨b, o + j, none⟩ = some (.int .i64 x)) (go_keep) (fail)
          go_wp2
          go_ret3
          refine ⟨ret_pos ?_ ?_, (Below.refl _ _).drew⟩
          · first
              | rw [(HM.out.1 (by simpa using hc)).1]; simp
              | rw [(HM.out.2 (by simpa using hc)).1]; simp
          · first
              | rw [(HM.out.1 (by simpa using hc)).2]
              | (rw [(HM.out.2 (by simpa using hc)).2, colOf, HX.out])
        · have hm : lineOf L off L.length = lineOf L off j := by rw [hln, lineOf, hx, if_neg hle]
          have HM := hide hm
          clear hln hm hx
          go_wp2
          go_round
          case rel => exact ⟨j, by omega, by go_num, rfl, rfl, HM.out⟩
          case measure => simp [intOf]
end Go.Proofs.Ytbbdhlnldkkdbaa
