/- Walk: spec.IsNear, and laws.spans. No condition but that the list is short. -/
import Derived.Test.YtbbdhlnldkkdbaaSpanD
namespace Go.Proofs.Ytbbdhlnldkkdbaa
open Go.RowKit
theorem hide {p : Prop} (h : p) : Hid p := h
attribute [local go_sem ↓] Go.wp_at_zero Go.wp_at_succ

/-- What a slice of numbers holds. -/
def Ints (w : World) (A : Option Addr) (zs : List Int) : Prop := ∀ i, i < zs.length → ∃ b o, A = some ⟨b, o, none⟩ ∧ w.cell? ⟨b, o + i, none⟩ = some (.int .i64 (zs.getD i 0))
theorem Ints.blk {w : World} {g : Nat} {t : TypeId} {cs : Array Value} {zs : List Int} (h : Blk w g t cs) (hz : cs.toList = zs.map (Value.int .i64)) : Ints w (some ⟨g, 0, none⟩) zs := by
  intro i hi
  refine ⟨g, 0, rfl, ?_⟩
  rw [Nat.zero_add, h.cell, ← Array.getElem?_toList, hz]
  simp [List.getD_eq_getElem?_getD, List.getElem?_eq_getElem hi]

/-- All numbers lie between the least and a million. -/
def near (least : Int) (zs : List Int) : Bool := zs.all fun x => decide (least ≤ x) && decide (x ≤ 1000000)
theorem near_bound {least : Int} {zs : List Int} (h : near least zs = true) : ∀ x ∈ zs, least ≤ x ∧ x ≤ 1000000 := by
  simpa [near] using h
theorem near_succ {least : Int} {zs : List Int} {k : Nat} (hk : k < zs.length) (h : near least (zs.take k) = true) (h1 : ¬ zs.getD k 0 < least) (h2 : ¬ 1000000 < zs.getD k 0) : near least (zs.take (k + 1)) = true := by
  rw [List.take_succ_eq_append_getElem hk]
  simp only [List.getD_eq_getElem?_getD, List.getElem?_eq_getElem hk, Option.getD_some] at h1 h2
  simp only [near, List.all_append, List.all_cons, List.all_nil, Bool.and_true, Bool.and_eq_true, decide_eq_true_eq] at h ⊢
  exact ⟨h, by omega, by omega⟩
theorem near_false {least : Int} {zs : List Int} {k : Nat} (hk : k < zs.length) (h : zs.getD k 0 < least ∨ 1000000 < zs.getD k 0) : near least zs = false := by
  rw [Bool.eq_false_iff]
  intro hn
  have := near_bound hn zs[k] (List.getElem_mem _)
  simp only [List.getD_eq_getElem?_getD, List.getElem?_eq_getElem hk, Option.getD_some] at h
  omega
theorem ret_bool {a b : Bool} (h : a = b) : Ending.returned (.bool a) = Ending.returned (.bool b) := by rw [h]
theorem ret_int {a b : Int} (h : a = b) : Ending.returned (.int .i64 a) = Ending.returned (.int .i64 b) := by rw [h]

set_option maxHeartbeats 1000000 in
theorem isNear_any (least : Int) (A : Option Addr) (c : Nat) (zs : List Int) (hn : zs.length ≤ 2147483647) (w : World) (hA : Ints w A zs) :
    Calls Try.prog 15 #[.int .i64 least, .slice A zs.length c] w fun e w' => e = .returned (.bool (near least zs)) ∧ w = w' := by
  go_enter Try.func15, Try.ntmps15
  go_wp2
  go_loop [9] (fun i => ∃ k : Nat, k ≤ zs.length ∧ i = .int .i64 k ∧ near least (zs.take k) = true) (fun i => zs.length - (intOf i).toNat)
  case atStart => exact ⟨0, Nat.zero_le _, rfl, by simp [near]⟩
  case round =>
    obtain ⟨k, hk, rfl, hnear⟩ := hrel
    have HN := hide hnear
    clear hnear
    by_cases hlt : k < zs.length
    · obtain ⟨b, o, rfl, hc⟩ := hA k hlt
      have HA := hide hA
      clear hA
      obtain ⟨x, hx⟩ : ∃ x, zs.getD k 0 = x := ⟨_, rfl⟩
      rw [hx] at hc
      have HX := hide hx
      clear hx
      by_cases h1 : x < least
      · go_wp2
        go_ret
        exact ⟨ret_bool (near_false hlt (Or.inl (by rw [HX.out]; exact h1))).symm, rfl⟩
      · by_cases h2 : 1000000 < x
        · go_wp2
          go_ret
          exact ⟨ret_bool (near_false hlt (Or.inr (by rw [HX.out]; exact h2))).symm, rfl⟩
        · go_wp2
          go_round
          case rel => exact ⟨k + 1, by omega, by go_num, near_succ hlt HN.out (by rw [HX.out]; exact h1) (by rw [HX.out]; exact h2)⟩
          case measure => simp [intOf]; omega
    · go_wp2
      go_ret
      refine ⟨ret_bool ?_, rfl⟩
      have := HN.out
      rw [List.take_of_length_le (by omega)] at this
      exact this.symm
end Go.Proofs.Ytbbdhlnldkkdbaa
