/- Walks: spec.Newlines and spec.IsShort. No condition but sizes. -/
import Derived.Test.YtbbdhlnldkkdbaaNear
namespace Go.Proofs.Ytbbdhlnldkkdbaa
open Go.RowKit
attribute [local go_sem ↓] Go.wp_at_zero Go.wp_at_succ

/-- Byte k of a text. -/
def bt (s : ByteArray) (k : Nat) : Nat := (s.data.toList.getD k 0).toNat
theorem bt_get {s : ByteArray} {k : Nat} (h : k < s.size) : (s[k]).toNat = bt s k := by
  unfold bt
  rw [List.getD_eq_getElem?_getD, List.getElem?_eq_getElem (by simpa using h)]
  rfl
/-- How many newlines are among the first k bytes. -/
def nlTo (s : ByteArray) (k : Nat) : Nat := (s.data.toList.take k).count 10
/-- How many newlines a text has. -/
def nls (s : ByteArray) : Nat := s.data.toList.count 10
theorem nlTo_all (s : ByteArray) : nlTo s s.size = nls s := by
  unfold nlTo nls; rw [List.take_of_length_le (by simp)]
theorem nlTo_succ (s : ByteArray) (k : Nat) (h : k < s.size) : nlTo s (k + 1) = nlTo s k + if bt s k = 10 then 1 else 0 := by
  have hl : k < s.data.toList.length := by simpa using h
  unfold nlTo bt
  rw [List.take_succ_eq_append_getElem hl, List.count_append, List.getD_eq_getElem?_getD, List.getElem?_eq_getElem hl]
  simp only [Option.getD_some, List.count_singleton]
  congr 1
  by_cases e : s.data.toList[k] = 10
  · simp [e]
  · have : ¬ s.data.toList[k].toNat = 10 := fun h => e (UInt8.toNat_inj.1 (by rw [h]; rfl))
    have h2 : (s.data.toList[k] == 10) = false := by simpa using e
    rw [h2, if_neg this]
    rfl
theorem nlTo_le (s : ByteArray) (k : Nat) : nlTo s k ≤ k := by
  unfold nlTo
  have := List.count_le_length (a := (10 : UInt8)) (l := s.data.toList.take k)
  rw [List.length_take] at this; omega

set_option maxHeartbeats 1000000 in
theorem newlines_any (s : ByteArray) (hs : s.size ≤ 140737488355328) (w : World) : Calls Try.prog 42 #[.string s] w fun e w' => e = .returned (.int .i64 (nls s)) ∧ w = w' := by
  go_enter Try.func42, Try.ntmps42
  go_wp2
  go_loop [3, 7] (fun t i => ∃ k : Nat, k ≤ s.size ∧ i = .int .i64 k ∧ t = .int .i64 (nlTo s k)) (fun _ i => s.size - (intOf i).toNat)
  case atStart => exact ⟨0, Nat.zero_le _, rfl, by simp [nlTo]⟩
  case round =>
    obtain ⟨k, hk, rfl, rfl⟩ := hrel
    have hle := nlTo_le s k
    by_cases hlt : k < s.size
    · have hsn := hide (nlTo_succ s k hlt)
      have hbt := hide (bt_get hlt)
      by_cases h10 : bt s k = 10
      · have hc : (((s[k]'hlt).toNat : Int) == 10) = true := by rw [hbt.out, h10]; rfl
        clear h10
        go_wp2
        go_round
        case rel => exact ⟨k + 1, by omega, by go_num, by
          have := hsn.out; rw [this, ← hbt.out]
          have e : (s[k]'hlt).toNat = 10 := by have := beq_iff_eq.1 hc; omega
          rw [if_pos e]; go_num⟩
        case measure => simp [intOf]; omega
      · have hc : (((s[k]'hlt).toNat : Int) == 10) = false := by rw [hbt.out]; simp; omega
        clear h10
        go_wp2
        go_round
        case rel => exact ⟨k + 1, by omega, by go_num, by
          have := hsn.out; rw [this, ← hbt.out]
          have e : ¬ (s[k]'hlt).toNat = 10 := by have := beq_eq_false_iff_ne.1 hc; omega
          rw [if_neg e]; rfl⟩
        case measure => simp [intOf]; omega
    · go_wp2
      go_ret
      have : k = s.size := by omega
      subst this
      exact ⟨ret_int (by rw [nlTo_all]), rfl⟩

/-- What a slice of texts holds. -/
def Strs (w : World) (A : Option Addr) (ss : List ByteArray) : Prop := ∀ i, i < ss.length → ∃ b o, A = some ⟨b, o, none⟩ ∧ w.cell? ⟨b, o + i, none⟩ = some (.string (ss.getD i ByteArray.empty))
theorem Strs.blk {w : World} {g : Nat} {t : TypeId} {cs : Array Value} {ss : List ByteArray} (h : Blk w g t cs) (hz : cs.toList = ss.map Value.string) : Strs w (some ⟨g, 0, none⟩) ss := by
  intro i hi
  refine ⟨g, 0, rfl, ?_⟩
  rw [Nat.zero_add, h.cell, ← Array.getElem?_toList, hz]
  simp [List.getD_eq_getElem?_getD, List.getElem?_eq_getElem hi]
theorem Strs.kept {w w1 : World} {A : Option Addr} {ss : List ByteArray} (h : Strs w A ss) (hb : Below w.heap.size w w1) : Strs w1 A ss := by
  intro i hi
  obtain ⟨b, o, e, hc⟩ := h i hi
  exact ⟨b, o, e, kcell hb hc⟩
theorem Ints.kept {w w1 : World} {A : Option Addr} {zs : List Int} (h : Ints w A zs) (hb : Below w.heap.size w w1) : Ints w1 A zs := by
  intro i hi
  obtain ⟨b, o, e, hc⟩ := h i hi
  exact ⟨b, o, e, kcell hb hc⟩
def sumSz (ss : List ByteArray) : Nat := (ss.map (·.size)).sum
def sumLn (ss : List ByteArray) : Nat := (ss.map (nls · + 1)).sum
/-- At most 100000 bytes and 1000 lines together. -/
def shortB (ss : List ByteArray) : Bool := decide (sumSz ss ≤ 100000) && decide (sumLn ss ≤ 1000)
theorem nls_le (s : ByteArray) : nls s ≤ s.size := by have := nlTo_le s s.size; rw [nlTo_all] at this; exact this
theorem sum_take_succ (f : ByteArray → Nat) (ss : List ByteArray) (k : Nat) (hk : k < ss.length) : ((ss.take (k + 1)).map f).sum = ((ss.take k).map f).sum + f (ss.getD k ByteArray.empty) := by
  rw [List.take_succ_eq_append_getElem hk, List.map_append, List.sum_append, List.getD_eq_getElem?_getD, List.getElem?_eq_getElem hk]
  simp
theorem sum_take_le (f : ByteArray → Nat) (ss : List ByteArray) (k : Nat) : ((ss.take k).map f).sum ≤ (ss.map f).sum := by
  conv => rhs; rw [← List.take_append_drop k ss, List.map_append, List.sum_append]
  omega
theorem sumLn_le (ss : List ByteArray) (k : Nat) : sumLn (ss.take k) ≤ sumSz (ss.take k) + k := by
  induction k with
  | zero => simp [sumLn, sumSz]
  | succ k ih =>
    by_cases hk : k < ss.length
    · unfold sumLn sumSz at *
      rw [sum_take_succ _ _ _ hk, sum_take_succ _ _ _ hk]
      have := nls_le (ss.getD k ByteArray.empty)
      omega
    · rw [List.take_of_length_le (by omega)] at ih ⊢
      omega

set_option maxHeartbeats 1000000 in
theorem isShort_any (A : Option Addr) (c : Nat) (ss : List ByteArray) (hn : ss.length ≤ 2147483647) (hsz : ∀ s ∈ ss, s.size ≤ 140737488355328) (w : World) (hA : Strs w A ss) :
    Calls Try.prog 22 #[.slice A ss.length c] w fun e w' => e = .returned (.bool (shortB ss)) ∧ w = w' := by
  have HA := hide hA
  have HS := hide hsz
  clear hA hsz
  go_enter Try.func22, Try.ntmps22
  go_wp2
  go_loop [3, 4, 9] (fun b l i => ∃ k : Nat, k ≤ ss.length ∧ i = .int .i64 k ∧ b = .int .i64 (sumSz (ss.take k)) ∧ l = .int .i64 (sumLn (ss.take k)) ∧ sumSz (ss.take k) ≤ 100000) (fun _ _ i => ss.length - (intOf i).toNat)
  case atStart => exact ⟨0, Nat.zero_le _, rfl, by simp [sumSz], by simp [sumLn], by simp [sumSz]⟩
  case round =>
    obtain ⟨k, hk, rfl, rfl, rfl, hle⟩ := hrel
    have hll := sumLn_le ss k
    by_cases hlt : k < ss.length
    · obtain ⟨b, o, rfl, hc⟩ := HA.out k hlt
      have e1 : sumSz (ss.take (k + 1)) = sumSz (ss.take k) + (ss.getD k ByteArray.empty).size := sum_take_succ _ ss k hlt
      have e2 : sumLn (ss.take (k + 1)) = sumLn (ss.take k) + (nls (ss.getD k ByteArray.empty) + 1) := sum_take_succ _ ss k hlt
      have hsk : (ss.getD k ByteArray.empty).size ≤ 140737488355328 := HS.out _ (by rw [List.getD_eq_getElem?_getD, List.getElem?_eq_getElem hlt]; exact List.getElem_mem _)
      obtain ⟨x, hx⟩ : ∃ x, ss.getD k ByteArray.empty = x := ⟨_, rfl⟩
      rw [hx] at hc e1 e2 hsk
      have hnx := nls_le x
      have E1 := hide e1
      have E2 := hide e2
      clear hx e1 e2
      generalize sumSz (ss.take k) = P at *
      generalize sumLn (ss.take k) = L at *
      by_cases h1 : 100000 < P + x.size
      · have h1' : (100000 : Int) < (P : Int) + (x.size : Int) := by omega
        have hfin : shortB ss = false := by
          have := sum_take_le (·.size) ss (k + 1)
          have t := E1.out
          unfold shortB
          rw [show decide (sumSz ss ≤ 100000) = false by simp; unfold sumSz at t ⊢; omega]
          rfl
        have HF := hide hfin
        clear hfin
        go_wp2
        go_ret
        exact ⟨ret_bool HF.out.symm, rfl⟩
      · have h1' : ¬ (100000 : Int) < (P : Int) + (x.size : Int) := by omega
        go_wp2_with fail
        refine (newlines_any x hsk _).mono ?_
        rintro e w1 ⟨rfl, rfl⟩
        go_wp2
        go_round
        case rel => exact ⟨k + 1, by omega, by go_num, by rw [E1.out]; go_num, by rw [E2.out]; go_num, by rw [E1.out]; omega⟩
        case measure => simp [intOf]; omega
    · have : k = ss.length := by omega
      subst this
      rw [List.take_length] at *
      have hfin : shortB ss = decide ((sumLn ss : Int) ≤ 1000) := by
        unfold shortB
        rw [show decide (sumSz ss ≤ 100000) = true by simpa using hle, Bool.true_and]
        exact decide_eq_decide.2 (by omega)
      have HF := hide hfin
      clear hfin
      go_wp2
      go_ret
      exact ⟨ret_bool HF.out.symm, rfl⟩
end Go.Proofs.Ytbbdhlnldkkdbaa
