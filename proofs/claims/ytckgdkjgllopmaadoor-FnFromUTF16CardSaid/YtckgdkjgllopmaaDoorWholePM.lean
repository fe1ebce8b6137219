/- Plain law: a text is decoded the same up to a place that whole characters reach. No condition. -/
import Derived.Test.YtckgdkjgllopmaaDoorUtfM
set_option linter.unusedVariables false
set_option linter.unusedSimpArgs false
namespace Go.Proofs.YtckgdkjgllopmaaDoor


theorem getD_take (l : List UInt8) (n i : Nat) : (l.take n).getD i 0 = if i < n then l.getD i 0 else 0 := by
  rw [List.getD_eq_getElem?_getD, List.getElem?_take]
  by_cases h : i < n
  · rw [if_pos h, if_pos h, List.getD_eq_getElem?_getD]
  · rw [if_neg h, if_neg h]; rfl
set_option maxHeartbeats 2000000 in
/-- What is behind the first character makes no difference. -/
theorem decodeN_cut (n m b0 b1 b2 b3 c1 c2 c3 : Nat) (hn : n ≤ m) (h : (Lib.decodeN m b0 b1 b2 b3).2 ≤ n) (h1 : 1 < n → c1 = b1) (h2 : 2 < n → c2 = b2) (h3 : 3 < n → c3 = b3) : Lib.decodeN n b0 c1 c2 c3 = Lib.decodeN m b0 b1 b2 b3 := by
  by_cases k1 : 1 < n
  · obtain rfl := h1 k1
    by_cases k2 : 2 < n
    · obtain rfl := h2 k2
      by_cases k3 : 3 < n
      · obtain rfl := h3 k3
        have e1 : 1 < m := by omega
        have e2 : 2 < m := by omega
        have e3 : 3 < m := by omega
        unfold Lib.decodeN
        simp only [k1, k2, k3, e1, e2, e3, true_and]
      · have e1 : 1 < m := by omega
        have e2 : 2 < m := by omega
        unfold Lib.decodeN at h ⊢
        simp only [k1, k2, k3, e1, e2, true_and, false_and, and_false, if_false] at h ⊢
        revert h
        repeat' split
        all_goals first | (intro _; rfl) | (intro h; exfalso; simp only at h; omega) | (intro h; simp_all; done) | (intro h; exfalso; omega)
    · have e1 : 1 < m := by omega
      unfold Lib.decodeN at h ⊢
      simp only [k1, k2, show ¬ 3 < n by omega, e1, true_and, false_and, and_false, if_false] at h ⊢
      revert h
      repeat' split
      all_goals first | (intro _; rfl) | (intro h; exfalso; simp only at h; omega) | (intro h; simp_all; done) | (intro h; exfalso; omega)
  · unfold Lib.decodeN at h ⊢
    simp only [k1, show ¬ 2 < n by omega, show ¬ 3 < n by omega, false_and, and_false, if_false] at h ⊢
    revert h
    repeat' split
    all_goals first | (intro _; rfl) | (intro h; exfalso; simp only at h; omega) | (intro h; simp_all; done) | (intro h; exfalso; omega)
theorem dec_take (l : List UInt8) (n : Nat) (h : (dec l).2 ≤ n) (hn : n ≤ l.length) : dec (l.take n) = dec l := by
  have hp := (dec_wide l).1
  unfold dec at h hp ⊢
  rw [List.length_take, Nat.min_eq_left hn, getD_take, getD_take, getD_take, getD_take, if_pos (by omega)]
  refine decodeN_cut n l.length _ _ _ _ _ _ _ hn h (fun k => by rw [if_pos k]) (fun k => by rw [if_pos k]) (fun k => by rw [if_pos k])
/-- A newline is one byte. -/
theorem dec_ten (l : List UInt8) (h : (dec l).1 = 10) : l.getD 0 0 = 10 := by
  unfold dec at h
  have hb : (l.getD 0 0).toNat = 10 := by
    revert h
    unfold Lib.decodeN
    repeat' split
    all_goals (intro h; simp only at h; omega)
  exact UInt8.toNat_inj.1 hb
/-- From place a on, whole characters reach place m. -/
def goes (l : List UInt8) (m a : Nat) : Bool := if h : a < m then goes l m (a + (dec (l.drop a)).2) else a == m
  termination_by m - a
  decreasing_by
    have h1 := (dec_wide (l.drop a)).1
    omega
theorem goes_lt {l : List UInt8} {m a : Nat} (h : a < m) : goes l m a = goes l m (a + (dec (l.drop a)).2) := by rw [goes, dif_pos h]
theorem goes_ge {l : List UInt8} {m a : Nat} (h : ¬ a < m) : goes l m a = (a == m) := by rw [goes, dif_neg h]
theorem goes_le {l : List UInt8} {m a : Nat} (h : goes l m a = true) : a ≤ m := by
  by_cases c : a < m
  · omega
  · rw [goes_ge c, beq_iff_eq] at h; omega
/-- The units from a to m: those of the first character, and those behind it. -/
theorem units_goes {l : List UInt8} {m a : Nat} (hm : m ≤ l.length) (h : goes l m a = true) (ha : a < m) :
    a + (dec (l.drop a)).2 ≤ m ∧ units ((l.drop a).take (m - a)) = unit (dec (l.drop a)).1 + units ((l.drop (a + (dec (l.drop a)).2)).take (m - (a + (dec (l.drop a)).2))) := by
  rw [goes_lt ha] at h
  have hle := goes_le h
  have hw := (dec_wide (l.drop a)).1
  refine ⟨hle, ?_⟩
  have hd := dec_take (l.drop a) (m - a) (by omega) (by rw [List.length_drop]; omega)
  have hne : (l.drop a).take (m - a) ≠ [] := by
    intro e
    have := congrArg List.length e
    rw [List.length_take, List.length_drop, List.length_nil] at this
    omega
  rw [units_cons hne, hd]
  congr 2
  rw [List.drop_take, List.drop_drop, show m - a - (dec (l.drop a)).2 = m - (a + (dec (l.drop a)).2) by omega]
theorem unit_one (l : List UInt8) : 1 ≤ unit (dec l).1 ∧ unit (dec l).1 ≤ 2 := by unfold unit; split <;> omega
end Go.Proofs.YtckgdkjgllopmaaDoor
