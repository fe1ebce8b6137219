/- Walk: laws.FnCompareOffsets. No condition. -/
import Derived.Test.YtbbdhlnldkkdbaaCompareB
namespace Go.Proofs.Ytbbdhlnldkkdbaa
open Go.RowKit
attribute [local go_sem ↓] Go.wp_at_zero Go.wp_at_succ

theorem kb {w W w1 : World} (h : Below w.heap.size w W) (hb : Below W.heap.size W w1) : Below w.heap.size w w1 := h.trans (hb.mono h.size)
theorem less_irrefl : ∀ l : List UInt8, Op.bytesLess l l = false := by
  intro l
  induction l with
  | nil => rfl
  | cons a l ih => simp [Op.bytesLess, ih]

theorem offs_at (n : Int) (w : World) : Calls Try.prog 27 #[.int .i64 n] w fun e w' => e = .returned (.agg #[.int .i64 0, .int .i64 0, .int .i64 n]) ∧ Below w.heap.size w w' := by
  go_enter Try.func27, Try.ntmps27
  go_wp2
  go_returns
  exact ⟨rfl, by go_grown⟩

theorem atSt_off {n : Int} (h : 1 ≤ n) : atSt 0 0 n = false := by
  unfold atSt
  have h1 : decide ((0 : Int) ≤ n) = true := by simp; omega
  have h2 : (n == 0) = false := by simp; omega
  simp [h1, h2]
theorem offs_point {n m : Int} (p1 : 1 ≤ n) (p2 : 1 ≤ m) (w : World) :
    Calls Try.prog 29 #[.agg #[.int .i64 0, .int .i64 0, .int .i64 n], .agg #[.int .i64 0, .int .i64 0, .int .i64 m]] w fun e w' => e = .returned (.int .i64 (sgn n m)) ∧ Below w.heap.size w w' := by
  have h := iComparePoint_any 0 0 n 0 0 m w
  rw [co_pos p1, co_pos p2] at h
  exact h
theorem offs_span {n m n2 m2 : Int} (u v : ByteArray) (p1 : 1 ≤ n) (p2 : 1 ≤ m) (p3 : 1 ≤ n2) (p4 : 1 ≤ m2) (w : World) :
    Calls Try.prog 28 #[.string u, .agg #[.int .i64 0, .int .i64 0, .int .i64 n], .agg #[.int .i64 0, .int .i64 0, .int .i64 m], .string v, .agg #[.int .i64 0, .int .i64 0, .int .i64 n2], .agg #[.int .i64 0, .int .i64 0, .int .i64 m2]] w fun e w' =>
      e = .returned (.int .i64 (if cmpU u v = 0 then sgn2 n m n2 m2 else cmpU u v)) ∧ Below w.heap.size w w' := by
  have h := iCompare_any u 0 0 n 0 0 m v 0 0 n2 0 0 m2 w
  simp only [co_pos p1, co_pos p2, co_pos p3, co_pos p4, show cl 0 = 0 from rfl, show cc 0 0 = 0 from rfl, eN_keep (atSt_off p2), eN_keep (atSt_off p4)] at h
  have e : cmpS u 0 0 n 0 0 m v 0 0 n2 0 0 m2 = if cmpU u v = 0 then sgn2 n m n2 m2 else cmpU u v := by
    simp only [cmpS, cmpP, sgn2]
    rfl
  rw [e] at h
  exact h

set_option maxHeartbeats 4000000 in
theorem fnCompareOffsets_near (u : ByteArray) (n m : Int) (v : ByteArray) (n2 m2 : Int) (w : World) (hu : ¬ (1000 : Int) < (u.size : Int)) (hv : ¬ (1000 : Int) < (v.size : Int)) (hf : near 1 [n, m, n2, m2] = true) :
    Calls Try.prog 7 #[.string u, .int .i64 n, .int .i64 m, .string v, .int .i64 n2, .int .i64 m2] w fun e w' => e = .returned (.bool true) ∧ Below w.heap.size w w' := by
  have hb := near_bound hf
  simp only [List.mem_cons, List.not_mem_nil, or_false, forall_eq_or_imp, forall_eq] at hb
  obtain ⟨⟨p1, _⟩, ⟨p2, _⟩, ⟨p3, _⟩, ⟨p4, _⟩⟩ := hb
  have HF := hide hf
  clear hf
  obtain ⟨s, hs⟩ : ∃ s, sgn n n2 = s := ⟨_, rfl⟩
  obtain ⟨t, ht⟩ : ∃ t, sgn m m2 = t := ⟨_, rfl⟩
  obtain ⟨r, hr⟩ : ∃ r, (if cmpU u v = 0 then sgn2 n m n2 m2 else cmpU u v) = r := ⟨_, rfl⟩
  have hP := fun W => offs_point p1 p3 W
  have hS := fun W => offs_span u v p1 p2 p3 p4 W
  have hG := fun W => sign_any n n2 W
  have hG2 := fun W => sign_any m m2 W
  rw [hr] at hS
  rw [hs] at hP hG
  rw [ht] at hG2
  have hcase : (Op.bytesLess u.toList v.toList = true ∧ (u.toList == v.toList) = false ∧ r = -1) ∨ (Op.bytesLess u.toList v.toList = false ∧ (u.toList == v.toList) = false ∧ r = 1) ∨
      (Op.bytesLess u.toList v.toList = false ∧ (u.toList == v.toList) = true ∧ r = if s = 0 then t else s) := by
    unfold cmpU at hr
    cases h1 : Op.bytesLess u.toList v.toList <;> cases h2 : (u.toList == v.toList) <;> simp only [h1, h2] at hr
    · simp at hr; exact Or.inr (Or.inl ⟨rfl, rfl, hr.symm⟩)
    · simp [sgn2, hs, ht] at hr; exact Or.inr (Or.inr ⟨rfl, rfl, hr.symm⟩)
    · simp at hr; exact Or.inl ⟨rfl, rfl, hr.symm⟩
    · have e : u.toList = v.toList := by simpa using h2
      rw [e, less_irrefl] at h1
      cases h1
  have hcase2 : (Op.bytesLess u.toList v.toList = true ∧ (u.toList == v.toList) = false ∧ r = -1 ∧ (s == 0) = true) ∨ (Op.bytesLess u.toList v.toList = true ∧ (u.toList == v.toList) = false ∧ r = -1 ∧ (s == 0) = false) ∨
      (Op.bytesLess u.toList v.toList = false ∧ (u.toList == v.toList) = false ∧ r = 1 ∧ (s == 0) = true) ∨ (Op.bytesLess u.toList v.toList = false ∧ (u.toList == v.toList) = false ∧ r = 1 ∧ (s == 0) = false) ∨
      (Op.bytesLess u.toList v.toList = false ∧ (u.toList == v.toList) = true ∧ r = t ∧ (s == 0) = true) ∨ (Op.bytesLess u.toList v.toList = false ∧ (u.toList == v.toList) = true ∧ r = s ∧ (s == 0) = false) := by
    by_cases h0 : s = 0
    · have e : (s == 0) = true := by simpa using h0
      rcases hcase with ⟨a, b, c⟩ | ⟨a, b, c⟩ | ⟨a, b, c⟩
      · exact Or.inl ⟨a, b, c, e⟩
      · exact Or.inr (Or.inr (Or.inl ⟨a, b, c, e⟩))
      · rw [if_pos h0] at c; exact Or.inr (Or.inr (Or.inr (Or.inr (Or.inl ⟨a, b, c, e⟩))))
    · have e : (s == 0) = false := by simpa using h0
      rcases hcase with ⟨a, b, c⟩ | ⟨a, b, c⟩ | ⟨a, b, c⟩
      · exact Or.inr (Or.inl ⟨a, b, c, e⟩)
      · exact Or.inr (Or.inr (Or.inr (Or.inl ⟨a, b, c, e⟩)))
      · rw [if_neg h0] at c; exact Or.inr (Or.inr (Or.inr (Or.inr (Or.inr ⟨a, b, c, e⟩))))
  have HP := hide hP
  have HS := hide hS
  have HG := hide hG
  have HG2 := hide hG2
  have q1 : decide ((1000 : Int) < (u.size : Int)) = false := by simpa using hu
  have q2 : decide ((1000 : Int) < (v.size : Int)) = false := by simpa using hv
  have q3 : decide ((2147483647 : Int) < (u.size : Int)) = false := by simp; omega
  have q4 : decide ((2147483647 : Int) < (v.size : Int)) = false := by simp; omega
  clear hP hS hG hG2 hs ht hr hcase hu hv p1 p2 p3 p4
  rcases hcase2 with ⟨l1, l2, rfl, s0⟩ | ⟨l1, l2, rfl, s0⟩ | ⟨l1, l2, rfl, s0⟩ | ⟨l1, l2, rfl, s0⟩ | ⟨l1, l2, rfl, s0⟩ | ⟨l1, l2, rfl, s0⟩
  all_goals
    go_enter Try.func7, Try.ntmps7
    go_wp2_with fail
    refine (isNear_any 1 _ _ [n, m, n2, m2] (by simp) _ (Ints.blk (Blk.newAt (by simp)) rfl)).mono ?_
    rintro e w1 ⟨rfl, rfl⟩
    rw [HF.out]
    go_wp2_with fail
    refine (HG.out _).mono ?_
    rintro e w1 ⟨rfl, rfl⟩
    go_wp2_with fail
    try
      refine (HG2.out _).mono ?_
      rintro e w1 ⟨rfl, rfl⟩
      go_wp2_with fail
    refine (spans_any _).mono ?_
    rintro e w1 ⟨rfl, hb1⟩
    have hbl1 : Below w.heap.size w w1 := Below.trans (by go_grown) (hb1.mono (by simp))
    clear hb1
    go_wp2_with (first
      | (go_at_call 27; refine (offs_at _ _).mono ?_; rintro e w1 ⟨rfl, hb⟩; have hbl := kb (by assumption) hb; clear hb)
      | (go_at_call 28; refine (HS.out _).mono ?_; rintro e w1 ⟨rfl, hb⟩; have hbl := kb (by assumption) hb; clear hb)
      | (go_at_call 29; refine (HP.out _).mono ?_; rintro e w1 ⟨rfl, hb⟩; have hbl := kb (by assumption) hb; clear hb)
      | (go_at_call 26; refine (HG.out _).mono ?_; rintro e w1 ⟨rfl, rfl⟩))
    go_ret
    exact ⟨rfl, by assumption⟩
end Go.Proofs.Ytbbdhlnldkkdbaa
