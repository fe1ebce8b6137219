/- Walks: comparePoint, CompareURI, Compare, spec.Sign, and the thin package's Compare and ComparePoint. No condition. -/
import Derived.Test.YtbbdhlnldkkdbaaMade
namespace Go.Proofs.Ytbbdhlnldkkdbaa
open Go.RowKit
attribute [local go_sem ↓] Go.wp_at_zero Go.wp_at_succ

/-- -1, 0 or 1. -/
def sgn (a b : Int) : Int := if a < b then -1 else if b < a then 1 else 0
/-- Two points compared: by their offsets if the first has no line, else by lines and columns. -/
def cmpP (l c o l2 c2 o2 : Int) : Int := if 0 < l then (if l < l2 then -1 else if l2 < l then 1 else sgn c c2) else sgn o o2
/-- Two names compared. -/
def cmpU (u v : ByteArray) : Int := if (u.toList == v.toList) = true then 0 else if Op.bytesLess u.toList v.toList = true then -1 else 1
/-- Two spans compared. -/
def cmpS (u : ByteArray) (l c o l2 c2 o2 : Int) (v : ByteArray) (a b d a2 b2 d2 : Int) : Int :=
  if cmpU u v = 0 then (if cmpP l c o a b d = 0 then cmpP l2 c2 o2 a2 b2 d2 else cmpP l c o a b d) else cmpU u v

theorem sign_any (a b : Int) (w : World) : Calls Try.prog 26 #[.int .i64 a, .int .i64 b] w fun e w' => e = .returned (.int .i64 (sgn a b)) ∧ w = w' := by
  by_cases h1 : a < b
  · go_enter Try.func26, Try.ntmps26
    go_wp2
    go_ret
    exact ⟨ret_int (by simp only [sgn]; (repeat' split) <;> omega), rfl⟩
  · by_cases h2 : b < a
    · go_enter Try.func26, Try.ntmps26
      go_wp2
      go_ret
      exact ⟨ret_int (by simp only [sgn]; (repeat' split) <;> omega), rfl⟩
    · go_enter Try.func26, Try.ntmps26
      go_wp2
      go_ret
      exact ⟨ret_int (by simp only [sgn]; (repeat' split) <;> omega), rfl⟩

set_option maxHeartbeats 1000000 in
theorem comparePoint_any (l c o l2 c2 o2 : Int) (w : World) : Calls Try.prog 70 #[.agg #[.int .i64 l, .int .i64 c, .int .i64 o], .agg #[.int .i64 l2, .int .i64 c2, .int .i64 o2]] w fun e w' => e = .returned (.int .i64 (cmpP l c o l2 c2 o2)) ∧ Below w.heap.size w w' := by
  by_cases h0 : 0 < l
  · by_cases h1 : l < l2
    · go_enter Try.func70, Try.ntmps70
      go_wp2
      go_ret
      exact ⟨ret_int (by simp only [cmpP, sgn]; (repeat' split) <;> omega), by go_grown⟩
    · by_cases h2 : l2 < l
      · go_enter Try.func70, Try.ntmps70
        go_wp2
        go_ret
        exact ⟨ret_int (by simp only [cmpP, sgn]; (repeat' split) <;> omega), by go_grown⟩
      · by_cases h3 : c < c2 <;> by_cases h4 : c2 < c
        all_goals first
          | (exfalso; omega)
          | (go_enter Try.func70, Try.ntmps70
             go_wp2
             go_ret
             exact ⟨ret_int (by simp only [cmpP, sgn]; (repeat' split) <;> omega), by go_grown⟩)
  · by_cases h3 : o < o2 <;> by_cases h4 : o2 < o
    all_goals first
      | (exfalso; omega)
      | (go_enter Try.func70, Try.ntmps70
         go_wp2
         go_ret
         exact ⟨ret_int (by simp only [cmpP, sgn]; (repeat' split) <;> omega), by go_grown⟩)

theorem compareURI_any (u v : ByteArray) (w : World) : Calls Try.prog 69 #[.string u, .string v] w fun e w' => e = .returned (.int .i64 (cmpU u v)) ∧ w = w' := by
  cases h1 : (u.toList == v.toList) <;> cases h2 : Op.bytesLess u.toList v.toList
  all_goals
    go_enter Try.func69, Try.ntmps69
    go_wp2
    go_ret
    exact ⟨ret_int (by simp only [cmpU, h1, h2]; rfl), rfl⟩

set_option maxHeartbeats 1000000 in
theorem pCompare_any (l c o l2 c2 o2 : Int) (w : World) : Calls Try.prog 48 #[.agg #[.int .i64 l, .int .i64 c, .int .i64 o], .agg #[.int .i64 l2, .int .i64 c2, .int .i64 o2]] w fun e w' => e = .returned (.int .i64 (cmpP l c o l2 c2 o2)) ∧ Below w.heap.size w w' := by
  go_enter Try.func48, Try.ntmps48
  go_wp2_with fail
  refine (comparePoint_any _ _ _ _ _ _ _).mono ?_
  rintro e w1 ⟨rfl, hb1⟩
  have hbl1 : Below w.heap.size w w1 := Below.trans (by go_grown) (hb1.mono (by simp; omega))
  go_wp2
  go_ret
  exact ⟨rfl, hbl1⟩

set_option maxHeartbeats 1000000 in
theorem sCompare_any (u : ByteArray) (l c o l2 c2 o2 : Int) (v : ByteArray) (a b d a2 b2 d2 : Int) (w : World) :
    Calls Try.prog 47 #[.agg #[.string u, .int .i64 l, .int .i64 c, .int .i64 o, .int .i64 l2, .int .i64 c2, .int .i64 o2], .agg #[.string v, .int .i64 a, .int .i64 b, .int .i64 d, .int .i64 a2, .int .i64 b2, .int .i64 d2]] w fun e w' =>
      e = .returned (.int .i64 (cmpS u l c o l2 c2 o2 v a b d a2 b2 d2)) ∧ Below w.heap.size w w' := by
  obtain ⟨r, hr⟩ : ∃ r, cmpU u v = r := ⟨_, rfl⟩
  obtain ⟨r1, hr1⟩ : ∃ r, cmpP l c o a b d = r := ⟨_, rfl⟩
  have hU := fun W => compareURI_any u v W
  have hP := fun W => comparePoint_any l c o a b d W
  rw [hr] at hU
  rw [hr1] at hP
  have HU := hide hU
  have HP := hide hP
  have HR := hide hr
  have HR1 := hide hr1
  clear hU hP hr hr1
  have hr0 : (r != 0) = true ∨ (r != 0) = false := by cases (r != 0) <;> simp
  have hr10 : (r1 != 0) = true ∨ (r1 != 0) = false := by cases (r1 != 0) <;> simp
  rcases hr0 with h0 | h0
  · clear hr10
    go_enter Try.func47, Try.ntmps47
    go_wp2_with fail
    refine wp_gen ?_
    intro W hW
    have hbl : Below w.heap.size w W := by rw [hW]; go_grown
    have b1 := blk2_1 hW
    have b2 := blk2_2 hW
    clear hW
    have lt1 := b1.lt
    have lt2 := b2.lt
    have f1 := b1.seven
    have f2 := b2.seven
    clear b1 b2
    go_region_held3 (fun w' => (∀ b o, b < W.heap.size → w'.cell? ⟨b, o, none⟩ = W.cell? ⟨b, o, none⟩) ∧ W.heap.size ≤ w'.heap.size ∧ Below (W.heap.size) W w')
    (first
      | (with_reducible exact SB.start (by omega))
      | (go_split_ands; (with_reducible refine SB.call ?_ hb); exact ⟨by assumption, by assumption, by assumption⟩))
    (first
      | (go_at_call 57; refine (uri_any _ _ _ _ _ _ _ _).mono ?_; rintro e w1 ⟨rfl, hb⟩)
      | (go_at_call 69; refine (HU.out _).mono ?_; rintro e w1 ⟨rfl, rfl⟩; have hb := Below.refl w1.heap.size w1))
    go_wp2
    go_split_ands
    go_ret
    exact ⟨ret_int (by have := HR.out; have h := bne_iff_ne.1 h0; simp only [cmpS, this]; rw [if_neg h]), hbl.trans (Below.mono (B := W.heap.size) (by assumption) hbl.size)⟩
  · have h0' : r = 0 := by simpa using h0
    rcases hr10 with h1 | h1
    · replace h0' := hide h0'
      go_enter Try.func47, Try.ntmps47
      go_wp2_with fail
      refine wp_gen ?_
      intro W hW
      have hbl : Below w.heap.size w W := by rw [hW]; go_grown
      have b1 := blk2_1 hW
      have b2 := blk2_2 hW
      clear hW
      have lt1 := b1.lt
      have lt2 := b2.lt
      have f1 := b1.seven
      have f2 := b2.seven
      clear b1 b2
      go_region_held3 (fun w' => (∀ b o, b < W.heap.size → w'.cell? ⟨b, o, none⟩ = W.cell? ⟨b, o, none⟩) ∧ W.heap.size ≤ w'.heap.size ∧ Below (W.heap.size) W w')
    (first
      | (with_reducible exact SB.start (by omega))
      | (go_split_ands; (with_reducible refine SB.call ?_ hb); exact ⟨by assumption, by assumption, by assumption⟩))
    (first
      | (go_at_call 57; refine (uri_any _ _ _ _ _ _ _ _).mono ?_; rintro e w1 ⟨rfl, hb⟩)
      | (go_at_call 69; refine (HU.out _).mono ?_; rintro e w1 ⟨rfl, rfl⟩; have hb := Below.refl w1.heap.size w1))
      go_wp2_with fail
      refine (HP.out _).mono ?_
      rintro e w2 ⟨rfl, hb2⟩
      go_split_ands
      have hbl2 : Below w.heap.size w w2 := (hbl.trans (Below.mono (B := W.heap.size) (by assumption) hbl.size)).trans (hb2.mono (Nat.le_trans hbl.size (by assumption)))
      go_wp2
      go_ret
      exact ⟨ret_int (by have := HR.out; have h := bne_iff_ne.1 h1; have t := HR1.out; simp only [cmpS, this, t, h0'.out, if_true]; rw [if_neg h]), hbl2⟩
    · replace h0' := hide h0'
      have h1' : r1 = 0 := by simpa using h1
      replace h1' := hide h1'
      go_enter Try.func47, Try.ntmps47
      go_wp2_with fail
      refine wp_gen ?_
      intro W hW
      have hbl : Below w.heap.size w W := by rw [hW]; go_grown
      have b1 := blk2_1 hW
      have b2 := blk2_2 hW
      clear hW
      have lt1 := b1.lt
      have lt2 := b2.lt
      have f1 := b1.seven
      have f2 := b2.seven
      clear b1 b2
      go_region_held3 (fun w' => (∀ b o, b < W.heap.size → w'.cell? ⟨b, o, none⟩ = W.cell? ⟨b, o, none⟩) ∧ W.heap.size ≤ w'.heap.size ∧ Below (W.heap.size) W w')
    (first
      | (with_reducible exact SB.start (by omega))
      | (go_split_ands; (with_reducible refine SB.call ?_ hb); exact ⟨by assumption, by assumption, by assumption⟩))
    (first
      | (go_at_call 57; refine (uri_any _ _ _ _ _ _ _ _).mono ?_; rintro e w1 ⟨rfl, hb⟩)
      | (go_at_call 69; refine (HU.out _).mono ?_; rintro e w1 ⟨rfl, rfl⟩; have hb := Below.refl w1.heap.size w1))
      go_wp2_with fail
      refine (HP.out _).mono ?_
      rintro e w2 ⟨rfl, hb2⟩
      go_split_ands
      have hbl2 : Below w.heap.size w w2 := (hbl.trans (Below.mono (B := W.heap.size) (by assumption) hbl.size)).trans (hb2.mono (Nat.le_trans hbl.size (by assumption)))
      have hs2 : SB W.heap.size W w2 := SB.call ⟨by assumption, by assumption, by assumption⟩ hb2
      have hc2 := hs2.1
      go_wp2_with fail
      refine (comparePoint_any _ _ _ _ _ _ _).mono ?_
      rintro e w3 ⟨rfl, hb3⟩
      have hbl3 : Below w.heap.size w w3 := hbl2.trans (hb3.mono hbl2.size)
      go_wp2
      go_ret
      exact ⟨ret_int (by have := HR.out; have t := HR1.out; simp only [cmpS, this, t, h0'.out, h1'.out, if_true]), hbl3⟩
end Go.Proofs.Ytbbdhlnldkkdbaa
