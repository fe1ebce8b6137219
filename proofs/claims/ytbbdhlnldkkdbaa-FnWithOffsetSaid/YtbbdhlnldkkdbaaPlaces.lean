/- Contracts: impl.WithPosition, impl.WithOffset and impl.WithAll at the places of two offsets of a text. No condition but sizes. -/
import Derived.Test.YtbbdhlnldkkdbaaIWithP
import Derived.Test.YtbbdhlnldkkdbaaIWithO
import Derived.Test.YtbbdhlnldkkdbaaIWithA
import Derived.Test.YtbbdhlnldkkdbaaFnCompareOffsets
import Derived.Test.YtbbdhlnldkkdbaaOffB
import Derived.Test.YtbbdhlnldkkdbaaBaseD
namespace Go.Proofs.Ytbbdhlnldkkdbaa
open Go.RowKit

theorem same_line (s : ByteArray) (i : Nat) : ∀ j, i ≤ j → j ≤ s.size → nlTo s i = nlTo s j → lastNl s i = lastNl s j := by
  intro j
  induction j with
  | zero => intro h _ _; have : i = 0 := by omega
            rw [this]
  | succ k ih =>
    intro h hk hn
    by_cases he : i = k + 1
    · rw [he]
    · have hm : nlTo s i ≤ nlTo s k := by
        clear ih hn
        have : ∀ m, i ≤ m → m ≤ s.size → nlTo s i ≤ nlTo s m := by
          intro m
          induction m with
          | zero => intro h _; have : i = 0 := by omega
                    rw [this]; exact Nat.le_refl _
          | succ q ih =>
            intro h hq
            by_cases e : i = q + 1
            · rw [e]; exact Nat.le_refl _
            · have := ih (by omega) (by omega)
              rw [nlTo_succ s q (by omega)]
              omega
        exact this k (by omega) (by omega)
      rw [nlTo_succ s k (by omega)] at hn
      have hb : ¬ bt s k = 10 := by intro hb; rw [if_pos hb] at hn; omega
      rw [if_neg hb] at hn
      rw [lastNl, if_neg hb]
      exact ih (by omega) (by omega) (by omega)

/-- The span of two offsets gets their lines and columns. -/
theorem withPosition_places (s : ByteArray) (i j : Nat) (hs : s.size ≤ 2147483647) (hij : i ≤ j) (hj : j < s.size) (w : World) :
    Calls Try.prog 35 #[.string s, .agg #[.int .i64 0, .int .i64 0, .int .i64 i], .agg #[.int .i64 0, .int .i64 0, .int .i64 j]] w fun e w' =>
      e = .returned (.tuple #[.agg #[.int .i64 ((nlTo s i : Int) + 1), .int .i64 ((i : Int) - lastNl s i), .int .i64 i], .agg #[.int .i64 ((nlTo s j : Int) + 1), .int .i64 ((j : Int) - lastNl s j), .int .i64 j], .bool true]) ∧ Below w.heap.size w w' := by
  obtain ⟨e1, e2⟩ := pos_at s i (by omega)
  obtain ⟨e3, e4⟩ := pos_at s j hj
  have hL := stTo_len s s.size
  have hLb : ∀ x ∈ stTo s s.size, (0 : Int) ≤ x ∧ x ≤ 2147483647 := fun x hx => by have := stTo_bound s s.size x hx; omega
  have hS : ∀ W, Calls Try.prog 37 #[.string ⟨#[97]⟩, .agg #[.int .i64 0, .int .i64 0, .int .i64 i], .agg #[.int .i64 0, .int .i64 0, .int .i64 j]] W fun e w' => e = .returned (.agg #[.string ⟨#[97]⟩, .int .i64 0, .int .i64 0, .int .i64 i, .int .i64 0, .int .i64 0, .int .i64 j]) ∧ Below W.heap.size W w' := by
    intro W
    have h := spanTo_any ⟨#[97]⟩ 0 0 i 0 0 j W
    have c0 : ∀ k : Nat, co 0 0 (k : Int) = k := fun k => by unfold co; rw [if_neg]; simp [cl, cc]
    have e0 : eN 0 0 (j : Int) 0 0 = 0 := by unfold eN; split <;> rfl
    have ej : eN 0 0 (j : Int) i j = j := by
      by_cases hj0 : j = 0
      · have : i = 0 := by omega
        subst hj0; subst this; unfold eN; split <;> rfl
      · exact eN_keep (atSt_off (by omega))
    simp only [c0, show cl 0 = 0 from rfl, show cc 0 0 = 0 from rfl, e0, ej] at h
    exact h
  by_cases hne : j = i
  · subst hne
    have hM : ∀ W p, Conv W p s.size (stTo s s.size) → _ := fun W p hC => withPosition_of ⟨#[97]⟩ 0 0 j 0 0 j _ _ _ _ _ _ p W (fun W' hb hB => updB_one false ⟨#[97]⟩ j W.heap.size p s.size (stTo s s.size) W W' hC hb (Nat.le_refl _) hB (by omega) (by omega) (by omega) hs hLb (by rw [e1]; omega))
    have h := iWithPosition_of s hs 0 0 j 0 0 j 0 0 j 0 0 j _ _ _ _ _ _ w hS hM
    rw [e1, e2] at h
    have hb := lastNl_bd s j
    simp only [oL_pos (show 1 ≤ (nlTo s j : Int) + 1 by omega), oC_pos (show 1 ≤ (nlTo s j : Int) + 1 by omega), oO_pos (show (0 : Int) ≤ (j : Int) by omega)] at h
    exact h
  · have hne' : ((j : Int) == (i : Int)) = false := by simp; omega
    have hM : ∀ W p, Conv W p s.size (stTo s s.size) → _ := fun W p hC => withPosition_of ⟨#[97]⟩ 0 0 i 0 0 j _ _ _ _ _ _ p W (fun W' hb hB => updB_two false ⟨#[97]⟩ i j W.heap.size p s.size (stTo s s.size) W W' hC hb (Nat.le_refl _) hB (by omega) (by omega) (by omega) (by omega) hne' (by omega) hs hLb (by rw [e3]; omega))
    have h := iWithPosition_of s hs 0 0 i 0 0 j 0 0 i 0 0 j _ _ _ _ _ _ w hS hM
    rw [e1, e2, e3, e4] at h
    simp only [oL_pos (show 1 ≤ (nlTo s j : Int) + 1 by omega), oC_pos (show 1 ≤ (nlTo s j : Int) + 1 by omega), oO_pos (show (0 : Int) ≤ (j : Int) by omega),
      oL_pos (show 1 ≤ (nlTo s i : Int) + 1 by omega), oC_pos (show 1 ≤ (nlTo s i : Int) + 1 by omega), oO_pos (show (0 : Int) ≤ (i : Int) by omega)] at h
    exact h

/-- The span of two offsets gets their lines and columns. -/
theorem withAll_only (s : ByteArray) (i j : Nat) (hs : s.size ≤ 2147483647) (hij : i ≤ j) (hj : j < s.size) (w : World) :
    Calls Try.prog 33 #[.string s, .agg #[.int .i64 0, .int .i64 0, .int .i64 i], .agg #[.int .i64 0, .int .i64 0, .int .i64 j]] w fun e w' =>
      e = .returned (.tuple #[.agg #[.int .i64 ((nlTo s i : Int) + 1), .int .i64 ((i : Int) - lastNl s i), .int .i64 i], .agg #[.int .i64 ((nlTo s j : Int) + 1), .int .i64 ((j : Int) - lastNl s j), .int .i64 j], .bool true]) ∧ Below w.heap.size w w' := by
  obtain ⟨e1, e2⟩ := pos_at s i (by omega)
  obtain ⟨e3, e4⟩ := pos_at s j hj
  have hL := stTo_len s s.size
  have hLb : ∀ x ∈ stTo s s.size, (0 : Int) ≤ x ∧ x ≤ 2147483647 := fun x hx => by have := stTo_bound s s.size x hx; omega
  have hS : ∀ W, Calls Try.prog 37 #[.string ⟨#[97]⟩, .agg #[.int .i64 0, .int .i64 0, .int .i64 i], .agg #[.int .i64 0, .int .i64 0, .int .i64 j]] W fun e w' => e = .returned (.agg #[.string ⟨#[97]⟩, .int .i64 0, .int .i64 0, .int .i64 i, .int .i64 0, .int .i64 0, .int .i64 j]) ∧ Below W.heap.size W w' := by
    intro W
    have h := spanTo_any ⟨#[97]⟩ 0 0 i 0 0 j W
    have c0 : ∀ k : Nat, co 0 0 (k : Int) = k := fun k => by unfold co; rw [if_neg]; simp [cl, cc]
    have e0 : eN 0 0 (j : Int) 0 0 = 0 := by unfold eN; split <;> rfl
    have ej : eN 0 0 (j : Int) i j = j := by
      by_cases hj0 : j = 0
      · have : i = 0 := by omega
        subst hj0; subst this; unfold eN; split <;> rfl
      · exact eN_keep (atSt_off (by omega))
    simp only [c0, show cl 0 = 0 from rfl, show cc 0 0 = 0 from rfl, e0, ej] at h
    exact h
  by_cases hne : j = i
  · subst hne
    have hM : ∀ W p, Conv W p s.size (stTo s s.size) → _ := fun W p hC => withAll_of ⟨#[97]⟩ 0 0 j 0 0 j _ _ _ _ _ _ p W (fun W' hb hB => updB_one true ⟨#[97]⟩ j W.heap.size p s.size (stTo s s.size) W W' hC hb (Nat.le_refl _) hB (by omega) (by omega) (by omega) hs hLb (by rw [e1]; omega))
    have h := iWithAll_of s hs 0 0 j 0 0 j 0 0 j 0 0 j _ _ _ _ _ _ w hS hM
    rw [e1, e2] at h
    have hb := lastNl_bd s j
    simp only [oL_pos (show 1 ≤ (nlTo s j : Int) + 1 by omega), oC_pos (show 1 ≤ (nlTo s j : Int) + 1 by omega), oO_pos (show (0 : Int) ≤ (j : Int) by omega)] at h
    exact h
  · have hne' : ((j : Int) == (i : Int)) = false := by simp; omega
    have hM : ∀ W p, Conv W p s.size (stTo s s.size) → _ := fun W p hC => withAll_of ⟨#[97]⟩ 0 0 i 0 0 j _ _ _ _ _ _ p W (fun W' hb hB => updB_two true ⟨#[97]⟩ i j W.heap.size p s.size (stTo s s.size) W W' hC hb (Nat.le_refl _) hB (by omega) (by omega) (by omega) (by omega) hne' (by omega) hs hLb (by rw [e3]; omega))
    have h := iWithAll_of s hs 0 0 i 0 0 j 0 0 i 0 0 j _ _ _ _ _ _ w hS hM
    rw [e1, e2, e3, e4] at h
    simp only [oL_pos (show 1 ≤ (nlTo s j : Int) + 1 by omega), oC_pos (show 1 ≤ (nlTo s j : Int) + 1 by omega), oO_pos (show (0 : Int) ≤ (j : Int) by omega),
      oL_pos (show 1 ≤ (nlTo s i : Int) + 1 by omega), oC_pos (show 1 ≤ (nlTo s i : Int) + 1 by omega), oO_pos (show (0 : Int) ≤ (i : Int) by omega)] at h
    exact h

/-- The span of two places gets their offsets. -/
theorem withOffset_places (s : ByteArray) (i j : Nat) (hs : s.size ≤ 2147483647) (hij : i ≤ j) (hj : j ≤ s.size) (w : World) :
    Calls Try.prog 34 #[.string s, .agg #[.int .i64 ((nlTo s i : Int) + 1), .int .i64 ((i : Int) - lastNl s i), .int .i64 (-1)], .agg #[.int .i64 ((nlTo s j : Int) + 1), .int .i64 ((j : Int) - lastNl s j), .int .i64 (-1)]] w fun e w' =>
      e = .returned (.tuple #[.agg #[.int .i64 ((nlTo s i : Int) + 1), .int .i64 ((i : Int) - lastNl s i), .int .i64 i], .agg #[.int .i64 ((nlTo s j : Int) + 1), .int .i64 ((j : Int) - lastNl s j), .int .i64 j], .bool true]) ∧ Below w.heap.size w w' := by
  have hb1 := lastNl_bd s i
  have hb2 := lastNl_bd s j
  have hL := stTo_len s s.size
  have hT1 := fun p W hC => toOffset_place s i (by omega) hs p W hC
  have hT2 := fun p W hC => toOffset_place s j hj hs p W hC
  have hS : ∀ W, Calls Try.prog 37 #[.string ⟨#[97]⟩, .agg #[.int .i64 ((nlTo s i : Int) + 1), .int .i64 ((i : Int) - lastNl s i), .int .i64 (-1)], .agg #[.int .i64 ((nlTo s j : Int) + 1), .int .i64 ((j : Int) - lastNl s j), .int .i64 (-1)]] W fun e w' => e = .returned (.agg #[.string ⟨#[97]⟩, .int .i64 ((nlTo s i : Int) + 1), .int .i64 ((i : Int) - lastNl s i), .int .i64 (-1), .int .i64 ((nlTo s j : Int) + 1), .int .i64 ((j : Int) - lastNl s j), .int .i64 (-1)]) ∧ Below W.heap.size W w' := by
    intro W
    have h := spanTo_any ⟨#[97]⟩ ((nlTo s i : Int) + 1) ((i : Int) - lastNl s i) (-1) ((nlTo s j : Int) + 1) ((j : Int) - lastNl s j) (-1) W
    have e1 : ∀ l : Int, 1 ≤ l → cl l = l := fun l h => by unfold cl; rw [if_neg (by omega)]
    have e2 : ∀ l c : Int, 1 ≤ c → cc l c = c := fun l c h => by unfold cc; rw [if_neg (by omega)]
    have e3 : ∀ l c : Int, co l c (-1) = -1 := fun l c => by unfold co; rw [if_neg (by omega)]
    have e4 : ∀ l c x y : Int, 1 ≤ l → eN l c (-1) x y = y := fun l c x y h => eN_keep (by unfold atSt; simp; omega)
    simp only [e1 _ (show 1 ≤ (nlTo s i : Int) + 1 by omega), e1 _ (show 1 ≤ (nlTo s j : Int) + 1 by omega), e2 _ _ (show 1 ≤ (i : Int) - lastNl s i by omega), e2 _ _ (show 1 ≤ (j : Int) - lastNl s j by omega), e3, e4 _ _ _ _ (show 1 ≤ (nlTo s j : Int) + 1 by omega)] at h
    exact h
  have h : Calls Try.prog 34 #[.string s, .agg #[.int .i64 ((nlTo s i : Int) + 1), .int .i64 ((i : Int) - lastNl s i), .int .i64 (-1)], .agg #[.int .i64 ((nlTo s j : Int) + 1), .int .i64 ((j : Int) - lastNl s j), .int .i64 (-1)]] w fun e w' =>
      e = .returned (.tuple #[.agg #[.int .i64 (oL ((nlTo s i : Int) + 1)), .int .i64 (oC ((nlTo s i : Int) + 1) ((i : Int) - lastNl s i)), .int .i64 (oO i)], .agg #[.int .i64 (oL ((nlTo s j : Int) + 1)), .int .i64 (oC ((nlTo s j : Int) + 1) ((j : Int) - lastNl s j)), .int .i64 (oO j)], .bool true]) ∧ Below w.heap.size w w' := by
    refine iWithOffset_of s hs _ _ _ _ _ _ _ _ _ _ _ _ _ _ _ _ _ _ w hS (fun W p hC => withOffset_of ⟨#[97]⟩ _ _ _ _ _ _ _ _ _ _ _ _ p W (fun W' hb hB => ?_))
    by_cases h1 : nlTo s i = nlTo s j
    · have q1 : (((nlTo s j : Int) + 1) == ((nlTo s i : Int) + 1)) = true := by simp; omega
      have hl := same_line s i j hij hj h1
      by_cases h2 : i = j
      · subst h2
        exact updA_one false _ _ _ _ _ _ _ i W.heap.size p s.size (stTo s s.size) W W' hC hb (Nat.le_refl _) hB (by omega) (by omega) (Or.inl (by decide)) q1 (by simp) (fun W hC => hT1 p W hC)
      · have q2 : (((j : Int) - lastNl s j) == ((i : Int) - lastNl s i)) = false := by simp; omega
        exact updA_twoC false _ _ _ _ _ _ _ i j W.heap.size p s.size (stTo s s.size) W W' hC hb (Nat.le_refl _) hB (by omega) (by omega) (Or.inl (by decide)) q1 q2 (fun W hC => hT1 p W hC) (fun W hC => hT2 p W hC)
    · have q1 : (((nlTo s j : Int) + 1) == ((nlTo s i : Int) + 1)) = false := by simp; omega
      exact updA_twoL false _ _ _ _ _ _ _ i j W.heap.size p s.size (stTo s s.size) W W' hC hb (Nat.le_refl _) hB (by omega) (by omega) (Or.inl (by decide)) q1 (fun W hC => hT1 p W hC) (fun W hC => hT2 p W hC)
  simp only [oL_pos (show 1 ≤ (nlTo s j : Int) + 1 by omega), oC_pos (show 1 ≤ (nlTo s j : Int) + 1 by omega), oO_pos (show (0 : Int) ≤ (j : Int) by omega),
    oL_pos (show 1 ≤ (nlTo s i : Int) + 1 by omega), oC_pos (show 1 ≤ (nlTo s i : Int) + 1 by omega), oO_pos (show (0 : Int) ≤ (i : Int) by omega)] at h
  exact h

/-- The span of two places gets their offsets. -/
theorem withAll_bare (s : ByteArray) (i j : Nat) (hs : s.size ≤ 2147483647) (hij : i ≤ j) (hj : j ≤ s.size) (w : World) :
    Calls Try.prog 33 #[.string s, .agg #[.int .i64 ((nlTo s i : Int) + 1), .int .i64 ((i : Int) - lastNl s i), .int .i64 (-1)], .agg #[.int .i64 ((nlTo s j : Int) + 1), .int .i64 ((j : Int) - lastNl s j), .int .i64 (-1)]] w fun e w' =>
      e = .returned (.tuple #[.agg #[.int .i64 ((nlTo s i : Int) + 1), .int .i64 ((i : Int) - lastNl s i), .int .i64 i], .agg #[.int .i64 ((nlTo s j : Int) + 1), .int .i64 ((j : Int) - lastNl s j), .int .i64 j], .bool true]) ∧ Below w.heap.size w w' := by
  have hb1 := lastNl_bd s i
  have hb2 := lastNl_bd s j
  have hL := stTo_len s s.size
  have hT1 := fun p W hC => toOffset_place s i (by omega) hs p W hC
  have hT2 := fun p W hC => toOffset_place s j hj hs p W hC
  have hS : ∀ W, Calls Try.prog 37 #[.string ⟨#[97]⟩, .agg #[.int .i64 ((nlTo s i : Int) + 1), .int .i64 ((i : Int) - lastNl s i), .int .i64 (-1)], .agg #[.int .i64 ((nlTo s j : Int) + 1), .int .i64 ((j : Int) - lastNl s j), .int .i64 (-1)]] W fun e w' => e = .returned (.agg #[.string ⟨#[97]⟩, .int .i64 ((nlTo s i : Int) + 1), .int .i64 ((i : Int) - lastNl s i), .int .i64 (-1), .int .i64 ((nlTo s j : Int) + 1), .int .i64 ((j : Int) - lastNl s j), .int .i64 (-1)]) ∧ Below W.heap.size W w' := by
    intro W
    have h := spanTo_any ⟨#[97]⟩ ((nlTo s i : Int) + 1) ((i : Int) - lastNl s i) (-1) ((nlTo s j : Int) + 1) ((j : Int) - lastNl s j) (-1) W
    have e1 : ∀ l : Int, 1 ≤ l → cl l = l := fun l h => by unfold cl; rw [if_neg (by omega)]
    have e2 : ∀ l c : Int, 1 ≤ c → cc l c = c := fun l c h => by unfold cc; rw [if_neg (by omega)]
    have e3 : ∀ l c : Int, co l c (-1) = -1 := fun l c => by unfold co; rw [if_neg (by omega)]
    have e4 : ∀ l c x y : Int, 1 ≤ l → eN l c (-1) x y = y := fun l c x y h => eN_keep (by unfold atSt; simp; omega)
    simp only [e1 _ (show 1 ≤ (nlTo s i : Int) + 1 by omega), e1 _ (show 1 ≤ (nlTo s j : Int) + 1 by omega), e2 _ _ (show 1 ≤ (i : Int) - lastNl s i by omega), e2 _ _ (show 1 ≤ (j : Int) - lastNl s j by omega), e3, e4 _ _ _ _ (show 1 ≤ (nlTo s j : Int) + 1 by omega)] at h
    exact h
  have h : Calls Try.prog 33 #[.string s, .agg #[.int .i64 ((nlTo s i : Int) + 1), .int .i64 ((i : Int) - lastNl s i), .int .i64 (-1)], .agg #[.int .i64 ((nlTo s j : Int) + 1), .int .i64 ((j : Int) - lastNl s j), .int .i64 (-1)]] w fun e w' =>
      e = .returned (.tuple #[.agg #[.int .i64 (oL ((nlTo s i : Int) + 1)), .int .i64 (oC ((nlTo s i : Int) + 1) ((i : Int) - lastNl s i)), .int .i64 (oO i)], .agg #[.int .i64 (oL ((nlTo s j : Int) + 1)), .int .i64 (oC ((nlTo s j : Int) + 1) ((j : Int) - lastNl s j)), .int .i64 (oO j)], .bool true]) ∧ Below w.heap.size w w' := by
    refine iWithAll_of s hs _ _ _ _ _ _ _ _ _ _ _ _ _ _ _ _ _ _ w hS (fun W p hC => withAll_of ⟨#[97]⟩ _ _ _ _ _ _ _ _ _ _ _ _ p W (fun W' hb hB => ?_))
    by_cases h1 : nlTo s i = nlTo s j
    · have q1 : (((nlTo s j : Int) + 1) == ((nlTo s i : Int) + 1)) = true := by simp; omega
      have hl := same_line s i j hij hj h1
      by_cases h2 : i = j
      · subst h2
        exact updA_one true _ _ _ _ _ _ _ i W.heap.size p s.size (stTo s s.size) W W' hC hb (Nat.le_refl _) hB (by omega) (by omega) (Or.inl (by decide)) q1 (by simp) (fun W hC => hT1 p W hC)
      · have q2 : (((j : Int) - lastNl s j) == ((i : Int) - lastNl s i)) = false := by simp; omega
        exact updA_twoC true _ _ _ _ _ _ _ i j W.heap.size p s.size (stTo s s.size) W W' hC hb (Nat.le_refl _) hB (by omega) (by omega) (Or.inl (by decide)) q1 q2 (fun W hC => hT1 p W hC) (fun W hC => hT2 p W hC)
    · have q1 : (((nlTo s j : Int) + 1) == ((nlTo s i : Int) + 1)) = false := by simp; omega
      exact updA_twoL true _ _ _ _ _ _ _ i j W.heap.size p s.size (stTo s s.size) W W' hC hb (Nat.le_refl _) hB (by omega) (by omega) (Or.inl (by decide)) q1 (fun W hC => hT1 p W hC) (fun W hC => hT2 p W hC)
  simp only [oL_pos (show 1 ≤ (nlTo s j : Int) + 1 by omega), oC_pos (show 1 ≤ (nlTo s j : Int) + 1 by omega), oO_pos (show (0 : Int) ≤ (j : Int) by omega),
    oL_pos (show 1 ≤ (nlTo s i : Int) + 1 by omega), oC_pos (show 1 ≤ (nlTo s i : Int) + 1 by omega), oO_pos (show (0 : Int) ≤ (i : Int) by omega)] at h
  exact h

theorem SB.drew_ {g : Nat} {W w : World} (h : SB g W w) : SB g W w.drew := ⟨h.1, h.2.1, h.2.2.drew⟩
theorem World.size_drew_ (w : World) : w.drew.heap.size = w.heap.size := rfl

/-- What the statement leaves: two new points beside the two that were there. -/
def CutW (w wc : World) (g7 g8 g9 g10 : Nat) (p q r s : Array Value) : Prop := Blk wc g7 23 p ∧ Blk wc g8 23 q ∧ Blk wc g9 23 r ∧ Blk wc g10 23 s ∧ Below w.heap.size w wc

theorem cutW_of {w W wc : World} {g7 g8 g9 g10 : Nat} {p q r s : Array Value} (hw : Below w.heap.size w W) (hW : w.heap.size ≤ W.heap.size) (h1 : Blk W g7 23 p) (h2 : Blk W g8 23 q) (hS : SB W.heap.size W wc) (h3 : Blk wc g9 23 r) (h4 : Blk wc g10 23 s) : CutW w wc g7 g8 g9 g10 p q r s :=
  ⟨h1.below hS.2.2 h1.lt, h2.below hS.2.2 h2.lt, h3, h4, hw.trans (hS.2.2.mono hW)⟩

theorem cutW_of2 {w wc wx : World} {g9 g10 g11 g12 : Nat} {p q r s : Array Value} (H : Off2 g11 g12 wc wx) (hbc : Below w.heap.size w wc) (hz : w.heap.size ≤ g11) (hz2 : w.heap.size ≤ g12) (k9 : Blk wc g9 23 p) (k10 : Blk wc g10 23 q) (n1 : g9 < g11) (n2 : g9 < g12) (n3 : g10 < g11) (n4 : g10 < g12) (h3 : Blk wx g11 23 r) (h4 : Blk wx g12 23 s) : CutW w wx g9 g10 g11 g12 p q r s :=
  ⟨(H.block g9 k9.lt (by omega) (by omega)).trans k9, (H.block g10 k10.lt (by omega) (by omega)).trans k10, h3, h4, hbc.trans (Off2.below (g := g11) (h := g12) H hz hz2 hbc.size)⟩

theorem put3_ {w : World} {g t : Nat} {x0 y0 z0 x y z : Value} (h : Blk w g t #[x0, y0, z0]) : Blk (((w.setCell ⟨g, 0, none⟩ x).setCell ⟨g, 1, none⟩ y).setCell ⟨g, 2, none⟩ z) g t #[x, y, z] := ((h.set_ 0 x).set_ 1 y).set_ 2 z
end Go.Proofs.Ytbbdhlnldkkdbaa
