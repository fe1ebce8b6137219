/- Plain mathematics: the lines of a list of bytes. No condition. -/
namespace Go.Proofs.Ytbbdhlnldkkdbaa.Lines

/-- The bytes as a text. -/
def toB (l : List UInt8) : ByteArray := ⟨l.toArray⟩
theorem toB_list (l : List UInt8) : (toB l).data.toList = l := by simp [toB]
theorem toB_size (l : List UInt8) : (toB l).size = l.length := by simp [toB, ByteArray.size]
theorem toB_of (s : ByteArray) : toB s.data.toList = s := by cases s; simp [toB]
theorem eq_of_list {s t : ByteArray} (h : s.data.toList = t.data.toList) : s = t := by rw [← toB_of s, ← toB_of t, h]
theorem extract_list (s : ByteArray) (a b : Nat) : (s.extract a b).data.toList = (s.data.toList.drop a).take (b - a) := by
  simp [List.take_drop]

/-- Where the first newline is; the length if there is none. -/
def nlAt : List UInt8 → Nat
  | [] => 0
  | b :: t => if b = 10 then 0 else nlAt t + 1
theorem nlAt_le (l : List UInt8) : nlAt l ≤ l.length := by
  induction l with
  | nil => exact Nat.le_refl _
  | cons b t ih => rw [nlAt, List.length_cons]; split <;> omega
theorem nlAt_hit : ∀ (l : List UInt8) (k : Nat), k < l.length → k ≤ nlAt l → l.getD k 0 = 10 → nlAt l = k
  | [], _, h, _, _ => absurd h (Nat.not_lt_zero _)
  | b :: t, 0, _, _, h => by
    have : b = 10 := by simpa using h
    rw [nlAt, if_pos this]
  | b :: t, k + 1, h, h2, h3 => by
    rw [nlAt] at h2 ⊢
    by_cases e : b = 10
    · rw [if_pos e] at h2; omega
    · rw [if_neg e] at h2 ⊢
      rw [nlAt_hit t k (by simpa using h) (by omega) (by simpa using h3)]
theorem nlAt_step : ∀ (l : List UInt8) (k : Nat), k < l.length → k ≤ nlAt l → ¬ l.getD k 0 = 10 → k + 1 ≤ nlAt l
  | [], _, h, _, _ => absurd h (Nat.not_lt_zero _)
  | b :: t, 0, _, _, h => by
    have : ¬ b = 10 := by simpa using h
    rw [nlAt, if_neg this]; omega
  | b :: t, k + 1, h, h2, h3 => by
    rw [nlAt] at h2 ⊢
    by_cases e : b = 10
    · rw [if_pos e] at h2; omega
    · rw [if_neg e] at h2 ⊢
      have := nlAt_step t k (by simpa using h) (by omega) (by simpa using h3)
      omega
theorem nlAt_none (l : List UInt8) (h : nlAt l = l.length) : (10 : UInt8) ∉ l := by
  induction l with
  | nil => simp
  | cons b t ih =>
    rw [nlAt, List.length_cons] at h
    by_cases e : b = 10
    · rw [if_pos e] at h; omega
    · rw [if_neg e] at h
      have := ih (by omega)
      simp [this, Ne.symm e]

/-- The lines, each with its newline; the last one may lack it. -/
def linesL : List UInt8 → List (List UInt8)
  | [] => []
  | b :: t => if b = 10 then [b] :: linesL t else match linesL t with
    | [] => [[b]]
    | x :: r => (b :: x) :: r
theorem linesL_nil : linesL [] = [] := rfl
theorem linesL_ne {l : List UInt8} (h : l ≠ []) : linesL l ≠ [] := by
  cases l with
  | nil => exact absurd rfl h
  | cons b t => rw [linesL]; split
                · simp
                · split <;> simp
theorem linesL_cons : ∀ (l : List UInt8), l ≠ [] → linesL l = l.take (nlAt l + 1) :: linesL (l.drop (nlAt l + 1))
  | [], h => absurd rfl h
  | b :: t, _ => by
    rw [linesL, nlAt]
    by_cases e : b = 10
    · rw [if_pos e, if_pos e]; simp
    · rw [if_neg e, if_neg e]
      by_cases ht : t = []
      · subst ht; simp [linesL]
      · rw [linesL_cons t ht]; simp
theorem linesL_length : ∀ (l : List UInt8), l ≠ [] → (linesL l).length = (l.take (l.length - 1)).count 10 + 1
  | [], h => absurd rfl h
  | b :: t, _ => by
    rw [linesL]
    by_cases ht : t = []
    · subst ht; by_cases e : b = 10 <;> simp [e, linesL]
    · have ih := linesL_length t ht
      have hl : (b :: t).length - 1 = (t.length - 1) + 1 := by
        have : t.length ≠ 0 := fun h => ht (List.length_eq_zero_iff.1 h)
        simp; omega
      rw [hl, List.take_succ_cons, List.count_cons]
      by_cases e : b = 10
      · rw [if_pos e]; simp [ih, e]
      · rw [if_neg e]
        have hne := linesL_ne ht
        have hb : (b == 10) = false := by simpa using e
        rw [hb]
        cases hL : linesL t with
        | nil => exact absurd hL hne
        | cons x r => rw [hL] at ih; simp at ih ⊢; omega
theorem linesL_flat : ∀ (l : List UInt8), (linesL l).flatten = l
  | [] => rfl
  | b :: t => by
    have ih := linesL_flat t
    rw [linesL]
    by_cases e : b = 10
    · rw [if_pos e]; simp [ih]
    · rw [if_neg e]
      cases hL : linesL t with
      | nil => rw [hL] at ih; simp at ih ⊢; exact ih
      | cons x r => rw [hL] at ih; simp at ih ⊢; exact ih

/-- The parts behind newlines; what is behind the last one is a part, too. -/
def splitL : List UInt8 → List (List UInt8)
  | [] => [[]]
  | b :: t => if b = 10 then [b] :: splitL t else match splitL t with
    | [] => [[b]]
    | x :: r => (b :: x) :: r
/-- The parts, without an empty last one, are the lines. -/
theorem splitL_lines (l : List UInt8) : splitL l = linesL l ++ (if l = [] ∨ l.getLast? = some 10 then [[]] else []) := by
  induction l with
  | nil => simp [splitL, linesL]
  | cons b t ih =>
    rw [splitL, linesL]
    by_cases e : b = 10
    · rw [if_pos e, if_pos e, ih]
      by_cases ht : t = []
      · subst ht; simp [e]
      · have : (b :: t).getLast? = t.getLast? := by cases t with | nil => exact absurd rfl ht | cons c r => simp [List.getLast?_cons_cons]
        rw [this]; simp [ht]
    · rw [if_neg e, if_neg e, ih]
      by_cases ht : t = []
      · subst ht; simp [linesL, e]
      · have : (b :: t).getLast? = t.getLast? := by cases t with | nil => exact absurd rfl ht | cons c r => simp [List.getLast?_cons_cons]
        rw [this]
        cases hL : linesL t with
        | nil => exact absurd hL (linesL_ne ht)
        | cons x r => simp [ht]
end Go.Proofs.Ytbbdhlnldkkdbaa.Lines
