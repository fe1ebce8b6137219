/- Plain mathematics: lines, the greedy way through a box, scripts of operations, a stable sort in place. No condition. -/
set_option linter.unusedVariables false
set_option linter.unusedSimpArgs false
namespace Go.Proofs.YtgegialfhkgggaaGreatDoor.Lines

/-- The bytes as a text. -/
def toB (l : List UInt8) : ByteArray := ⟨l.toArray⟩
theorem toB_list (l : List UInt8) : (toB l).data.toList = l := by simp [toB]
theorem toB_size (l : List UInt8) : (toB l).size = l.length := by simp [toB, ByteArray.size]
theorem toB_of (s : ByteArray) : toB s.data.toList = s := by cases s; simp [toB]
theorem eq_of_list {s t : ByteArray} (h : s.data.toList = t.data.toList) : s = t := by rw [← toB_of s, ← toB_of t, h]
theorem extract_list (s : ByteArray) (a b : Nat) : (s.extract a b).data.toList = (s.data.toList.drop a).take (b - a) := by
  simp [List.take_drop]

/-- Where the first newline is; the length if there is none. -/
def nlAt : List UInt8 → Nat
  | [] => 0
  | b :: t => if b = 10 then 0 else nlAt t + 1
theorem nlAt_le (l : List UInt8) : nlAt l ≤ l.length := by
  induction l with
  | nil => exact Nat.le_refl _
  | cons b t ih => rw [nlAt, List.length_cons]; split <;> omega
theorem nlAt_hit : ∀ (l : List UInt8) (k : Nat), k < l.length → k ≤ nlAt l → l.getD k 0 = 10 → nlAt l = k
  | [], _, h, _, _ => absurd h (Nat.not_lt_zero _)
  | b :: t, 0, _, _, h => by
    have : b = 10 := by simpa using h
    rw [nlAt, if_pos this]
  | b :: t, k + 1, h, h2, h3 => by
    rw [nlAt] at h2 ⊢
    by_cases e : b = 10
    · rw [if_pos e] at h2; omega
    · rw [if_neg e] at h2 ⊢
      rw [nlAt_hit t k (by simpa using h) (by omega) (by simpa using h3)]
theorem nlAt_step : ∀ (l : List UInt8) (k : Nat), k < l.length → k ≤ nlAt l → ¬ l.getD k 0 = 10 → k + 1 ≤ nlAt l
  | [], _, h, _, _ => absurd h (Nat.not_lt_zero _)
  | b :: t, 0, _, _, h => by
    have : ¬ b = 10 := by simpa using h
    rw [nlAt, if_neg this]; omega
  | b :: t, k + 1, h, h2, h3 => by
    rw [nlAt] at h2 ⊢
    by_cases e : b = 10
    · rw [if_pos e] at h2; omega
    · rw [if_neg e] at h2 ⊢
      have := nlAt_step t k (by simpa using h) (by omega) (by simpa using h3)
      omega
theorem nlAt_none (l : List UInt8) (h : nlAt l = l.length) : (10 : UInt8) ∉ l := by
  induction l with
  | nil => simp
  | cons b t ih =>
    rw [nlAt, List.length_cons] at h
    by_cases e : b = 10
    · rw [if_pos e] at h; omega
    · rw [if_neg e] at h
      have := ih (by omega)
      simp [this, Ne.symm e]

/-- The lines, each with its newline; the last one may lack it. -/
def linesL : List UInt8 → List (List UInt8)
  | [] => []
  | b :: t => if b = 10 then [b] :: linesL t else match linesL t with
    | [] => [[b]]
    | x :: r => (b :: x) :: r
theorem linesL_nil : linesL [] = [] := rfl
theorem linesL_ne {l : List UInt8} (h : l ≠ []) : linesL l ≠ [] := by
  cases l with
  | nil => exact absurd rfl h
  | cons b t => rw [linesL]; split
                · simp
                · split <;> simp
theorem linesL_cons : ∀ (l : List UInt8), l ≠ [] → linesL l = l.take (nlAt l + 1) :: linesL (l.drop (nlAt l + 1))
  | [], h => absurd rfl h
  | b :: t, _ => by
    rw [linesL, nlAt]
    by_cases e : b = 10
    · rw [if_pos e, if_pos e]; simp
    · rw [if_neg e, if_neg e]
      by_cases ht : t = []
      · subst ht; simp [linesL]
      · rw [linesL_cons t ht]; simp
theorem linesL_length : ∀ (l : List UInt8), l ≠ [] → (linesL l).length = (l.take (l.length - 1)).count 10 + 1
  | [], h => absurd rfl h
  | b :: t, _ => by
    rw [linesL]
    by_cases ht : t = []
    · subst ht; by_cases e : b = 10 <;> simp [e, linesL]
    · have ih := linesL_length t ht
      have hl : (b :: t).length - 1 = (t.length - 1) + 1 := by
        have : t.length ≠ 0 := fun h => ht (List.length_eq_zero_iff.1 h)
        simp; omega
      rw [hl, List.take_succ_cons, List.count_cons]
      by_cases e : b = 10
      · rw [if_pos e]; simp [ih, e]
      · rw [if_neg e]
        have hne := linesL_ne ht
        have hb : (b == 10) = false := by simpa using e
        rw [hb]
        cases hL : linesL t with
        | nil => exact absurd hL hne
        | cons x r => rw [hL] at ih; simp at ih ⊢; omega
theorem linesL_flat : ∀ (l : List UInt8), (linesL l).flatten = l
  | [] => rfl
  | b :: t => by
    have ih := linesL_flat t
    rw [linesL]
    by_cases e : b = 10
    · rw [if_pos e]; simp [ih]
    · rw [if_neg e]
      cases hL : linesL t with
      | nil => rw [hL] at ih; simp at ih ⊢; exact ih
      | cons x r => rw [hL] at ih; simp at ih ⊢; exact ih

/-- The parts behind newlines; what is behind the last one is a part, too. -/
def splitL : List UInt8 → List (List UInt8)
  | [] => [[]]
  | b :: t => if b = 10 then [b] :: splitL t else match splitL t with
    | [] => [[b]]
    | x :: r => (b :: x) :: r
/-- The parts, without an empty last one, are the lines. -/
theorem splitL_lines (l : List UInt8) : splitL l = linesL l ++ (if l = [] ∨ l.getLast? = some 10 then [[]] else []) := by
  induction l with
  | nil => simp [splitL, linesL]
  | cons b t ih =>
    rw [splitL, linesL]
    by_cases e : b = 10
    · rw [if_pos e, if_pos e, ih]
      by_cases ht : t = []
      · subst ht; simp [e]
      · have : (b :: t).getLast? = t.getLast? := by cases t with | nil => exact absurd rfl ht | cons c r => simp [List.getLast?_cons_cons]
        rw [this]; simp [ht]
    · rw [if_neg e, if_neg e, ih]
      by_cases ht : t = []
      · subst ht; simp [linesL, e]
      · have : (b :: t).getLast? = t.getLast? := by cases t with | nil => exact absurd rfl ht | cons c r => simp [List.getLast?_cons_cons]
        rw [this]
        cases hL : linesL t with
        | nil => exact absurd hL (linesL_ne ht)
        | cons x r => simp [ht]
end Go.Proofs.YtgegialfhkgggaaGreatDoor.Lines
namespace Mye

/-- The diagonal run from column x on diagonal k, with fuel. -/
def slide (M N : Nat) (eq : Nat → Nat → Bool) (k : Int) : Nat → Int → Int
  | 0, x => x
  | n + 1, x => if x < M ∧ x - k < N ∧ eq x.toNat (x - k).toNat = true then slide M N eq k n (x + 1) else x

/-- The start of the run on diagonal k in round d + 1, of the values of round d. -/
def pick (f : Int → Int) (d : Int) (k : Int) : Int :=
  if k = -d ∨ (k ≠ d ∧ f (k - 1) < f (k + 1)) then f (k + 1) else f (k - 1) + 1

/-- The furthest column on diagonal k with d edits. -/
def FR (M N : Nat) (eq : Nat → Nat → Bool) : Nat → Int → Int
  | 0, k => slide M N eq k M 0
  | d + 1, k => slide M N eq k M (pick (FR M N eq d) ((d : Int) + 1) k)

section
variable {M N : Nat} {eq : Nat → Nat → Bool}

theorem slide_ge (k : Int) : ∀ (n : Nat) (x : Int), x ≤ slide M N eq k n x := by
  intro n
  induction n with
  | zero => intro x; simp [slide]
  | succ n ih =>
    intro x
    rw [slide]
    split
    · have := ih (x + 1); omega
    · omega

/-- A step of the run can be made at x. -/
def go (M N : Nat) (eq : Nat → Nat → Bool) (k x : Int) : Prop := x < M ∧ x - k < N ∧ eq x.toNat (x - k).toNat = true

instance (k x : Int) : Decidable (go M N eq k x) := by unfold go; exact inferInstance

theorem slide_succ (k : Int) (n : Nat) (x : Int) : slide M N eq k (n + 1) x = if go M N eq k x then slide M N eq k n (x + 1) else x := by
  rw [slide]; rfl

/-- The run ends where no step can be made, if the fuel is enough. -/
theorem slide_stop (k : Int) : ∀ (n : Nat) (x : Int), (M : Int) - x ≤ n → ¬ go M N eq k (slide M N eq k n x) := by
  intro n
  induction n with
  | zero => intro x h hg; simp only [slide] at hg; unfold go at hg; omega
  | succ n ih =>
    intro x h
    rw [slide_succ]
    split
    · exact ih _ (by omega)
    · assumption

/-- At every place of the run ahead of its end a step can be made. -/
theorem slide_mid (k : Int) : ∀ (n : Nat) (x z : Int), x ≤ z → z < slide M N eq k n x → go M N eq k z := by
  intro n
  induction n with
  | zero => intro x z h1 h2; simp only [slide] at h2; omega
  | succ n ih =>
    intro x z h1 h2
    rw [slide_succ] at h2
    split at h2
    · rcases Int.lt_or_eq_of_le h1 with h | h
      · exact ih _ z (by omega) h2
      · subst h; assumption
    · omega

/-- The run depends on its end alone. -/
theorem slide_unique {k : Int} {n : Nat} {x e : Int} (hn : (M : Int) - x ≤ n) (he : x ≤ e) (hstop : ¬ go M N eq k e) (hmid : ∀ z, x ≤ z → z < e → go M N eq k z) : slide M N eq k n x = e := by
  rcases Int.lt_trichotomy (slide M N eq k n x) e with h | h | h
  · exact absurd (hmid _ (slide_ge k n x) h) (slide_stop k n x hn)
  · exact h
  · exact absurd (slide_mid k n x e he h) hstop

theorem slide_mono {k : Int} {n : Nat} {x x' : Int} (hx : 0 ≤ x) (hn : M ≤ n) (h : x ≤ x') : slide M N eq k n x ≤ slide M N eq k n x' := by
  rcases Int.lt_or_le (slide M N eq k n x) x' with h1 | h1
  · have := slide_ge (M := M) (N := N) (eq := eq) k n x'; omega
  · rcases Int.lt_or_le (slide M N eq k n x') (slide M N eq k n x) with h2 | h2
    · have h3 := slide_mid k n x (slide M N eq k n x') (by have := slide_ge (M := M) (N := N) (eq := eq) k n x'; omega) h2
      exact absurd h3 (slide_stop k n x' (by omega))
    · exact h2

theorem pick_inner {f : Int → Int} {d k : Int} (h1 : k ≠ -d) (h2 : k ≠ d) : pick f d k = max (f (k + 1)) (f (k - 1) + 1) := by
  unfold pick
  split
  · rename_i h; rcases h with h | h <;> omega
  · rename_i h; simp only [not_or, not_and] at h; have := h.2 h2; omega

theorem pick_low {f : Int → Int} {d : Int} : pick f d (-d) = f (-d + 1) := by
  unfold pick; rw [if_pos (Or.inl rfl)]

theorem pick_high {f : Int → Int} {d : Int} (hd : 0 < d) : pick f d d = f (d - 1) + 1 := by
  unfold pick
  rw [if_neg]
  simp only [not_or, not_and, ne_eq, not_true_eq_false, false_implies, and_true]
  omega

/-- k is a diagonal of round d. -/
def inR (d : Nat) (k : Int) : Prop := -(d : Int) ≤ k ∧ k ≤ d ∧ (k - d) % 2 = 0

theorem FR_nonneg : ∀ (d : Nat) (k : Int), inR d k → 0 ≤ FR M N eq d k ∧ k ≤ FR M N eq d k := by
  intro d
  induction d with
  | zero =>
    intro k h
    unfold inR at h
    have := slide_ge (M := M) (N := N) (eq := eq) k M 0
    rw [FR]; omega
  | succ d ih =>
    intro k h
    unfold inR at h
    have hs := slide_ge (M := M) (N := N) (eq := eq) k M (pick (FR M N eq d) ((d : Int) + 1) k)
    rw [FR]
    rcases Decidable.em (k = -((d : Int) + 1)) with h1 | h1
    · subst h1
      rw [pick_low] at hs ⊢
      have := ih (-((d : Int) + 1) + 1) (by unfold inR; omega)
      omega
    · rcases Decidable.em (k = (d : Int) + 1) with h2 | h2
      · subst h2
        rw [pick_high (by omega)] at hs ⊢
        have := ih ((d : Int) + 1 - 1) (by unfold inR; omega)
        omega
      · rw [pick_inner h1 h2] at hs ⊢
        have a1 := ih (k + 1) (by unfold inR; omega)
        have a2 := ih (k - 1) (by unfold inR; omega)
        omega

/-- From round d to round d + 1: one to the right. -/
theorem FR_right {d : Nat} {k : Int} (h : inR d k) : FR M N eq d k + 1 ≤ FR M N eq (d + 1) (k + 1) := by
  unfold inR at h
  have hs := slide_ge (M := M) (N := N) (eq := eq) (k + 1) M (pick (FR M N eq d) ((d : Int) + 1) (k + 1))
  rw [FR]
  rcases Decidable.em (k + 1 = (d : Int) + 1) with h2 | h2
  · rw [h2, pick_high (by omega)] at hs ⊢
    have e : (d : Int) + 1 - 1 = k := by omega
    rw [e] at hs ⊢; omega
  · rw [pick_inner (by omega) h2] at hs ⊢
    have e : k + 1 - 1 = k := by omega
    rw [e] at hs ⊢; omega

/-- From round d to round d + 1: one down. -/
theorem FR_down {d : Nat} {k : Int} (h : inR d k) : FR M N eq d k ≤ FR M N eq (d + 1) (k - 1) := by
  unfold inR at h
  have hs := slide_ge (M := M) (N := N) (eq := eq) (k - 1) M (pick (FR M N eq d) ((d : Int) + 1) (k - 1))
  rw [FR]
  rcases Decidable.em (k - 1 = -((d : Int) + 1)) with h2 | h2
  · rw [h2, pick_low] at hs ⊢
    have e : -((d : Int) + 1) + 1 = k := by omega
    rw [e] at hs ⊢; omega
  · rw [pick_inner h2 (by omega)] at hs ⊢
    have e : k - 1 + 1 = k := by omega
    rw [e] at hs ⊢; omega

theorem FR_stop (d : Nat) (k : Int) (h : inR d k) : ¬ go M N eq k (FR M N eq d k) := by
  cases d with
  | zero => rw [FR]; exact slide_stop k M 0 (by omega)
  | succ d =>
    rw [FR]
    refine slide_stop k M _ ?_
    unfold inR at h
    rcases Decidable.em (k = -((d : Int) + 1)) with h1 | h1
    · subst h1
      rw [pick_low]
      have := FR_nonneg (M := M) (N := N) (eq := eq) d (-((d : Int) + 1) + 1) (by unfold inR; omega)
      omega
    · rcases Decidable.em (k = (d : Int) + 1) with h2 | h2
      · subst h2
        rw [pick_high (by omega)]
        have := FR_nonneg (M := M) (N := N) (eq := eq) d ((d : Int) + 1 - 1) (by unfold inR; omega)
        omega
      · rw [pick_inner h1 h2]
        have a1 := FR_nonneg (M := M) (N := N) (eq := eq) d (k + 1) (by unfold inR; omega)
        omega

/-- A way through the box with d edits. -/
inductive Path (M N : Nat) (eq : Nat → Nat → Bool) : Nat → Nat → Nat → Prop where
  | zero : Path M N eq 0 0 0
  | right {d x y : Nat} : Path M N eq d x y → x < M → Path M N eq (d + 1) (x + 1) y
  | down {d x y : Nat} : Path M N eq d x y → y < N → Path M N eq (d + 1) x (y + 1)
  | diag {d x y : Nat} : Path M N eq d x y → x < M → y < N → eq x y = true → Path M N eq d (x + 1) (y + 1)

/-- A way that may leave the box. -/
inductive Free (M N : Nat) (eq : Nat → Nat → Bool) : Nat → Nat → Nat → Prop where
  | zero : Free M N eq 0 0 0
  | right {d x y : Nat} : Free M N eq d x y → Free M N eq (d + 1) (x + 1) y
  | down {d x y : Nat} : Free M N eq d x y → Free M N eq (d + 1) x (y + 1)
  | diag {d x y : Nat} : Free M N eq d x y → x < M → y < N → eq x y = true → Free M N eq d (x + 1) (y + 1)

theorem Path.le {d x y : Nat} (h : Path M N eq d x y) : x ≤ M ∧ y ≤ N := by
  induction h <;> omega

theorem Path.inR {d x y : Nat} (h : Path M N eq d x y) : inR d ((x : Int) - y) := by
  unfold Mye.inR
  induction h <;> omega

theorem Free.inR {d x y : Nat} (h : Free M N eq d x y) : Mye.inR d ((x : Int) - y) := by
  unfold Mye.inR
  induction h <;> omega

/-- A way inside the box is no further than the furthest. -/
theorem Path.far {d x y : Nat} (h : Path M N eq d x y) : (x : Int) ≤ FR M N eq d ((x : Int) - y) := by
  induction h with
  | zero => exact (FR_nonneg 0 _ (by unfold Mye.inR; omega)).1
  | @right d x y h _ ih =>
    have := FR_right (M := M) (N := N) (eq := eq) h.inR
    have e : ((x + 1 : Nat) : Int) - y = (x : Int) - y + 1 := by omega
    rw [e]; omega
  | @down d x y h _ ih =>
    have := FR_down (M := M) (N := N) (eq := eq) h.inR
    have e : (x : Int) - ((y + 1 : Nat) : Int) = (x : Int) - y - 1 := by omega
    rw [e]; omega
  | @diag d x y h hx hy he ih =>
    have e : ((x + 1 : Nat) : Int) - ((y + 1 : Nat) : Int) = (x : Int) - y := by omega
    rw [e]
    rcases Int.lt_or_eq_of_le ih with h1 | h1
    · omega
    · refine absurd ?_ (FR_stop (M := M) (N := N) (eq := eq) d _ h.inR)
      rw [← h1]
      refine ⟨by omega, by omega, ?_⟩
      have e2 : ((x : Int) - ((x : Int) - y)).toNat = y := by omega
      rw [e2]; simpa using he

/-- Every place of a run of steps is reached. -/
theorem Free.run {d : Nat} {k : Int} : ∀ (m : Nat) (x : Int), 0 ≤ x → k ≤ x → Free M N eq d x.toNat (x - k).toNat → (∀ z, x ≤ z → z < x + m → go M N eq k z) → Free M N eq d (x + m).toNat (x + m - k).toNat := by
  intro m
  induction m with
  | zero => intro x _ _ h _; simpa using h
  | succ m ih =>
    intro x h0 hk h hz
    have h1 := ih x h0 hk h (fun z a b => hz z a (by omega))
    obtain ⟨g1, g2, g3⟩ := hz (x + m) (by omega) (by omega)
    have := Free.diag h1 (by omega) (by omega) g3
    have e1 : (x + (m + 1 : Nat)).toNat = (x + m).toNat + 1 := by omega
    have e2 : (x + (m + 1 : Nat) - k).toNat = (x + m - k).toNat + 1 := by omega
    rw [e1, e2]; exact this

theorem Free.slide {d : Nat} {k x : Int} {n : Nat} (h0 : 0 ≤ x) (hk : k ≤ x) (h : Free M N eq d x.toNat (x - k).toNat) : Free M N eq d (Mye.slide M N eq k n x).toNat (Mye.slide M N eq k n x - k).toNat := by
  have hs := slide_ge (M := M) (N := N) (eq := eq) k n x
  obtain ⟨m, hm⟩ : ∃ m : Nat, Mye.slide M N eq k n x = x + m := ⟨(Mye.slide M N eq k n x - x).toNat, by omega⟩
  have := Free.run m x h0 hk h (fun z a b => slide_mid k n x z a (by omega))
  rw [hm]; exact this

/-- The furthest point is reached, by a way that may leave the box. -/
theorem FR_free : ∀ (d : Nat) (k : Int), Mye.inR d k → Free M N eq d (FR M N eq d k).toNat (FR M N eq d k - k).toNat := by
  intro d
  induction d with
  | zero =>
    intro k h
    unfold Mye.inR at h
    have e : k = 0 := by omega
    subst e
    rw [FR]
    exact Free.slide (by omega) (by omega) (by simpa using Free.zero)
  | succ d ih =>
    intro k h
    unfold Mye.inR at h
    rw [FR]
    have hdown : Mye.inR d (k + 1) → Free M N eq (d + 1) (FR M N eq d (k + 1)).toNat (FR M N eq d (k + 1) - k).toNat := by
      intro hk
      have h1 := Free.down (ih (k + 1) hk)
      have := FR_nonneg (M := M) (N := N) (eq := eq) d (k + 1) hk
      have e : (FR M N eq d (k + 1) - k).toNat = (FR M N eq d (k + 1) - (k + 1)).toNat + 1 := by omega
      rw [e]; exact h1
    have hright : Mye.inR d (k - 1) → Free M N eq (d + 1) (FR M N eq d (k - 1) + 1).toNat (FR M N eq d (k - 1) + 1 - k).toNat := by
      intro hk
      have h1 := Free.right (ih (k - 1) hk)
      have := FR_nonneg (M := M) (N := N) (eq := eq) d (k - 1) hk
      have e : (FR M N eq d (k - 1) + 1 - k).toNat = (FR M N eq d (k - 1) - (k - 1)).toNat := by omega
      have e' : (FR M N eq d (k - 1) + 1).toNat = (FR M N eq d (k - 1)).toNat + 1 := by omega
      rw [e, e']; exact h1
    have n1 : Mye.inR d (k + 1) → 0 ≤ FR M N eq d (k + 1) ∧ k + 1 ≤ FR M N eq d (k + 1) := FR_nonneg d _
    have n2 : Mye.inR d (k - 1) → 0 ≤ FR M N eq d (k - 1) ∧ k - 1 ≤ FR M N eq d (k - 1) := FR_nonneg d _
    unfold Mye.inR at n1 n2 hdown hright
    unfold pick
    split
    · rename_i hc
      have hk : -(d : Int) ≤ k + 1 ∧ k + 1 ≤ d ∧ (k + 1 - d) % 2 = 0 := by
        rcases hc with hc | hc <;> omega
      have := n1 hk
      exact Free.slide (by omega) (by omega) (hdown hk)
    · rename_i hc
      have hk : -(d : Int) ≤ k - 1 ∧ k - 1 ≤ d ∧ (k - 1 - d) % 2 = 0 := by
        simp only [not_or] at hc; omega
      have := n2 hk
      exact Free.slide (by omega) (by omega) (hright hk)

/-- A way that leaves the box is made shorter inside it. -/
theorem Free.clamp {d x y : Nat} (h : Free M N eq d x y) : ∃ e, Path M N eq e (min x M) (min y N) ∧ e + (x - M) + (y - N) ≤ d := by
  induction h with
  | zero => exact ⟨0, by simpa using Path.zero, by omega⟩
  | @right d x y _ ih =>
    obtain ⟨e, p, hl⟩ := ih
    rcases Nat.lt_or_ge x M with h | h
    · refine ⟨e + 1, ?_, by omega⟩
      have e1 : min (x + 1) M = min x M + 1 := by omega
      rw [e1]; exact Path.right p (by omega)
    · refine ⟨e, ?_, by omega⟩
      have e1 : min (x + 1) M = min x M := by omega
      rw [e1]; exact p
  | @down d x y _ ih =>
    obtain ⟨e, p, hl⟩ := ih
    rcases Nat.lt_or_ge y N with h | h
    · refine ⟨e + 1, ?_, by omega⟩
      have e1 : min (y + 1) N = min y N + 1 := by omega
      rw [e1]; exact Path.down p (by omega)
    · refine ⟨e, ?_, by omega⟩
      have e1 : min (y + 1) N = min y N := by omega
      rw [e1]; exact p
  | @diag d x y _ hx hy he ih =>
    obtain ⟨e, p, hl⟩ := ih
    have e1 : min x M = x := by omega
    have e2 : min y N = y := by omega
    rw [e1, e2] at p
    refine ⟨e, ?_, by omega⟩
    have e3 : min (x + 1) M = x + 1 := by omega
    have e4 : min (y + 1) N = y + 1 := by omega
    rw [e3, e4]; exact Path.diag p hx hy he

theorem Path.rights : ∀ n, n ≤ M → Path M N eq n n 0 := by
  intro n
  induction n with
  | zero => intro _; exact Path.zero
  | succ n ih => intro h; exact Path.right (ih (by omega)) (by omega)

theorem Path.downs : ∀ n, n ≤ N → Path M N eq (M + n) M n := by
  intro n
  induction n with
  | zero => intro _; exact Path.rights M (Nat.le_refl _)
  | succ n ih => intro h; exact Path.down (ih (by omega)) (by omega)

/-- The round d comes to the end of both texts: at diagonal M - N. -/
def hit (M N : Nat) (eq : Nat → Nat → Bool) (d : Nat) : Prop := inR d ((M : Int) - N) ∧ FR M N eq d ((M : Int) - N) = M

instance (d : Nat) : Decidable (hit M N eq d) := by unfold hit inR; exact inferInstance

/-- The least round in which the end is reached or passed hits it exactly; every way through the box has as many edits at least. -/
theorem least_hit : ∃ D, D ≤ M + N ∧ hit M N eq D ∧ (∀ d, d < D → ¬ hit M N eq d) ∧ Path M N eq D M N ∧ ∀ e, Path M N eq e M N → D ≤ e := by
  have hex : ∃ d, inR d ((M : Int) - N) ∧ (M : Int) ≤ FR M N eq d ((M : Int) - N) := by
    have p := Path.downs (M := M) (N := N) (eq := eq) N (Nat.le_refl _)
    exact ⟨M + N, p.inR, p.far⟩
  have hmin : ∃ D, (inR D ((M : Int) - N) ∧ (M : Int) ≤ FR M N eq D ((M : Int) - N)) ∧ ∀ d, d < D → ¬ (inR d ((M : Int) - N) ∧ (M : Int) ≤ FR M N eq d ((M : Int) - N)) := by
    obtain ⟨d, hd⟩ := hex
    have : ∀ n, ∀ d, d ≤ n → (inR d ((M : Int) - N) ∧ (M : Int) ≤ FR M N eq d ((M : Int) - N)) → ∃ D, (inR D ((M : Int) - N) ∧ (M : Int) ≤ FR M N eq D ((M : Int) - N)) ∧ ∀ d, d < D → ¬ (inR d ((M : Int) - N) ∧ (M : Int) ≤ FR M N eq d ((M : Int) - N)) := by
      intro n
      induction n with
      | zero =>
        intro d h1 h2
        exact ⟨d, h2, fun e he => by omega⟩
      | succ n ih =>
        intro d h1 h2
        rcases Classical.em (∃ e, e < d ∧ (inR e ((M : Int) - N) ∧ (M : Int) ≤ FR M N eq e ((M : Int) - N))) with ⟨e, he, h3⟩ | hno
        · exact ih e (by omega) h3
        · exact ⟨d, h2, fun e he h3 => hno ⟨e, he, h3⟩⟩
    exact this d d (Nat.le_refl _) hd
  obtain ⟨D, ⟨hin, hge⟩, hlt⟩ := hmin
  have hlow : ∀ e, Path M N eq e M N → D ≤ e := by
    intro e p
    rcases Nat.lt_or_ge e D with h | h
    · exact absurd ⟨p.inR, p.far⟩ (hlt e h)
    · exact h
  have hfree := FR_free (M := M) (N := N) (eq := eq) D _ hin
  obtain ⟨e, p, hle⟩ := hfree.clamp
  have hM : min (FR M N eq D ((M : Int) - N)).toNat M = M := by omega
  have hN : min (FR M N eq D ((M : Int) - N) - ((M : Int) - N)).toNat N = N := by omega
  rw [hM, hN] at p
  have h1 := hlow e p
  have hDe : e = D := by omega
  subst hDe
  refine ⟨e, hlow _ (Path.downs N (Nat.le_refl _)), ⟨hin, by omega⟩, ?_, p, hlow⟩
  intro d hd hh
  exact hlt d hd ⟨hh.1, by rw [hh.2]; omega⟩

end
end Mye
namespace Mye

/-- A row of the table out of the row above it. -/
def nextRow (e : Nat → Bool) (f : Nat → Nat) : Nat → Nat
  | 0 => 0
  | j + 1 => if e j = true then f j + 1 else max (f (j + 1)) (nextRow e f j)

/-- The length of a longest common list of the first i and the first j lines. -/
def lcs (eq : Nat → Nat → Bool) : Nat → Nat → Nat
  | 0 => fun _ => 0
  | i + 1 => nextRow (eq i) (lcs eq i)

section
variable {M N : Nat} {eq : Nat → Nat → Bool}

theorem lcs_zero_left (j : Nat) : lcs eq 0 j = 0 := rfl
theorem lcs_zero_right (i : Nat) : lcs eq i 0 = 0 := by cases i <;> rfl
theorem lcs_succ (i j : Nat) : lcs eq (i + 1) (j + 1) = if eq i j = true then lcs eq i j + 1 else max (lcs eq i (j + 1)) (lcs eq (i + 1) j) := rfl

theorem lcs_steps : ∀ n i j, i + j ≤ n → lcs eq i j ≤ lcs eq (i + 1) j ∧ lcs eq i j ≤ lcs eq i (j + 1) ∧ lcs eq (i + 1) j ≤ lcs eq i j + 1 ∧ lcs eq i (j + 1) ≤ lcs eq i j + 1 := by
  intro n
  induction n with
  | zero =>
    intro i j h
    have hi : i = 0 := by omega
    have hj : j = 0 := by omega
    subst hi; subst hj
    simp [lcs_zero_left, lcs_zero_right]
  | succ n ih =>
    intro i j h
    match i, j with
    | 0, j => simp [lcs_zero_left]; cases j with
      | zero => simp [lcs_zero_right]
      | succ j =>
        rw [lcs_succ]
        have := ih 0 j (by omega)
        simp [lcs_zero_left] at this ⊢
        split <;> omega
    | i + 1, 0 =>
      simp [lcs_zero_right]
      rw [lcs_succ]
      have := ih i 0 (by omega)
      simp [lcs_zero_right] at this ⊢
      split <;> omega
    | i + 1, j + 1 =>
      have a := ih i (j + 1) (by omega)
      have b := ih (i + 1) j (by omega)
      have c := ih i j (by omega)
      have e1 := lcs_succ (eq := eq) i j
      have e2 := lcs_succ (eq := eq) (i + 1) j
      have e3 := lcs_succ (eq := eq) i (j + 1)
      split at e1 <;> split at e2 <;> split at e3 <;> omega

theorem lcs_right (i j : Nat) : lcs eq i j ≤ lcs eq (i + 1) j := (lcs_steps (i + j) i j (Nat.le_refl _)).1
theorem lcs_down (i j : Nat) : lcs eq i j ≤ lcs eq i (j + 1) := (lcs_steps (i + j) i j (Nat.le_refl _)).2.1

theorem Path.lcs_low {d x y : Nat} (h : Path M N eq d x y) : x + y ≤ d + 2 * lcs eq x y := by
  induction h with
  | zero => omega
  | @right d x y _ _ ih => have := lcs_right (eq := eq) x y; omega
  | @down d x y _ _ ih => have := lcs_down (eq := eq) x y; omega
  | @diag d x y _ _ _ he ih => rw [lcs_succ, if_pos he]; omega

theorem Path.lcs_high : ∀ n x y, x + y ≤ n → x ≤ M → y ≤ N → ∃ e, Path M N eq e x y ∧ e + 2 * lcs eq x y = x + y := by
  intro n
  induction n with
  | zero =>
    intro x y h _ _
    have hx : x = 0 := by omega
    have hy : y = 0 := by omega
    subst hx; subst hy
    exact ⟨0, Path.zero, by simp [lcs_zero_left]⟩
  | succ n ih =>
    intro x y h hx hy
    match x, y with
    | 0, 0 => exact ⟨0, Path.zero, by simp [lcs_zero_left]⟩
    | 0, y + 1 =>
      obtain ⟨e, p, he⟩ := ih 0 y (by omega) hx (by omega)
      exact ⟨e + 1, Path.down p (by omega), by simp [lcs_zero_left] at he ⊢; omega⟩
    | x + 1, 0 =>
      obtain ⟨e, p, he⟩ := ih x 0 (by omega) (by omega) hy
      exact ⟨e + 1, Path.right p (by omega), by simp [lcs_zero_right] at he ⊢; omega⟩
    | x + 1, y + 1 =>
      rcases Decidable.em (eq x y = true) with hq | hq
      · obtain ⟨e, p, he⟩ := ih x y (by omega) (by omega) (by omega)
        exact ⟨e, Path.diag p (by omega) (by omega) hq, by rw [lcs_succ, if_pos hq]; omega⟩
      · rcases Nat.le_total (lcs eq x (y + 1)) (lcs eq (x + 1) y) with hm | hm
        · obtain ⟨e, p, he⟩ := ih (x + 1) y (by omega) hx (by omega)
          exact ⟨e + 1, Path.down p (by omega), by rw [lcs_succ, if_neg hq]; omega⟩
        · obtain ⟨e, p, he⟩ := ih x (y + 1) (by omega) (by omega) hy
          exact ⟨e + 1, Path.right p (by omega), by rw [lcs_succ, if_neg hq]; omega⟩

/-- The first round that hits the end has M + N - 2 lcs edits. -/
theorem hit_lcs {D : Nat} (hp : Path M N eq D M N) (hl : ∀ e, Path M N eq e M N → D ≤ e) : D + 2 * lcs eq M N = M + N := by
  obtain ⟨e, p, he⟩ := Path.lcs_high (eq := eq) (M + N) M N (Nat.le_refl _) (Nat.le_refl _) (Nat.le_refl _)
  have h1 := hl e p
  have h2 := hp.lcs_low
  omega

end
end Mye
namespace Mye

/-- The diagonal from which diagonal k of round d comes. -/
def prevK (f : Int → Int) (d k : Int) : Int := if k = -d ∨ (k ≠ d ∧ f (k - 1) < f (k + 1)) then k + 1 else k - 1

section
variable {M N : Nat} {eq : Nat → Nat → Bool}

/-- From a place on, a run of m equal lines. -/
def Run (eq : Nat → Nat → Bool) (x y m : Nat) : Prop := ∀ i, i < m → eq (x + i) (y + i) = true
/-- One edit, and a run. -/
def Step (eq : Nat → Nat → Bool) (x' y' x y : Nat) : Prop :=
  (∃ m, x = x' + 1 + m ∧ y = y' + m ∧ Run eq (x' + 1) y' m) ∨ (∃ m, x = x' + m ∧ y = y' + 1 + m ∧ Run eq x' (y' + 1) m)

theorem run_of_go {k s e : Int} (h0 : 0 ≤ s) (hk : k ≤ s) (h : ∀ z, s ≤ z → z < e → go M N eq k z) : Run eq s.toNat (s - k).toNat (e - s).toNat := by
  intro i hi
  have hg := (h (s + i) (by omega) (by omega)).2.2
  have e1 : (s + (i : Int)).toNat = s.toNat + i := by omega
  have e2 : (s + (i : Int) - k).toNat = (s - k).toNat + i := by omega
  rw [e1, e2] at hg
  exact hg

theorem FR_inner {d : Nat} {k : Int} (h : inR d k) (h1 : k ≠ -(d : Int)) (h2 : k ≠ d) : 1 ≤ FR M N eq d k ∧ k + 1 ≤ FR M N eq d k := by
  obtain ⟨e, rfl⟩ : ∃ e, d = e + 1 := ⟨d - 1, by unfold inR at h; omega⟩
  have i1 : inR e (k - 1) := by unfold inR at h ⊢; omega
  have i2 : inR e (k + 1) := by unfold inR at h ⊢; omega
  have a1 := FR_right (M := M) (N := N) (eq := eq) i1
  have a2 := FR_down (M := M) (N := N) (eq := eq) i2
  have b1 := FR_nonneg (M := M) (N := N) (eq := eq) e _ i1
  have b2 := FR_nonneg (M := M) (N := N) (eq := eq) e _ i2
  rw [show k - 1 + 1 = k by omega] at a1
  rw [show k + 1 - 1 = k by omega] at a2
  omega

/-- One step back. -/
theorem back_step {d : Nat} {k : Int} (h : inR (d + 1) k) :
    inR d (prevK (FR M N eq d) ((d : Int) + 1) k) ∧
    ∃ x' y' x y : Nat, (x' : Int) = FR M N eq d (prevK (FR M N eq d) ((d : Int) + 1) k) ∧ (y' : Int) = x' - prevK (FR M N eq d) ((d : Int) + 1) k ∧
      (x : Int) = FR M N eq (d + 1) k ∧ (y : Int) = x - k ∧ Step eq x' y' x y := by
  have hnn := FR_nonneg (M := M) (N := N) (eq := eq) (d + 1) k h
  have hmid := slide_mid (M := M) (N := N) (eq := eq) k M (pick (FR M N eq d) ((d : Int) + 1) k)
  have hge := slide_ge (M := M) (N := N) (eq := eq) k M (pick (FR M N eq d) ((d : Int) + 1) k)
  have hFR : FR M N eq (d + 1) k = slide M N eq k M (pick (FR M N eq d) ((d : Int) + 1) k) := rfl
  rw [← hFR] at hmid hge
  unfold prevK
  unfold pick at hmid hge
  by_cases hc : k = -((d : Int) + 1) ∨ (k ≠ (d : Int) + 1 ∧ FR M N eq d (k - 1) < FR M N eq d (k + 1))
  · rw [if_pos hc] at hmid hge ⊢
    have hi : inR d (k + 1) := by unfold inR at h ⊢; omega
    have hb := FR_nonneg (M := M) (N := N) (eq := eq) d _ hi
    have hr := run_of_go (M := M) (N := N) (eq := eq) (k := k) (s := FR M N eq d (k + 1)) (e := FR M N eq (d + 1) k) (by omega) (by omega) hmid
    refine ⟨hi, (FR M N eq d (k + 1)).toNat, (FR M N eq d (k + 1) - (k + 1)).toNat, (FR M N eq (d + 1) k).toNat, (FR M N eq (d + 1) k - k).toNat, by omega, by omega, by omega, by omega, Or.inr ⟨(FR M N eq (d + 1) k - FR M N eq d (k + 1)).toNat, by omega, by omega, ?_⟩⟩
    rw [show (FR M N eq d (k + 1) - (k + 1)).toNat + 1 = (FR M N eq d (k + 1) - k).toNat by omega]
    exact hr
  · rw [if_neg hc] at hmid hge ⊢
    have hi : inR d (k - 1) := by unfold inR at h ⊢; omega
    have hb := FR_nonneg (M := M) (N := N) (eq := eq) d _ hi
    have hr := run_of_go (M := M) (N := N) (eq := eq) (k := k) (s := FR M N eq d (k - 1) + 1) (e := FR M N eq (d + 1) k) (by omega) (by omega) hmid
    refine ⟨hi, (FR M N eq d (k - 1)).toNat, (FR M N eq d (k - 1) - (k - 1)).toNat, (FR M N eq (d + 1) k).toNat, (FR M N eq (d + 1) k - k).toNat, by omega, by omega, by omega, by omega, Or.inl ⟨(FR M N eq (d + 1) k - (FR M N eq d (k - 1) + 1)).toNat, by omega, by omega, ?_⟩⟩
    rw [show (FR M N eq d (k - 1)).toNat + 1 = (FR M N eq d (k - 1) + 1).toNat by omega, show (FR M N eq d (k - 1) - (k - 1)).toNat = (FR M N eq d (k - 1) + 1 - k).toNat by omega]
    exact hr

/-- Where the way back ends: at an edge, after edits of one kind, or behind a run from the beginning. -/
def Start (eq : Nat → Nat → Bool) (d x y : Nat) : Prop := (x = 0 ∧ y = d) ∨ (x = d ∧ y = 0) ∨ (d = 0 ∧ x = y ∧ Run eq 0 0 x)
theorem back_start {d x y : Nat} {k : Int} (h : inR d k) (hx : (x : Int) = FR M N eq d k) (hy : (y : Int) = x - k) (he : x = 0 ∨ y = 0 ∨ d = 0) : Start eq d x y := by
  by_cases hd : d = 0
  · subst hd
    have hk : k = 0 := by unfold inR at h; omega
    subst hk
    have hm := slide_mid (M := M) (N := N) (eq := eq) 0 M 0
    have hr := run_of_go (M := M) (N := N) (eq := eq) (k := 0) (s := 0) (e := FR M N eq 0 0) (by omega) (by omega) hm
    refine Or.inr (Or.inr ⟨rfl, by omega, ?_⟩)
    rw [← hx] at hr
    simpa using hr
  · have hi := h
    unfold inR at hi
    by_cases h1 : k = -(d : Int)
    · by_cases h2 : x = 0
      · exact Or.inl ⟨h2, by omega⟩
      · have hnn := FR_nonneg (M := M) (N := N) (eq := eq) d k h
        omega
    · by_cases h2 : k = (d : Int)
      · have hnn := FR_nonneg (M := M) (N := N) (eq := eq) d k h
        exact Or.inr (Or.inl ⟨by omega, by omega⟩)
      · have := FR_inner (M := M) (N := N) (eq := eq) h h1 h2
        omega

/-- The places of the way back: place d is told from round s on, up to round D. -/
def Way (M N : Nat) (eq : Nat → Nat → Bool) (s D : Nat) (P : Nat → Nat × Nat) : Prop :=
  s ≤ D ∧ Start eq s (P s).1 (P s).2 ∧ P D = (M, N) ∧ ∀ d, s ≤ d → d < D → Step eq (P d).1 (P d).2 (P (d + 1)).1 (P (d + 1)).2
theorem Way.le {s D : Nat} {P : Nat → Nat × Nat} (h : Way M N eq s D P) : ∀ n d, d + n = D → s ≤ d → (P d).1 ≤ M ∧ (P d).2 ≤ N
  | 0, d, hd, hs => by
    have : d = D := by omega
    subst this
    rw [h.2.2.1]; exact ⟨Nat.le_refl _, Nat.le_refl _⟩
  | n + 1, d, hd, hs => by
    have ih := Way.le h n (d + 1) (by omega) (by omega)
    rcases h.2.2.2 d hs (by omega) with ⟨m, h1, h2, _⟩ | ⟨m, h1, h2, _⟩ <;> omega
/-- Ahead of round D the end isn't reached. -/
theorem Way.not_end {s D : Nat} {P : Nat → Nat × Nat} (h : Way M N eq s D P) {d : Nat} (hs : s ≤ d) (hd : d < D) : ¬ ((P d).1 = M ∧ (P d).2 = N) := by
  rintro ⟨h1, h2⟩
  have hl := Way.le h (D - (d + 1)) (d + 1) (by omega) (by omega)
  rcases h.2.2.2 d hs hd with ⟨m, e1, e2, _⟩ | ⟨m, e1, e2, _⟩ <;> omega

/-- An operation: lines i1 to i2 of the old text are left out, at line j1 of the new one; or lines j1 to j2 of the new text are put in ahead of line i1. -/
inductive Opn where
  | del (i1 i2 j1 : Nat)
  | ins (i1 j1 j2 : Nat)
/-- A list of operations that leads from the beginning to a place. -/
inductive Script (eq : Nat → Nat → Bool) : List Opn → Nat → Nat → Prop where
  | nil : Script eq [] 0 0
  | del {l : List Opn} {x y n : Nat} : Script eq l x y → 0 < n → Script eq (l ++ [Opn.del x (x + n) y]) (x + n) y
  | ins {l : List Opn} {x y n : Nat} : Script eq l x y → 0 < n → Script eq (l ++ [Opn.ins x y (y + n)]) x (y + n)
  | diag {l : List Opn} {x y : Nat} : Script eq l x y → eq x y = true → Script eq l (x + 1) (y + 1)
/-- How many lines are left out and put in. -/
def cost : List Opn → Nat
  | [] => 0
  | .del a b _ :: l => (b - a) + cost l
  | .ins _ a b :: l => (b - a) + cost l
theorem cost_append (l r : List Opn) : cost (l ++ r) = cost l + cost r := by
  induction l with
  | nil => simp [cost]
  | cons o l ih => cases o <;> simp [cost, ih, Nat.add_assoc]
theorem Script.run {l : List Opn} {x y : Nat} (h : Script eq l x y) : ∀ m, Run eq x y m → Script eq l (x + m) (y + m)
  | 0, _ => h
  | m + 1, hr => (Script.run h m (fun i hi => hr i (by omega))).diag (hr m (by omega))

/-- The operation from one place to the next. -/
def opOf (x' y' x y : Nat) : List Opn :=
  if (x' : Int) - y' < (x : Int) - y then [Opn.del x' (x' + ((x : Int) - y - (x' - y')).toNat) y']
  else if (x : Int) - y < (x' : Int) - y' then [Opn.ins x' y' (y' + ((x' : Int) - y' - (x - y)).toNat)] else []
/-- The operations of the way up to place d. -/
def opsTo (P : Nat → Nat × Nat) (s : Nat) : Nat → List Opn
  | 0 => opOf 0 0 (P s).1 (P s).2
  | n + 1 => opsTo P s n ++ opOf (P (s + n)).1 (P (s + n)).2 (P (s + n + 1)).1 (P (s + n + 1)).2
theorem opsTo_script {s D : Nat} {P : Nat → Nat × Nat} (h : Way M N eq s D P) : ∀ n, s + n ≤ D → Script eq (opsTo P s n) (P (s + n)).1 (P (s + n)).2 ∧ cost (opsTo P s n) = s + n
  | 0, _ => by
    rw [opsTo, Nat.add_zero]
    have hs := h.2.1
    generalize (P s).1 = x at *
    generalize (P s).2 = y at *
    unfold opOf
    rcases hs with ⟨rfl, rfl⟩ | ⟨rfl, rfl⟩ | ⟨rfl, rfl, hr⟩
    · by_cases h0 : y = 0
      · subst h0
        rw [if_neg (by omega), if_neg (by omega)]
        exact ⟨Script.nil, rfl⟩
      · rw [if_neg (by omega), if_pos (by omega)]
        have e : (((0 : Nat) : Int) - ((0 : Nat) : Int) - (((0 : Nat) : Int) - (y : Int))).toNat = y := by omega
        rw [e]
        have := (Script.nil (eq := eq)).ins (n := y) (by omega)
        rw [Nat.zero_add] at this ⊢
        exact ⟨this, by simp [cost]⟩
    · by_cases h0 : x = 0
      · subst h0
        rw [if_neg (by omega), if_neg (by omega)]
        exact ⟨Script.nil, rfl⟩
      · rw [if_pos (by omega)]
        have e : ((x : Int) - ((0 : Nat) : Int) - (((0 : Nat) : Int) - ((0 : Nat) : Int))).toNat = x := by omega
        rw [e]
        have := (Script.nil (eq := eq)).del (n := x) (by omega)
        rw [Nat.zero_add] at this ⊢
        exact ⟨this, by simp [cost]⟩
    · rw [if_neg (by omega), if_neg (by omega)]
      have := (Script.nil (eq := eq)).run x hr
      rw [Nat.zero_add] at this
      exact ⟨this, rfl⟩
  | n + 1, hn => by
    obtain ⟨ih, ic⟩ := opsTo_script h n (by omega)
    have hst := h.2.2.2 (s + n) (by omega) (by omega)
    rw [opsTo, ← Nat.add_assoc]
    generalize (P (s + n)).1 = x' at *
    generalize (P (s + n)).2 = y' at *
    generalize (P (s + n + 1)).1 = x at *
    generalize (P (s + n + 1)).2 = y at *
    rw [cost_append, ic]
    unfold opOf
    rcases hst with ⟨m, rfl, rfl, hr⟩ | ⟨m, rfl, rfl, hr⟩
    · rw [if_pos (by omega)]
      have e : (((x' + 1 + m : Nat) : Int) - ((y' + m : Nat) : Int) - ((x' : Int) - y')).toNat = 1 := by omega
      rw [e]
      exact ⟨(ih.del (by omega)).run m hr, by simp [cost]⟩
    · rw [if_neg (by omega), if_pos (by omega)]
      have e : ((x' : Int) - y' - (((x' + m : Nat) : Int) - ((y' + 1 + m : Nat) : Int))).toNat = 1 := by omega
      rw [e]
      exact ⟨(ih.ins (by omega)).run m hr, by simp [cost]⟩
end
end Mye
namespace Go.Proofs.YtgegialfhkgggaaGreatDoor.Lines
open Mye

/-- Where line i begins. -/
def off (A : List (List UInt8)) (i : Nat) : Nat := ((A.take i).flatten).length
theorem off_zero (A : List (List UInt8)) : off A 0 = 0 := rfl
theorem off_succ (A : List (List UInt8)) (i : Nat) (h : i < A.length) : off A (i + 1) = off A i + A[i].length := by
  unfold off; rw [List.take_succ_eq_append_getElem h, List.flatten_append, List.length_append]; simp only [List.flatten_cons, List.flatten_nil, List.append_nil]
theorem off_all (A : List (List UInt8)) : off A A.length = A.flatten.length := by unfold off; rw [List.take_length]
theorem off_mono (A : List (List UInt8)) (i : Nat) : ∀ j, i ≤ j → off A i ≤ off A j := by
  intro j h
  unfold off
  rw [show A.take i = (A.take j).take i from by rw [List.take_take, Nat.min_eq_left h]]
  have : ((A.take j).take i).flatten.length ≤ (A.take j).flatten.length := by
    conv => rhs; rw [← List.take_append_drop i (A.take j)]
    rw [List.flatten_append, List.length_append]; omega
  exact this
theorem take_off (A : List (List UInt8)) (i : Nat) : A.flatten.take (off A i) = (A.take i).flatten := by
  have : A.flatten = (A.take i).flatten ++ (A.drop i).flatten := by rw [← List.flatten_append, List.take_append_drop]
  rw [this]
  unfold off
  rw [List.take_left]
theorem drop_off (A : List (List UInt8)) (i : Nat) : A.flatten.drop (off A i) = (A.drop i).flatten := by
  have : A.flatten = (A.take i).flatten ++ (A.drop i).flatten := by rw [← List.flatten_append, List.take_append_drop]
  rw [this]
  unfold off
  rw [List.drop_left]

/-- An edit at offsets. -/
structure EdO where
  s : Nat
  e : Nat
  t : List UInt8
/-- One edit on: what is written, and how far the old text is read. -/
def appS (l : List UInt8) (p : List UInt8 × Nat) (x : EdO) : List UInt8 × Nat :=
  ((if p.2 < x.s then p.1 ++ (l.drop p.2).take (x.s - p.2) else p.1) ++ x.t, x.e)
/-- The text behind edits. -/
def appL (l : List UInt8) (es : List EdO) : List UInt8 :=
  let p := es.foldl (appS l) ([], 0)
  if p.2 < l.length then p.1 ++ l.drop p.2 else p.1
/-- An operation as an edit at offsets. -/
def opE (A B : List (List UInt8)) : Opn → EdO
  | .del i1 i2 _ => ⟨off A i1, off A i2, []⟩
  | .ins i j1 j2 => ⟨off A i, off A i, ((B.drop j1).take (j2 - j1)).flatten⟩

theorem slice_off (l : List UInt8) {a b c : Nat} (h : a ≤ b) (h2 : b ≤ c) : (l.drop a).take (c - a) = (l.drop a).take (b - a) ++ (l.drop b).take (c - b) := by
  have e : c - a = (b - a) + (c - b) := by omega
  rw [e, List.take_add, List.drop_drop, show a + (b - a) = b by omega]

theorem script_app {A B : List (List UInt8)} {eq : Nat → Nat → Bool} (heq : ∀ i j (hi : i < A.length) (hj : j < B.length), eq i j = true → A[i] = B[j])
    {ops : List Opn} {x y : Nat} (h : Script eq ops x y) : x ≤ A.length → y ≤ B.length →
    ((ops.map (opE A B)).foldl (appS A.flatten) ([], 0)).2 ≤ off A x ∧
    ((ops.map (opE A B)).foldl (appS A.flatten) ([], 0)).1 ++ (A.flatten.drop ((ops.map (opE A B)).foldl (appS A.flatten) ([], 0)).2).take (off A x - ((ops.map (opE A B)).foldl (appS A.flatten) ([], 0)).2) = (B.take y).flatten := by
  induction h with
  | nil => intro _ _; simp [off]
  | @del l x y n hs hn ih =>
    intro hx hy
    obtain ⟨i1, i2⟩ := ih (by omega) hy
    rw [List.map_append, List.foldl_append]
    generalize (l.map (opE A B)).foldl (appS A.flatten) ([], 0) = p at *
    simp only [List.map_cons, List.map_nil, List.foldl_cons, List.foldl_nil, appS, opE, List.append_nil]
    refine ⟨Nat.le_refl _, ?_⟩
    rw [Nat.sub_self, List.take_zero, List.append_nil]
    by_cases hlt : p.2 < off A x
    · rw [if_pos hlt]; exact i2
    · rw [if_neg hlt]
      have : off A x - p.2 = 0 := by omega
      rw [this, List.take_zero, List.append_nil] at i2
      exact i2
  | @ins l x y n hs hn ih =>
    intro hx hy
    obtain ⟨i1, i2⟩ := ih hx (by omega)
    rw [List.map_append, List.foldl_append]
    generalize (l.map (opE A B)).foldl (appS A.flatten) ([], 0) = p at *
    simp only [List.map_cons, List.map_nil, List.foldl_cons, List.foldl_nil, appS, opE]
    refine ⟨Nat.le_refl _, ?_⟩
    rw [Nat.sub_self, List.take_zero, List.append_nil]
    have hb : (B.take (y + n)).flatten = (B.take y).flatten ++ ((B.drop y).take (y + n - y)).flatten := by
      rw [← List.flatten_append, Nat.add_sub_cancel_left, ← List.take_add]
    rw [hb, ← i2]
    by_cases hlt : p.2 < off A x
    · rw [if_pos hlt]
    · rw [if_neg hlt]
      have : off A x - p.2 = 0 := by omega
      rw [this, List.take_zero, List.append_nil]
  | @diag l x y hs he ih =>
    intro hx hy
    obtain ⟨i1, i2⟩ := ih (by omega) (by omega)
    generalize (l.map (opE A B)).foldl (appS A.flatten) ([], 0) = p at *
    have hm := off_mono A x (x + 1) (by omega)
    refine ⟨by omega, ?_⟩
    have hAB := heq x y (by omega) (by omega) he
    have e1 : (A.flatten.drop (off A x)).take (off A (x + 1) - off A x) = A[x]'(by omega) := by
      rw [drop_off, off_succ A x (by omega), Nat.add_sub_cancel_left]
      rw [List.drop_eq_getElem_cons (show x < A.length by omega), List.flatten_cons, List.take_left]
    rw [slice_off _ i1 hm, ← List.append_assoc, i2, e1, hAB, List.take_succ_eq_append_getElem (show y < B.length by omega), List.flatten_append]
    simp only [List.flatten_cons, List.flatten_nil, List.append_nil]

/-- The script from the beginning to the end turns the old text into the new one. -/
theorem script_turns {A B : List (List UInt8)} {eq : Nat → Nat → Bool} (heq : ∀ i j (hi : i < A.length) (hj : j < B.length), eq i j = true → A[i] = B[j])
    {ops : List Opn} (h : Script eq ops A.length B.length) : appL A.flatten (ops.map (opE A B)) = B.flatten := by
  obtain ⟨h1, h2⟩ := script_app heq h (Nat.le_refl _) (Nat.le_refl _)
  unfold appL
  generalize (ops.map (opE A B)).foldl (appS A.flatten) ([], 0) = p at *
  rw [off_all] at h1 h2
  rw [List.take_length] at h2
  simp only
  by_cases hlt : p.2 < A.flatten.length
  · rw [if_pos hlt, ← h2]
    rw [List.take_of_length_le (by rw [List.length_drop]; exact Nat.le_refl _)]
  · rw [if_neg hlt]
    have : A.flatten.length - p.2 = 0 := by omega
    rw [this, List.take_zero, List.append_nil] at h2
    exact h2
end Go.Proofs.YtgegialfhkgggaaGreatDoor.Lines
namespace Go.Proofs.YtgegialfhkgggaaGreatDoor.Lines
open Mye

/-- A line with its newline, and no other. -/
def full (x : List UInt8) : Prop := nlAt x + 1 = x.length
/-- A line that isn't empty, and has no newline but at its end. -/
def some1 (x : List UInt8) : Prop := x ≠ [] ∧ x.length ≤ nlAt x + 1
/-- Lines, of which the last one may lack its newline. -/
def Good : List (List UInt8) → Prop
  | [] => True
  | [x] => some1 x
  | x :: y :: r => full x ∧ Good (y :: r)
theorem full_some {x : List UInt8} (h : full x) : some1 x := by
  unfold full at h; exact ⟨fun e => by subst e; simp [nlAt] at h, by omega⟩
theorem nlAt_full {x : List UInt8} (h : full x) (r : List UInt8) : nlAt (x ++ r) = nlAt x := by
  unfold full at h
  induction x with
  | nil => simp [nlAt] at h
  | cons b t ih =>
    rw [List.cons_append, nlAt, nlAt]
    by_cases e : b = 10
    · rw [if_pos e, if_pos e]
    · rw [if_neg e, if_neg e, ih (by rw [nlAt, if_neg e, List.length_cons] at h; omega)]
theorem Good.tail {x : List UInt8} {r : List (List UInt8)} (h : Good (x :: r)) : Good r := by
  cases r with
  | nil => trivial
  | cons y r => exact h.2
theorem Good.head {x : List UInt8} {r : List (List UInt8)} (h : Good (x :: r)) : some1 x := by
  cases r with
  | nil => exact h
  | cons y r => exact full_some h.1
theorem Good.drop {L : List (List UInt8)} (h : Good L) : ∀ n, Good (L.drop n) := by
  intro n
  induction n generalizing L with
  | zero => exact h
  | succ n ih => cases L with | nil => trivial | cons x r => exact ih h.tail
theorem Good.take {L : List (List UInt8)} (h : Good L) : ∀ n, Good (L.take n) := by
  intro n
  induction n generalizing L with
  | zero => trivial
  | succ n ih =>
    cases L with
    | nil => trivial
    | cons x r =>
      cases r with
      | nil => simpa using h
      | cons y r =>
        cases n with
        | zero => exact full_some h.1
        | succ n => exact ⟨h.1, ih h.2⟩
theorem Good.read {L : List (List UInt8)} (h : Good L) : linesL L.flatten = L := by
  induction L with
  | nil => rfl
  | cons x r ih =>
    have hs := h.head
    have hne : x ++ r.flatten ≠ [] := by intro e; exact hs.1 (List.append_eq_nil_iff.1 e).1
    rw [List.flatten_cons, linesL_cons _ hne]
    cases r with
    | nil =>
      rw [List.flatten_nil, List.append_nil, List.take_of_length_le hs.2, List.drop_of_length_le hs.2]
      rfl
    | cons y r =>
      have hf := h.1
      rw [nlAt_full hf]
      unfold full at hf
      rw [hf, List.take_left, List.drop_left, ih h.2]
theorem good_lines : ∀ (n : Nat) (l : List UInt8), l.length ≤ n → Good (linesL l)
  | 0, l, h => by have : l = [] := List.length_eq_zero_iff.1 (by omega)
                  subst this; trivial
  | n + 1, l, h => by
    by_cases hl : l = []
    · subst hl; trivial
    · have hlen : l.length ≠ 0 := fun e => hl (List.length_eq_zero_iff.1 e)
      rw [linesL_cons l hl]
      have hle := nlAt_le l
      have ih := good_lines n (l.drop (nlAt l + 1)) (by rw [List.length_drop]; omega)
      by_cases hlt : nlAt l < l.length
      · have hf : full (l.take (nlAt l + 1)) := by
          unfold full
          rw [List.length_take, Nat.min_eq_left (by omega)]
          have : nlAt (l.take (nlAt l + 1)) = nlAt l := by
            refine nlAt_hit _ _ (by rw [List.length_take]; omega) ?_ ?_
            · clear ih
              have gen : ∀ (l : List UInt8) (m : Nat), nlAt l < m → nlAt l ≤ nlAt (l.take m) := by
                intro l
                induction l with
                | nil => intro m _; simp [nlAt]
                | cons b t ih =>
                  intro m hm
                  cases m with
                  | zero => omega
                  | succ m =>
                    rw [List.take_succ_cons, nlAt, nlAt]
                    by_cases e : b = 10
                    · rw [if_pos e]; exact Nat.zero_le _
                    · rw [nlAt, if_neg e] at hm
                      rw [if_neg e, if_neg e]
                      have := ih m (by omega)
                      omega
              exact gen l _ (by omega)
            · have gen : ∀ (l : List UInt8), nlAt l < l.length → l.getD (nlAt l) 0 = 10 := by
                intro l
                induction l with
                | nil => intro h; simp [nlAt] at h
                | cons b t ih =>
                  intro h
                  rw [nlAt] at h ⊢
                  by_cases e : b = 10
                  · rw [if_pos e]; simpa using e
                  · rw [if_neg e] at h ⊢
                    simpa using ih (by simpa using h)
              have h2 := gen l hlt
              rw [List.getD_eq_getElem?_getD] at h2 ⊢
              rw [List.getElem?_take_of_lt (by omega)]
              exact h2
          rw [this]
        cases hr : linesL (l.drop (nlAt l + 1)) with
        | nil => exact full_some hf
        | cons y r => rw [hr] at ih; exact ⟨hf, ih⟩
      · have h2 : nlAt l = l.length := by omega
        rw [h2, List.drop_of_length_le (by omega), linesL_nil, List.take_of_length_le (by omega)]
        exact ⟨hl, by omega⟩
theorem lines_good (l : List UInt8) : Good (linesL l) := good_lines _ l (Nat.le_refl _)
theorem lines_cut (l : List UInt8) (j n : Nat) : linesL (((linesL l).drop j).take n).flatten = ((linesL l).drop j).take n := ((lines_good l).drop j |>.take n).read

/-- Where an operation begins and ends in the old text. -/
def oS : Opn → Nat
  | .del a _ _ => a
  | .ins a _ _ => a
def oE : Opn → Nat
  | .del _ b _ => b
  | .ins a _ _ => a
/-- An operation leaves out or puts in a line, within bounds. -/
def oOk (x y : Nat) : Opn → Prop
  | .del a b j => a < b ∧ b ≤ x ∧ j ≤ y
  | .ins a j k => j < k ∧ a ≤ x ∧ k ≤ y
/-- The operations ascend: each one begins where the one before ends, or behind it; all are within bounds. -/
def Asc (ops : List Opn) (x y : Nat) : Prop := ∀ k (h : k < ops.length), oOk x y ops[k] ∧ ∀ h2 : k + 1 < ops.length, oE ops[k] ≤ oS ops[k + 1]
theorem oOk.mono {x y x' y' : Nat} {o : Opn} (h : oOk x y o) (hx : x ≤ x') (hy : y ≤ y') : oOk x' y' o := by
  cases o <;> simp only [oOk] at h ⊢ <;> omega
theorem oOk.end_le {x y : Nat} {o : Opn} (h : oOk x y o) : oS o ≤ oE o ∧ oE o ≤ x := by
  cases o <;> simp only [oOk, oS, oE] at h ⊢ <;> omega
theorem asc_snoc {ops : List Opn} {x y x' y' : Nat} {o : Opn} (h : Asc ops x y) (hx : x ≤ x') (hy : y ≤ y') (ho : oOk x' y' o) (hs : x ≤ oS o) : Asc (ops ++ [o]) x' y' := by
  intro k hk
  rw [List.length_append, List.length_singleton] at hk
  by_cases hlt : k < ops.length
  · obtain ⟨h1, h2⟩ := h k hlt
    have e : (ops ++ [o])[k] = ops[k] := List.getElem_append_left hlt
    rw [e]
    refine ⟨h1.mono hx hy, fun h3 => ?_⟩
    by_cases hl2 : k + 1 < ops.length
    · rw [List.getElem_append_left hl2]; exact h2 hl2
    · have he := h1.end_le
      rw [List.getElem_append_right (by omega)]
      simp only [List.getElem_singleton]
      omega
  · have hk' : k = ops.length := by omega
    subst hk'
    rw [List.getElem_append_right (Nat.le_refl _)]
    refine ⟨by simpa using ho, fun h3 => ?_⟩
    rw [List.length_append, List.length_singleton] at h3
    omega
theorem script_asc {eq : Nat → Nat → Bool} {ops : List Opn} {x y : Nat} (h : Script eq ops x y) : Asc ops x y := by
  induction h with
  | nil => intro k hk; simp at hk
  | del hs hn ih => exact asc_snoc ih (by omega) (Nat.le_refl _) (by simp only [oOk]; omega) (by simp [oS])
  | ins hs hn ih => exact asc_snoc ih (Nat.le_refl _) (by omega) (by simp only [oOk]; omega) (by simp [oS])
  | diag hs he ih => exact fun k hk => ⟨(ih k hk).1.mono (by omega) (by omega), (ih k hk).2⟩
end Go.Proofs.YtgegialfhkgggaaGreatDoor.Lines
namespace Go.Proofs.YtgegialfhkgggaaGreatDoor.Stab

/-- A weak order on the numbers below n. -/
structure Weak (n : Nat) (lt : Nat → Nat → Bool) : Prop where
  asym : ∀ x y, x < n → y < n → lt x y = true → lt y x = false
  neg : ∀ x y z, x < n → y < n → z < n → lt x z = true → lt x y = true ∨ lt y z = true
/-- Less, or not greater and ahead. -/
def R (lt : Nat → Nat → Bool) (x y : Nat) : Prop := lt x y = true ∨ (lt y x = false ∧ x < y)
/-- All places hold numbers below n. -/
def Into (t : Nat → Nat) (n : Nat) : Prop := ∀ k, k < n → t k < n
/-- In order from a to b. -/
def Srt (lt : Nat → Nat → Bool) (t : Nat → Nat) (a b : Nat) : Prop := ∀ i j, a ≤ i → i < j → j < b → R lt (t i) (t j)
/-- Between a and b the same elements; elsewhere all as it was. -/
structure Sub (t t' : Nat → Nat) (a b : Nat) : Prop where
  out : ∀ k, ¬ (a ≤ k ∧ k < b) → t' k = t k
  ins : ∀ k, a ≤ k → k < b → ∃ k', a ≤ k' ∧ k' < b ∧ t' k = t k'
/-- Two places exchanged. -/
def sw (t : Nat → Nat) (i j : Nat) : Nat → Nat := fun k => if k = i then t j else if k = j then t i else t k

section
variable {n : Nat} {lt : Nat → Nat → Bool} {t t' t2 : Nat → Nat} {a b : Nat}
theorem R.trans (W : Weak n lt) {x y z : Nat} (hx : x < n) (hy : y < n) (hz : z < n) (h1 : R lt x y) (h2 : R lt y z) : R lt x z := by
  rcases h1 with h1 | ⟨h1, h1'⟩
  · rcases W.neg x z y hx hz hy h1 with h | h
    · exact Or.inl h
    · rcases h2 with h2 | ⟨h2, _⟩
      · rw [W.asym y z hy hz h2] at h; cases h
      · rw [h2] at h; cases h
  · rcases h2 with h2 | ⟨h2, h2'⟩
    · rcases W.neg y x z hy hx hz h2 with h | h
      · rw [h1] at h; cases h
      · exact Or.inl h
    · refine Or.inr ⟨?_, by omega⟩
      cases h : lt z x with
      | false => rfl
      | true =>
        rcases W.neg z y x hz hy hx h with h | h
        · rw [h2] at h; cases h
        · rw [h1] at h; cases h
theorem R.irr (W : Weak n lt) {x : Nat} (hx : x < n) : ¬ R lt x x := by
  rintro (h | ⟨_, h⟩)
  · have := W.asym x x hx hx h; rw [h] at this; cases this
  · omega
theorem Sub.refl (t : Nat → Nat) (a b : Nat) : Sub t t a b := ⟨fun _ _ => rfl, fun k h1 h2 => ⟨k, h1, h2, rfl⟩⟩
theorem Sub.trans (h1 : Sub t t' a b) (h2 : Sub t' t2 a b) : Sub t t2 a b :=
  ⟨fun k hk => (h2.out k hk).trans (h1.out k hk), fun k ha hb => by
    obtain ⟨k1, p1, p2, e1⟩ := h2.ins k ha hb
    obtain ⟨k2, q1, q2, e2⟩ := h1.ins k1 p1 p2
    exact ⟨k2, q1, q2, e1.trans e2⟩⟩
theorem Sub.wide {a' b' : Nat} (h : Sub t t' a b) (ha : a' ≤ a) (hb : b ≤ b') : Sub t t' a' b' :=
  ⟨fun k hk => h.out k (by omega), fun k h1 h2 => by
    by_cases hk : a ≤ k ∧ k < b
    · obtain ⟨k', p1, p2, e⟩ := h.ins k hk.1 hk.2; exact ⟨k', by omega, by omega, e⟩
    · exact ⟨k, h1, h2, h.out k hk⟩⟩
theorem Sub.into (h : Sub t t' a b) (hb : b ≤ n) (hi : Into t n) : Into t' n := by
  intro k hk
  by_cases hx : a ≤ k ∧ k < b
  · obtain ⟨k', _, p2, e⟩ := h.ins k hx.1 hx.2; rw [e]; exact hi _ (by omega)
  · rw [h.out k hx]; exact hi _ hk
theorem Sub.sw {i j : Nat} (hi : a ≤ i ∧ i < b) (hj : a ≤ j ∧ j < b) : Sub t (sw t i j) a b := by
  refine ⟨fun k hk => ?_, fun k h1 h2 => ?_⟩
  · unfold Stab.sw; rw [if_neg (by omega), if_neg (by omega)]
  · unfold Stab.sw
    by_cases e1 : k = i
    · exact ⟨j, hj.1, hj.2, by rw [if_pos e1]⟩
    · by_cases e2 : k = j
      · exact ⟨i, hi.1, hi.2, by rw [if_neg e1, if_pos e2]⟩
      · exact ⟨k, h1, h2, by rw [if_neg e1, if_neg e2]⟩
/-- What is outside of a piece stays in order. -/
theorem Srt.out {c d : Nat} (h : Srt lt t c d) (hs : Sub t t' a b) (hd : d ≤ a ∨ b ≤ c) : Srt lt t' c d := by
  intro i j h1 h2 h3
  rw [hs.out i (by omega), hs.out j (by omega)]
  exact h i j h1 h2 h3

/-! Insertion. -/
/-- The element that stood at i is at j now; all else up to i is in order. -/
structure Ins (lt : Nat → Nat → Bool) (t0 t : Nat → Nat) (a i j b : Nat) : Prop where
  sub : Sub t0 t a (i + 1)
  aj : a ≤ j
  ji : j ≤ i
  rest : ∀ p q, a ≤ p → p < q → q ≤ i → ¬ p = j → ¬ q = j → R lt (t p) (t q)
  up : ∀ q, j < q → q ≤ i → R lt (t j) (t q)
  tag : ∀ p, a ≤ p → p ≤ i → ¬ p = j → t p < t j
theorem Ins.start {i : Nat} (hai : a ≤ i) (hs : Srt lt t a i) (htag : ∀ p, a ≤ p → p < i → t p < t i) : Ins lt t t a i i b :=
  ⟨Sub.refl _ _ _, hai, Nat.le_refl _, fun p q h1 h2 h3 _ h5 => hs p q h1 h2 (by omega), fun q h1 h2 => absurd h1 (by omega), fun p h1 h2 h3 => htag p h1 (by omega)⟩
theorem Ins.step {t0 : Nat → Nat} {i j : Nat} (h : Ins lt t0 t a i (j + 1) b) (hj : a ≤ j) (hl : lt (t (j + 1)) (t j) = true) : Ins lt t0 (sw t (j + 1) j) a i j b := by
  have h1 := h.ji
  have ej : sw t (j + 1) j j = t (j + 1) := by unfold sw; rw [if_neg (by omega), if_pos rfl]
  have ej1 : sw t (j + 1) j (j + 1) = t j := by unfold sw; rw [if_pos rfl]
  have eo : ∀ k, ¬ k = j → ¬ k = j + 1 → sw t (j + 1) j k = t k := fun k p q => by unfold sw; rw [if_neg q, if_neg p]
  refine ⟨h.sub.trans (Sub.sw ⟨by omega, by omega⟩ ⟨by omega, by omega⟩), hj, by omega, ?_, ?_, ?_⟩
  · intro p q p1 p2 p3 p4 p5
    by_cases e1 : p = j + 1
    · subst e1
      rw [ej1, eo q (by omega) (by omega)]
      exact h.rest j q hj (by omega) p3 (by omega) (by omega)
    · by_cases e2 : q = j + 1
      · subst e2
        rw [ej1, eo p (by omega) (by omega)]
        exact h.rest p j p1 (by omega) (by omega) (by omega) (by omega)
      · rw [eo p p4 e1, eo q p5 e2]
        exact h.rest p q p1 p2 p3 e1 e2
  · intro q q1 q2
    rw [ej]
    by_cases e2 : q = j + 1
    · subst e2; rw [ej1]; exact Or.inl hl
    · rw [eo q (by omega) e2]; exact h.up q (by omega) q2
  · intro p p1 p2 p3
    rw [ej]
    by_cases e2 : p = j + 1
    · subst e2; rw [ej1]; exact h.tag j hj (by omega) (by omega)
    · rw [eo p p3 e2]; exact h.tag p p1 p2 e2
theorem Ins.stop (W : Weak n lt) {t0 : Nat → Nat} {i j : Nat} (h : Ins lt t0 t a i j b) (hin : i < n) (ht : Into t n) (hl : j = a ∨ lt (t j) (t (j - 1)) = false) : Srt lt t a (i + 1) := by
  have ha := h.aj
  have hji := h.ji
  intro p q h1 h2 h3
  by_cases e1 : p = j
  · subst e1; exact h.up q h2 (by omega)
  · by_cases e2 : q = j
    · subst e2
      rcases hl with hl | hl
      · omega
      · have hr : R lt (t (q - 1)) (t q) := Or.inr ⟨hl, h.tag (q - 1) (by omega) (by omega) (by omega)⟩
        by_cases e3 : p = q - 1
        · subst e3; exact hr
        · exact R.trans W (ht _ (by omega)) (ht _ (by omega)) (ht _ (by omega)) (h.rest p (q - 1) h1 (by omega) (by omega) e1 (by omega)) hr
    · exact h.rest p q h1 h2 (by omega) e1 e2

/-! Merging. -/
/-- Two runs, the first one's numbers below the second one's. -/
structure Two (lt : Nat → Nat → Bool) (t : Nat → Nat) (a m b : Nat) : Prop where
  l : Srt lt t a m
  r : Srt lt t m b
  tag : ∀ i j, a ≤ i → i < m → m ≤ j → j < b → t i < t j
/-- The element at a, shifted up to k. -/
def up (t : Nat → Nat) (a k : Nat) : Nat → Nat := fun q => if a ≤ q ∧ q < k then t (q + 1) else if q = k then t a else t q
theorem up_zero (t : Nat → Nat) (a : Nat) : up t a a = t := by
  funext q; unfold up; rw [if_neg (by omega)]; by_cases e : q = a
  · rw [if_pos e, e]
  · rw [if_neg e]
theorem up_succ (t : Nat → Nat) (a k : Nat) (h : a ≤ k) : sw (up t a k) k (k + 1) = up t a (k + 1) := by
  funext q
  unfold sw
  by_cases e1 : q = k
  · subst e1
    rw [if_pos rfl]
    unfold up
    rw [if_neg (by omega), if_neg (by omega), if_pos (by omega)]
  · rw [if_neg e1]
    by_cases e2 : q = k + 1
    · subst e2
      rw [if_pos rfl]
      unfold up
      rw [if_neg (by omega), if_pos rfl, if_neg (by omega), if_pos rfl]
    · rw [if_neg e2]
      unfold up
      by_cases e3 : a ≤ q ∧ q < k
      · rw [if_pos e3, if_pos (by omega)]
      · rw [if_neg e3, if_neg e1, if_neg (by omega), if_neg e2]
theorem up_sub {k : Nat} (h : a ≤ k) (hb : k < b) : Sub t (up t a k) a b := by
  refine ⟨fun q hq => ?_, fun q h1 h2 => ?_⟩
  · unfold up; rw [if_neg (by omega), if_neg (by omega)]
  · unfold up
    by_cases e3 : a ≤ q ∧ q < k
    · exact ⟨q + 1, by omega, by omega, by rw [if_pos e3]⟩
    · by_cases e1 : q = k
      · exact ⟨a, by omega, by omega, by rw [if_neg e3, if_pos e1]⟩
      · exact ⟨q, h1, h2, by rw [if_neg e3, if_neg e1]⟩
theorem up_srt (W : Weak n lt) (h : Two lt t a (a + 1) b) (hb : b ≤ n) (ht : Into t n) {i : Nat} (hi : a + 1 ≤ i) (hib : i ≤ b) (h1 : i = a + 1 ∨ lt (t (i - 1)) (t a) = true) (h2 : i = b ∨ lt (t i) (t a) = false) : Srt lt (up t a (i - 1)) a b := by
  have lo : ∀ q, a < q → q < i → R lt (t q) (t a) := by
    intro q q1 q2
    rcases h1 with h1 | h1
    · omega
    · by_cases e : q = i - 1
      · subst e; exact Or.inl h1
      · exact R.trans W (ht _ (by omega)) (ht _ (by omega)) (ht _ (by omega)) (h.r q (i - 1) (by omega) (by omega) (by omega)) (Or.inl h1)
  have hi' : ∀ q, i ≤ q → q < b → R lt (t a) (t q) := by
    intro q q1 q2
    rcases h2 with h2 | h2
    · omega
    · have hr : R lt (t a) (t i) := Or.inr ⟨h2, h.tag a i (by omega) (by omega) (by omega) (by omega)⟩
      by_cases e : q = i
      · subst e; exact hr
      · exact R.trans W (ht _ (by omega)) (ht _ (by omega)) (ht _ (by omega)) hr (h.r i q (by omega) (by omega) (by omega))
  intro p q p1 p2 p3
  unfold up
  by_cases c1 : a ≤ p ∧ p < i - 1
  · rw [if_pos c1]
    by_cases c2 : a ≤ q ∧ q < i - 1
    · rw [if_pos c2]; exact h.r _ _ (by omega) (by omega) (by omega)
    · rw [if_neg c2]
      by_cases c3 : q = i - 1
      · rw [if_pos c3]; exact lo _ (by omega) (by omega)
      · rw [if_neg c3]; exact h.r _ _ (by omega) (by omega) (by omega)
  · rw [if_neg c1]
    rw [if_neg (show ¬ (a ≤ q ∧ q < i - 1) by omega), if_neg (show ¬ q = i - 1 by omega)]
    by_cases c3 : p = i - 1
    · rw [if_pos c3]; exact hi' _ (by omega) (by omega)
    · rw [if_neg c3]; exact h.r _ _ (by omega) (by omega) (by omega)
/-- The element at m, shifted down to k. -/
def dn (t : Nat → Nat) (m k : Nat) : Nat → Nat := fun q => if k < q ∧ q ≤ m then t (q - 1) else if q = k then t m else t q
theorem dn_zero (t : Nat → Nat) (m : Nat) : dn t m m = t := by
  funext q; unfold dn; rw [if_neg (by omega)]; by_cases e : q = m
  · rw [if_pos e, e]
  · rw [if_neg e]
theorem dn_succ (t : Nat → Nat) (m k : Nat) (h : k + 1 ≤ m) : sw (dn t m (k + 1)) (k + 1) k = dn t m k := by
  funext q
  unfold sw
  by_cases e1 : q = k + 1
  · subst e1
    rw [if_pos rfl]
    unfold dn
    rw [if_neg (by omega), if_neg (by omega), if_pos (by omega)]
    rfl
  · rw [if_neg e1]
    by_cases e2 : q = k
    · subst e2
      rw [if_pos rfl]
      unfold dn
      rw [if_neg (by omega), if_pos rfl, if_neg (by omega), if_pos rfl]
    · rw [if_neg e2]
      unfold dn
      by_cases e3 : k + 1 < q ∧ q ≤ m
      · rw [if_pos e3, if_pos (by omega)]
      · rw [if_neg e3, if_neg e1, if_neg (by omega), if_neg e2]
theorem dn_sub {m k : Nat} (h : k ≤ m) (ha : a ≤ k) : Sub t (dn t m k) a (m + 1) := by
  refine ⟨fun q hq => ?_, fun q h1 h2 => ?_⟩
  · unfold dn; rw [if_neg (by omega), if_neg (by omega)]
  · unfold dn
    by_cases e3 : k < q ∧ q ≤ m
    · exact ⟨q - 1, by omega, by omega, by rw [if_pos e3]⟩
    · by_cases e1 : q = k
      · exact ⟨m, by omega, by omega, by rw [if_neg e3, if_pos e1]⟩
      · exact ⟨q, h1, h2, by rw [if_neg e3, if_neg e1]⟩
theorem dn_srt (W : Weak n lt) {m : Nat} (h : Two lt t a m (m + 1)) (hb : m < n) (ht : Into t n) {i : Nat} (hi : a ≤ i) (him : i ≤ m) (h1 : i = a ∨ lt (t m) (t (i - 1)) = false) (h2 : i = m ∨ lt (t m) (t i) = true) : Srt lt (dn t m i) a (m + 1) := by
  have lo : ∀ q, a ≤ q → q < i → R lt (t q) (t m) := by
    intro q q1 q2
    rcases h1 with h1 | h1
    · omega
    · have hr : R lt (t (i - 1)) (t m) := Or.inr ⟨h1, h.tag (i - 1) m (by omega) (by omega) (by omega) (by omega)⟩
      by_cases e : q = i - 1
      · subst e; exact hr
      · exact R.trans W (ht _ (by omega)) (ht _ (by omega)) (ht _ (by omega)) (h.l q (i - 1) (by omega) (by omega) (by omega)) hr
  have hi' : ∀ q, i ≤ q → q < m → R lt (t m) (t q) := by
    intro q q1 q2
    rcases h2 with h2 | h2
    · omega
    · by_cases e : q = i
      · subst e; exact Or.inl h2
      · exact R.trans W (ht _ (by omega)) (ht _ (by omega)) (ht _ (by omega)) (Or.inl h2) (h.l i q (by omega) (by omega) (by omega))
  intro p q p1 p2 p3
  unfold dn
  by_cases c2 : i < q ∧ q ≤ m
  · rw [if_pos c2]
    by_cases c1 : i < p ∧ p ≤ m
    · rw [if_pos c1]; exact h.l _ _ (by omega) (by omega) (by omega)
    · rw [if_neg c1]
      by_cases c3 : p = i
      · rw [if_pos c3]; exact hi' _ (by omega) (by omega)
      · rw [if_neg c3]; exact h.l _ _ (by omega) (by omega) (by omega)
  · rw [if_neg c2]
    rw [if_neg (show ¬ (i < p ∧ p ≤ m) by omega), if_neg (show ¬ p = i by omega)]
    by_cases c3 : q = i
    · rw [if_pos c3]; exact lo _ (by omega) (by omega)
    · rw [if_neg c3]; exact h.l _ _ (by omega) (by omega) (by omega)

/-- Two pieces exchanged: u v becomes v u. -/
def rot (t : Nat → Nat) (a m b : Nat) : Nat → Nat := fun k => if a ≤ k ∧ k < a + (b - m) then t (k + m - a) else if a + (b - m) ≤ k ∧ k < b then t (k - (b - m)) else t k
theorem rot_sub {m : Nat} (h1 : a ≤ m) (h2 : m ≤ b) : Sub t (rot t a m b) a b := by
  refine ⟨fun q hq => ?_, fun q p1 p2 => ?_⟩
  · unfold rot; rw [if_neg (by omega), if_neg (by omega)]
  · unfold rot
    by_cases c : a ≤ q ∧ q < a + (b - m)
    · exact ⟨q + m - a, by omega, by omega, by rw [if_pos c]⟩
    · exact ⟨q - (b - m), by omega, by omega, by rw [if_neg c, if_pos (by omega)]⟩
theorem rot_none {m : Nat} (h : a = m ∨ m = b) (h1 : a ≤ m) (h2 : m ≤ b) : rot t a m b = t := by
  funext k
  unfold rot
  by_cases c : a ≤ k ∧ k < a + (b - m)
  · rw [if_pos c]; congr 1; omega
  · rw [if_neg c]
    by_cases c2 : a + (b - m) ≤ k ∧ k < b
    · rw [if_pos c2]; congr 1; omega
    · rw [if_neg c2]
/-- n places from a on exchanged with n from b on. -/
def swr (t : Nat → Nat) (a b n : Nat) : Nat → Nat := fun k => if a ≤ k ∧ k < a + n then t (k + b - a) else if b ≤ k ∧ k < b + n then t (k + a - b) else t k
theorem swr_zero (t : Nat → Nat) (a b : Nat) : swr t a b 0 = t := by
  funext k; unfold swr; rw [if_neg (by omega), if_neg (by omega)]
theorem swr_succ (t : Nat → Nat) (a b k : Nat) (h : a + k < b) : sw (swr t a b k) (a + k) (b + k) = swr t a b (k + 1) := by
  funext q
  unfold sw
  by_cases e1 : q = a + k
  · subst e1
    rw [if_pos rfl]
    unfold swr
    rw [if_neg (by omega), if_neg (by omega), if_pos (by omega)]
    congr 1; omega
  · rw [if_neg e1]
    by_cases e2 : q = b + k
    · subst e2
      rw [if_pos rfl]
      unfold swr
      rw [if_neg (by omega), if_neg (by omega), if_neg (by omega), if_pos (by omega)]
      congr 1; omega
    · rw [if_neg e2]
      unfold swr
      by_cases c1 : a ≤ q ∧ q < a + k
      · rw [if_pos c1, if_pos (by omega)]
      · rw [if_neg c1, if_neg (show ¬ (a ≤ q ∧ q < a + (k + 1)) by omega)]
        by_cases c2 : b ≤ q ∧ q < b + k
        · rw [if_pos c2, if_pos (by omega)]
        · rw [if_neg c2, if_neg (by omega)]
/-- The rounds of a rotation: i places ahead of m and j behind it are still to be exchanged. -/
theorem rot_left (t : Nat → Nat) (m i j : Nat) (hij : j < i) (hi : i ≤ m) : rot (swr t (m - i) m j) (m - (i - j)) m (m + j) = rot t (m - i) m (m + j) := by
  funext k
  unfold rot
  by_cases c1 : m - i ≤ k ∧ k < m - i + (m + j - m)
  · rw [if_neg (by omega), if_neg (by omega), if_pos c1]
    unfold swr
    rw [if_pos (by omega)]
  · rw [if_neg c1]
    by_cases c2 : m - i + (m + j - m) ≤ k ∧ k < m + j
    · rw [if_pos c2]
      by_cases c3 : m - (i - j) ≤ k ∧ k < m - (i - j) + (m + j - m)
      · rw [if_pos c3]
        unfold swr
        rw [if_neg (by omega), if_pos (by omega)]
        congr 1; omega
      · rw [if_neg c3, if_pos (by omega)]
        unfold swr
        rw [if_neg (by omega), if_neg (by omega)]
    · rw [if_neg c2, if_neg (by omega), if_neg (by omega)]
      unfold swr
      rw [if_neg (by omega), if_neg (by omega)]
theorem rot_right (t : Nat → Nat) (m i j : Nat) (hij : i < j) (hi : i ≤ m) : rot (swr t (m - i) (m + j - i) i) (m - i) m (m + (j - i)) = rot t (m - i) m (m + j) := by
  funext k
  unfold rot
  by_cases c1 : m - i ≤ k ∧ k < m - i + (m + j - m)
  · rw [if_pos c1]
    by_cases c2 : m - i ≤ k ∧ k < m - i + (m + (j - i) - m)
    · rw [if_pos c2]
      unfold swr
      by_cases c3 : m - i ≤ k + m - (m - i) ∧ k + m - (m - i) < m - i + i
      · exact absurd c3 (by omega)
      · rw [if_neg c3, if_neg (by omega)]
    · rw [if_neg c2]
      by_cases c3 : m - i + (m + (j - i) - m) ≤ k ∧ k < m + (j - i)
      · rw [if_pos c3]
        unfold swr
        rw [if_pos (by omega)]
        congr 1; omega
      · exact absurd c3 (by omega)
  · rw [if_neg c1]
    by_cases c2 : m - i + (m + j - m) ≤ k ∧ k < m + j
    · rw [if_pos c2, if_neg (by omega), if_neg (by omega)]
      unfold swr
      rw [if_neg (by omega), if_pos (by omega)]
      congr 1; omega
    · rw [if_neg c2, if_neg (by omega), if_neg (by omega)]
      unfold swr
      rw [if_neg (by omega), if_neg (by omega)]
theorem rot_last (t : Nat → Nat) (m i : Nat) (hi : i ≤ m) : swr t (m - i) m i = rot t (m - i) m (m + i) := by
  funext k
  unfold rot swr
  by_cases c1 : m - i ≤ k ∧ k < m - i + (m + i - m)
  · rw [if_pos c1, if_pos (by omega)]
  · rw [if_neg c1, if_neg (by omega)]
    by_cases c2 : m ≤ k ∧ k < m + i
    · rw [if_pos c2, if_pos (by omega)]; congr 1; omega
    · rw [if_neg c2, if_neg (by omega)]

/-- What the search finds: s is where the first run is cut, e where the second one is. -/
structure Cut (lt : Nat → Nat → Bool) (t : Nat → Nat) (a m b s e mid : Nat) : Prop where
  two : Two lt t a m b
  as : a ≤ s
  sm : s ≤ m
  me : m ≤ e
  eb : e ≤ b
  mid_eq : s + (e - m) = mid
  lo : s = a ∨ e = b ∨ lt (t e) (t (s - 1)) = false
  hi : s = m ∨ e = m ∨ lt (t (e - 1)) (t s) = true
/-- All that will stand ahead of mid is ahead of all behind it. -/
theorem Cut.ahead (W : Weak n lt) (ht : Into t n) (hb : b ≤ n) {m s e mid : Nat} (h : Cut lt t a m b s e mid) : ∀ i j, a ≤ i → i < mid → mid ≤ j → j < b → R lt (rot t s m e i) (rot t s m e j) := by
  obtain ⟨h2, p1, p2, p3, p4, p5, lo, hi⟩ := h
  have LO : ∀ p q, a ≤ p → p < s → e ≤ q → q < b → R lt (t p) (t q) := by
    intro p q x1 x2 x3 x4
    rcases lo with h | h | h
    · omega
    · omega
    · have hr : R lt (t (s - 1)) (t e) := Or.inr ⟨h, h2.tag _ _ (by omega) (by omega) (by omega) (by omega)⟩
      have hr2 : R lt (t p) (t e) := by
        by_cases c : p = s - 1
        · subst c; exact hr
        · exact R.trans W (ht _ (by omega)) (ht _ (by omega)) (ht _ (by omega)) (h2.l p (s - 1) (by omega) (by omega) (by omega)) hr
      by_cases c : q = e
      · subst c; exact hr2
      · exact R.trans W (ht _ (by omega)) (ht _ (by omega)) (ht _ (by omega)) hr2 (h2.r e q (by omega) (by omega) (by omega))
  have HI : ∀ p q, m ≤ p → p < e → s ≤ q → q < m → R lt (t p) (t q) := by
    intro p q x1 x2 x3 x4
    rcases hi with h | h | h
    · omega
    · omega
    · have hr : R lt (t (e - 1)) (t s) := Or.inl h
      have hr2 : R lt (t p) (t s) := by
        by_cases c : p = e - 1
        · subst c; exact hr
        · exact R.trans W (ht _ (by omega)) (ht _ (by omega)) (ht _ (by omega)) (h2.r p (e - 1) (by omega) (by omega) (by omega)) hr
      by_cases c : q = s
      · subst c; exact hr2
      · exact R.trans W (ht _ (by omega)) (ht _ (by omega)) (ht _ (by omega)) hr2 (h2.l s q (by omega) (by omega) (by omega))
  intro i j i1 i2 j1 j2
  unfold rot
  by_cases c1 : s ≤ i ∧ i < s + (e - m)
  · rw [if_pos c1, if_neg (by omega)]
    by_cases c2 : s + (e - m) ≤ j ∧ j < e
    · rw [if_pos c2]; exact HI _ _ (by omega) (by omega) (by omega) (by omega)
    · rw [if_neg c2]; exact h2.r _ _ (by omega) (by omega) (by omega)
  · rw [if_neg c1, if_neg (by omega), if_neg (by omega)]
    by_cases c2 : s + (e - m) ≤ j ∧ j < e
    · rw [if_pos c2]; exact h2.l _ _ (by omega) (by omega) (by omega)
    · rw [if_neg c2]; exact LO _ _ (by omega) (by omega) (by omega) (by omega)
theorem Cut.left {m s e mid : Nat} (h : Cut lt t a m b s e mid) : Two lt (rot t s m e) a s mid := by
  obtain ⟨h2, p1, p2, p3, p4, p5, _, _⟩ := h
  refine ⟨fun i j x1 x2 x3 => ?_, fun i j x1 x2 x3 => ?_, fun i j x1 x2 x3 x4 => ?_⟩
  · unfold rot; rw [if_neg (by omega), if_neg (by omega), if_neg (by omega), if_neg (by omega)]; exact h2.l _ _ (by omega) (by omega) (by omega)
  · unfold rot; rw [if_pos (by omega), if_pos (by omega)]; exact h2.r _ _ (by omega) (by omega) (by omega)
  · unfold rot; rw [if_neg (by omega), if_neg (by omega), if_pos (by omega)]; exact h2.tag _ _ (by omega) (by omega) (by omega) (by omega)
theorem Cut.right {m s e mid : Nat} (h : Cut lt t a m b s e mid) : Two lt (rot t s m e) mid e b := by
  obtain ⟨h2, p1, p2, p3, p4, p5, _, _⟩ := h
  refine ⟨fun i j x1 x2 x3 => ?_, fun i j x1 x2 x3 => ?_, fun i j x1 x2 x3 x4 => ?_⟩
  · unfold rot; rw [if_neg (by omega), if_pos (by omega), if_neg (by omega), if_pos (by omega)]; exact h2.l _ _ (by omega) (by omega) (by omega)
  · unfold rot; rw [if_neg (by omega), if_neg (by omega), if_neg (by omega), if_neg (by omega)]; exact h2.r _ _ (by omega) (by omega) (by omega)
  · unfold rot; rw [if_neg (by omega), if_pos (by omega), if_neg (by omega), if_neg (by omega)]; exact h2.tag _ _ (by omega) (by omega) (by omega) (by omega)
theorem Two.out {c m d : Nat} (h : Two lt t c m d) (hs : Sub t t' a b) (hd : d ≤ a ∨ b ≤ c) (hm : c ≤ m ∧ m ≤ d) : Two lt t' c m d :=
  ⟨h.l.out hs (by omega), h.r.out hs (by omega), fun i j h1 h2 h3 h4 => by rw [hs.out i (by omega), hs.out j (by omega)]; exact h.tag i j h1 h2 h3 h4⟩
/-- A piece with one empty run is in order. -/
theorem Two.srt {m : Nat} (h : Two lt t a m b) (hm : a = m ∨ m = b) : Srt lt t a b := by
  rcases hm with rfl | rfl
  · exact h.r
  · exact h.l
/-- Both halves merged: all is in order. -/
theorem halves {t1 t2 : Nat → Nat} {mid : Nat} (ha : ∀ i j, a ≤ i → i < mid → mid ≤ j → j < b → R lt (t i) (t j)) (s1 : Sub t t1 a mid) (r1 : Srt lt t1 a mid) (s2 : Sub t1 t2 mid b) (r2 : Srt lt t2 mid b) : Srt lt t2 a b := by
  intro i j h1 h2 h3
  by_cases c1 : j < mid
  · rw [s2.out i (by omega), s2.out j (by omega)]; exact r1 i j h1 h2 c1
  · by_cases c2 : mid ≤ i
    · exact r2 i j c2 h2 h3
    · obtain ⟨i', x1, x2, e1⟩ := s1.ins i h1 (by omega)
      obtain ⟨j', y1, y2, e2⟩ := s2.ins j (by omega) h3
      rw [s2.out i (by omega), e1, e2, s1.out j' (by omega)]
      exact ha i' j' x1 x2 y1 y2

/-! The sort of blocks. -/
/-- A block in order, of its own numbers. -/
structure Run (lt : Nat → Nat → Bool) (t : Nat → Nat) (s e : Nat) : Prop where
  srt : Srt lt t s e
  own : ∀ i, s ≤ i → i < e → s ≤ t i ∧ t i < e
theorem Run.out {s e : Nat} (h : Run lt t s e) (hs : Sub t t' a b) (hd : e ≤ a ∨ b ≤ s) : Run lt t' s e :=
  ⟨h.srt.out hs hd, fun i h1 h2 => by rw [hs.out i (by omega)]; exact h.own i h1 h2⟩
theorem Run.two {m : Nat} (h1 : Run lt t a m) (h2 : Run lt t m b) : Two lt t a m b :=
  ⟨h1.srt, h2.srt, fun i j p1 p2 p3 p4 => by have := h1.own i p1 p2; have := h2.own j p3 p4; omega⟩
theorem Run.merged {m : Nat} (h1 : Run lt t a m) (h2 : Run lt t m b) (hm : a ≤ m ∧ m ≤ b) (hs : Sub t t' a b) (hr : Srt lt t' a b) : Run lt t' a b :=
  ⟨hr, fun i p1 p2 => by
    obtain ⟨k, q1, q2, e⟩ := hs.ins i p1 p2
    rw [e]
    by_cases c : k < m
    · have := h1.own k q1 c; omega
    · have := h2.own k (by omega) q2; omega⟩
/-- Blocks of bs: from the m0-th on, and up to the m0-th. -/
def From (lt : Nat → Nat → Bool) (t : Nat → Nat) (bs n m0 : Nat) : Prop := ∀ m, m0 ≤ m → Run lt t (m * bs) (min ((m + 1) * bs) n)
def Upto (lt : Nat → Nat → Bool) (t : Nat → Nat) (bs n m0 : Nat) : Prop := ∀ m, m < m0 → Run lt t (m * bs) (min ((m + 1) * bs) n)
theorem Run.none {s e : Nat} (h : e ≤ s) : Run lt t s e := ⟨fun i j h1 h2 h3 => absurd h3 (by omega), fun i h1 h2 => absurd h2 (by omega)⟩
theorem upto_snoc {bs m0 : Nat} (h : Upto lt t bs n m0) (hs : Sub t t' (m0 * bs) b) (hr : Run lt t' (m0 * bs) (min ((m0 + 1) * bs) n)) : Upto lt t' bs n (m0 + 1) := by
  intro m hm
  by_cases e : m = m0
  · subst e; exact hr
  · have hle : (m + 1) * bs ≤ m0 * bs := Nat.mul_le_mul_right _ (by omega)
    exact (h m (by omega)).out hs (by omega)
theorem upto_all {bs m0 : Nat} (h : Upto lt t bs n m0) (hn : n ≤ m0 * bs) : From lt t bs n 0 := by
  intro m _
  by_cases e : m < m0
  · exact h m e
  · have hle : m0 * bs ≤ m * bs := Nat.mul_le_mul_right _ (by omega)
    exact Run.none (by omega)
theorem from_step {bs m0 : Nat} (h : From lt t bs n (2 * m0)) (hs : Sub t t' (m0 * (2 * bs)) b) (hb : b ≤ (m0 + 1) * (2 * bs)) : From lt t' bs n (2 * (m0 + 1)) := by
  intro m hm
  refine (h m (by omega)).out hs (Or.inr ?_)
  have : (2 * (m0 + 1)) * bs ≤ m * bs := Nat.mul_le_mul_right _ hm
  have e : (2 * (m0 + 1)) * bs = (m0 + 1) * (2 * bs) := by rw [Nat.mul_comm 2 (m0 + 1), Nat.mul_assoc]
  omega
theorem from_two {bs m0 : Nat} (h : From lt t bs n (2 * m0)) : Run lt t (m0 * (2 * bs)) (min (m0 * (2 * bs) + bs) n) ∧ Run lt t (m0 * (2 * bs) + bs) (min (m0 * (2 * bs) + 2 * bs) n) := by
  have h1 := h (2 * m0) (Nat.le_refl _)
  have h2 := h (2 * m0 + 1) (by omega)
  have e0 : (2 * m0) * bs = m0 * (2 * bs) := by rw [Nat.mul_comm 2 m0, Nat.mul_assoc]
  have e1 : (2 * m0 + 1) * bs = m0 * (2 * bs) + bs := by rw [Nat.succ_mul, e0]
  have e2 : (2 * m0 + 1 + 1) * bs = m0 * (2 * bs) + 2 * bs := by rw [Nat.succ_mul, e1]; omega
  rw [e0, e1] at h1
  rw [e1, e2] at h2
  exact ⟨h1, h2⟩
/-- What a sort leaves: a permutation in order. -/
structure Sorted (lt : Nat → Nat → Bool) (t : Nat → Nat) (n : Nat) : Prop where
  into : Into t n
  srt : Srt lt t 0 n
theorem sorted_of {bs : Nat} (h : From lt t bs n 0) (hn : n ≤ bs) : Sorted lt t n := by
  have := h 0 (Nat.le_refl _)
  rw [Nat.zero_mul, Nat.zero_add, Nat.one_mul, Nat.min_eq_right hn] at this
  exact ⟨fun k hk => (this.own k (Nat.zero_le _) hk).2, this.srt⟩
/-- A strictly ascending map of the numbers below n to themselves keeps each one. -/
theorem asc_id (hi : Into t n) (h : ∀ i j, i < j → j < n → t i < t j) : ∀ k, k < n → t k = k := by
  have lo : ∀ k, k < n → k ≤ t k := by
    intro k
    induction k with
    | zero => intro _; exact Nat.zero_le _
    | succ k ih => intro hk; have := ih (by omega); have := h k (k + 1) (by omega) hk; omega
  have hi2 : ∀ d k, k + d + 1 = n → t k ≤ k := by
    intro d
    induction d with
    | zero => intro k hk; have := hi k (by omega); omega
    | succ d ih => intro k hk; have := ih (k + 1) (by omega); have := h k (k + 1) (by omega) (by omega); omega
  intro k hk
  have := lo k hk
  have := hi2 (n - k - 1) k (by omega)
  omega
/-- What is in order already stays. -/
theorem Sorted.same (W : Weak n lt) (h : Sorted lt t n) (hs : ∀ i j, i < j → j < n → lt j i = false) : ∀ k, k < n → t k = k := by
  refine asc_id h.into (fun i j h1 h2 => ?_)
  have hr := h.srt i j (Nat.zero_le _) h1 h2
  rcases hr with hr | hr
  · rcases Nat.lt_trichotomy (t i) (t j) with h3 | h3 | h3
    · exact h3
    · rw [h3] at hr
      have := W.asym _ _ (h.into j h2) (h.into j h2) hr; rw [hr] at this; cases this
    · have := hs (t j) (t i) h3 (h.into i (by omega)); rw [hr] at this; cases this
  · exact hr.2
end
end Go.Proofs.YtgegialfhkgggaaGreatDoor.Stab
