/- Plain laws: the unified text of hunks, its lines and its length; numerals. No condition but sizes. -/
import Derived.Test.YtgegialfhkgggaaGreatDoorPm
import Derived.Test.YtgegialfhkgggaaGreatDoorPd
import Derived.Test.YtgegialfhkgggaaGreatDoorPl
import Derived.Lib.ItoaMem
import Derived.Lib.ParseIntBTie
import Derived.Test.YtgegialfhkgggaaGreatDoorPp
set_option linter.unusedVariables false
set_option linter.unusedSimpArgs false
namespace Go.Proofs.YtgegialfhkgggaaGreatDoor
open Go.RowKit Go.Proofs.YtgegialfhkgggaaGreatDoor.Lines

/-- The sign of a line; what tells that the line has no newline. -/
def signB (k : Nat) : UInt8 := if k = 0 then 45 else if k = 1 then 43 else 32
def noNl : List UInt8 := [92, 32, 78, 111, 32, 110, 101, 119, 108, 105, 110, 101, 32, 97, 116, 32, 101, 110, 100, 32, 111, 102, 32, 102, 105, 108, 101, 10]
def endsN (t : List UInt8) : Bool := t.getLast? == some 10
def lnT (x : Nat × ByteArray) : List UInt8 := signB x.1 :: (x.2.data.toList ++ (if endsN x.2.data.toList then [] else 10 :: noNl))
/-- How many lines of the old text, and of the new one. -/
def cntF (ls : List (Nat × ByteArray)) : Nat := (ls.filter (fun x => x.1 != 1)).length
def cntT (ls : List (Nat × ByteArray)) : Nat := (ls.filter (fun x => x.1 != 0)).length
def numT (sg : UInt8) (f : Int) (n : Nat) : List UInt8 := [32, sg] ++ Lib.itoa f ++ (if 1 < n then 44 :: Lib.itoa n else [])
def hdT (h : Hk.HK ByteArray) : List UInt8 := [64, 64] ++ numT 45 h.f (cntF h.ls) ++ numT 43 h.g (cntT h.ls) ++ [32, 64, 64, 10]
def hkT (h : Hk.HK ByteArray) : List UInt8 := hdT h ++ (h.ls.map lnT).flatten
def uniH (nf nt : List UInt8) : List UInt8 := ([45, 45, 45, 32] ++ nf ++ [10]) ++ ([43, 43, 43, 32] ++ nt ++ [10])
def uniT (nf nt : List UInt8) (hks : List (Hk.HK ByteArray)) : List UInt8 := if hks = [] then [] else uniH nf nt ++ (hks.map hkT).flatten
/-- The same as lines. -/
def lnLs (x : Nat × ByteArray) : List (List UInt8) := if endsN x.2.data.toList then [signB x.1 :: x.2.data.toList] else [signB x.1 :: (x.2.data.toList ++ [10]), noNl]
def hkLs (h : Hk.HK ByteArray) : List (List UInt8) := hdT h :: (h.ls.map lnLs).flatten

/-- No newline in it. -/
def noTen (l : List UInt8) : Prop := ∀ x ∈ l, x ≠ 10
theorem nlAt_app : ∀ (l r : List UInt8), noTen l → nlAt (l ++ 10 :: r) = l.length
  | [], r, _ => by simp [nlAt]
  | b :: l, r, h => by
    have hb : b ≠ 10 := h b (by simp)
    rw [List.cons_append, nlAt, if_neg hb, nlAt_app l r (fun x hx => h x (by simp [hx])), List.length_cons]
theorem lines_full (l r : List UInt8) (h : noTen l) : linesL (l ++ 10 :: r) = (l ++ [10]) :: linesL r := by
  rw [linesL_cons _ (by simp), nlAt_app l r h]
  congr 1
  · rw [List.take_append, List.take_of_length_le (by omega), show l.length + 1 - l.length = 1 by omega]; simp
  · rw [List.drop_append, List.drop_of_length_le (by omega), show l.length + 1 - l.length = 1 by omega]; simp
/-- Lines one behind the other. -/
theorem lines_flat (A : List (List UInt8)) (hA : ∀ x ∈ A, ∃ l, noTen l ∧ x = l ++ [10]) : linesL A.flatten = A := by
  induction A with
  | nil => rfl
  | cons a A ih =>
    obtain ⟨l, h1, rfl⟩ := hA a (by simp)
    rw [List.flatten_cons, List.append_assoc, List.singleton_append, lines_full l _ h1, ih (fun x hx => hA x (by simp [hx]))]
theorem dec_dig : ∀ (u : Nat), ∀ x ∈ Lib.decDigits u, 48 ≤ x.toNat ∧ x.toNat ≤ 57 := by
  intro u
  induction u using Nat.strongRecOn with
  | _ u ih =>
    intro x hx
    rw [Lib.decDigits] at hx
    by_cases h : u < 10
    · rw [dif_pos h] at hx
      have := List.mem_singleton.1 hx
      subst this
      rw [UInt8.toNat_ofNat']
      omega
    · rw [dif_neg h] at hx
      rcases List.mem_append.1 hx with h1 | h1
      · exact ih (u / 10) (by omega) x h1
      · have := List.mem_singleton.1 h1
        subst this
        rw [UInt8.toNat_ofNat']
        omega
theorem dec_noTen (u : Nat) : noTen (Lib.decDigits u) := fun x hx e => by
  have := dec_dig u x hx
  rw [e] at this
  exact absurd this (by decide)
theorem itoa_noTen (i : Int) : noTen (Lib.itoa i) := by
  unfold Lib.itoa
  split
  · intro x hx
    rcases List.mem_cons.1 hx with h | h
    · rw [h]; decide
    · exact dec_noTen _ x h
  · exact dec_noTen _
theorem noTen_app {a b : List UInt8} (h1 : noTen a) (h2 : noTen b) : noTen (a ++ b) := fun x hx => (List.mem_append.1 hx).elim (h1 x) (h2 x)
theorem numT_noTen (sg : UInt8) (hs : sg ≠ 10) (f : Int) (n : Nat) : noTen (numT sg f n) := by
  unfold numT
  refine noTen_app (noTen_app (fun x hx => ?_) (itoa_noTen f)) ?_
  · rcases List.mem_cons.1 hx with h | h
    · rw [h]; decide
    · have := List.mem_singleton.1 h; rw [this]; exact hs
  · split
    · intro x hx
      rcases List.mem_cons.1 hx with h | h
      · rw [h]; decide
      · exact itoa_noTen _ x h
    · intro x hx; cases hx
theorem hdT_full (h : Hk.HK ByteArray) : ∃ l, noTen l ∧ hdT h = l ++ [10] := by
  refine ⟨[64, 64] ++ numT 45 h.f (cntF h.ls) ++ numT 43 h.g (cntT h.ls) ++ [32, 64, 64], ?_, by unfold hdT; simp⟩
  refine noTen_app (noTen_app (noTen_app ?_ (numT_noTen _ (by decide) _ _)) (numT_noTen _ (by decide) _ _)) ?_
  · intro x hx; revert hx; revert x; decide
  · intro x hx; revert hx; revert x; decide
/-- A line as it stands in a text: a newline at most at its end. -/
def OneLn (t : ByteArray) : Prop := noTen t.data.toList ∨ ∃ l, noTen l ∧ t.data.toList = l ++ [10]
theorem signB_ne (k : Nat) : signB k ≠ 10 := by unfold signB; (repeat' split) <;> decide
theorem endsN_snoc (l : List UInt8) : endsN (l ++ [10]) = true := by simp [endsN]
theorem endsN_no {l : List UInt8} (h : noTen l) : endsN l = false := by
  unfold endsN
  cases hl : l.getLast? with
  | none => rfl
  | some x =>
    have hm := List.mem_of_getLast? hl
    have := h x hm
    simpa using this
theorem lnLs_full {x : Nat × ByteArray} (h : OneLn x.2) : ∀ y ∈ lnLs x, ∃ l, noTen l ∧ y = l ++ [10] := by
  intro y hy
  unfold lnLs at hy
  have hs := signB_ne x.1
  rcases h with h | ⟨l, h1, h2⟩
  · rw [endsN_no h, if_neg (by decide)] at hy
    rcases List.mem_cons.1 hy with hy | hy
    · refine ⟨signB x.1 :: x.2.data.toList, fun z hz => ?_, by rw [hy]; rfl⟩
      rcases List.mem_cons.1 hz with h3 | h3
      · rw [h3]; exact hs
      · exact h z h3
    · have := List.mem_singleton.1 hy
      subst this
      exact ⟨noNl.dropLast, by unfold noTen noNl; decide, by decide⟩
  · rw [h2, endsN_snoc, if_pos rfl] at hy
    have := List.mem_singleton.1 hy
    subst this
    refine ⟨signB x.1 :: l, fun z hz => ?_, rfl⟩
    rcases List.mem_cons.1 hz with h3 | h3
    · rw [h3]; exact hs
    · exact h1 z h3
theorem lnLs_flat (x : Nat × ByteArray) : (lnLs x).flatten = lnT x := by
  unfold lnLs lnT
  split <;> simp
theorem hkLs_flat (h : Hk.HK ByteArray) : (hkLs h).flatten = hkT h := by
  unfold hkLs hkT
  rw [List.flatten_cons]
  congr 1
  generalize h.ls = ls
  induction ls with
  | nil => rfl
  | cons a r ih => simp only [List.map_cons, List.flatten_cons, List.flatten_append, ih, lnLs_flat]
/-- The lines of the text of hunks. -/
def uniLs (nf nt : List UInt8) (hks : List (Hk.HK ByteArray)) : List (List UInt8) := ([45, 45, 45, 32] ++ nf ++ [10]) :: ([43, 43, 43, 32] ++ nt ++ [10]) :: (hks.map hkLs).flatten
theorem uni_lines {nf nt : List UInt8} {hks : List (Hk.HK ByteArray)} (h1 : noTen nf) (h2 : noTen nt) (h0 : hks ≠ []) (hl : ∀ h ∈ hks, ∀ x ∈ h.ls, OneLn x.2) : linesL (uniT nf nt hks) = uniLs nf nt hks := by
  have e : uniT nf nt hks = (uniLs nf nt hks).flatten := by
    unfold uniT uniLs uniH
    rw [if_neg h0]
    simp only [List.flatten_cons, List.append_assoc]
    have e2 : (hks.map hkT).flatten = ((hks.map hkLs).flatten).flatten := by
      clear h0 hl
      induction hks with
      | nil => rfl
      | cons a r ih => simp only [List.map_cons, List.flatten_cons, List.flatten_append, ih, hkLs_flat]
    rw [e2]
  rw [e]
  refine lines_flat _ (fun x hx => ?_)
  rcases List.mem_cons.1 hx with h | hx
  · exact ⟨[45, 45, 45, 32] ++ nf, noTen_app (by unfold noTen; decide) h1, h⟩
  rcases List.mem_cons.1 hx with h | hx
  · exact ⟨[43, 43, 43, 32] ++ nt, noTen_app (by unfold noTen; decide) h2, h⟩
  obtain ⟨y, hy, hx⟩ := List.mem_flatten.1 hx
  obtain ⟨k, hk, rfl⟩ := List.mem_map.1 hy
  rcases List.mem_cons.1 hx with h | hx
  · rw [h]; exact hdT_full k
  · obtain ⟨z, hz, hx⟩ := List.mem_flatten.1 hx
    obtain ⟨q, hq, rfl⟩ := List.mem_map.1 hz
    exact lnLs_full (hl k hk q hq) x hx
end Go.Proofs.YtgegialfhkgggaaGreatDoor
namespace Go.Proofs.YtgegialfhkgggaaGreatDoor

theorem dg_byte (k : Nat) (h : k < 10) : (UInt8.ofNat (48 + k)).toNat = 48 + k := by rw [UInt8.toNat_ofNat']; omega
theorem dec_read : ∀ (u : Nat) (r : List UInt8), u ≤ 1000000000000000000 → Lib.parseUint10 0 (Lib.decDigits u ++ r) = Lib.parseUint10 u r := by
  intro u
  induction u using Nat.strongRecOn with
  | _ u ih =>
    intro r hu
    rw [Lib.decDigits]
    by_cases h : u < 10
    · rw [dif_pos h, List.singleton_append, Lib.parseUint10, dg_byte u h, if_pos (by omega), if_neg (by omega), if_neg (by omega)]
      congr 1; omega
    · rw [dif_neg h, List.append_assoc, List.singleton_append, ih (u / 10) (by omega) _ (by omega), Lib.parseUint10, dg_byte (u % 10) (by omega), if_pos (by omega), if_neg (by omega), if_neg (by omega)]
      congr 1; omega
theorem dec_cons (u : Nat) : ∃ c r, Lib.decDigits u = c :: r := by
  cases h : Lib.decDigits u with
  | nil =>
    have h1 := Lib.decDigits_length u
    have h2 := Lib.nDigits_pos u
    rw [h] at h1
    simp at h1
    omega
  | cons c r => exact ⟨c, r, rfl⟩
theorem dec_digit : ∀ (u : Nat), ∀ x ∈ Lib.decDigits u, 48 ≤ x.toNat ∧ x.toNat ≤ 57 := by
  intro u
  induction u using Nat.strongRecOn with
  | _ u ih =>
    intro x hx
    rw [Lib.decDigits] at hx
    by_cases h : u < 10
    · rw [dif_pos h] at hx
      have := List.mem_singleton.1 hx
      subst this
      rw [dg_byte u h]
      omega
    · rw [dif_neg h] at hx
      rcases List.mem_append.1 hx with h1 | h1
      · exact ih (u / 10) (by omega) x h1
      · have := List.mem_singleton.1 h1
        subst this
        rw [dg_byte _ (by omega)]
        omega
theorem dec_parse (u : Nat) (hu : u ≤ 1000000000000000000) : Lib.parseIntB 64 (Lib.decDigits u) = .ok (u : Int) := by
  rw [Lib.parseIntB_64]
  have hr := dec_read u [] hu
  rw [List.append_nil, Lib.parseUint10] at hr
  have hd := dec_digit u
  obtain ⟨c, r, h⟩ := dec_cons u
  rw [h] at hr hd ⊢
  have hc := hd c (by simp)
  unfold Lib.atoiAll
  simp only
  rw [if_neg (by omega)]
  unfold Lib.parseMag
  rw [if_neg (by simp), hr]
  simp only
  rw [if_neg (by omega), if_neg (by omega), if_neg (by omega)]
/-- A text that ends with a mark that is no digit, and maybe a number. -/
def Tail (s R : List UInt8) (x : UInt8) (n : Int) : Prop := x.toNat < 128 ∧ ¬ (48 ≤ x.toNat ∧ x.toNat ≤ 57) ∧ ((s = R ++ [x] ∧ n = -1) ∨ ∃ u : Nat, u ≤ 1000000000000000000 ∧ s = R ++ x :: Lib.decDigits u ∧ n = u)
end Go.Proofs.YtgegialfhkgggaaGreatDoor
namespace Go.Proofs.YtgegialfhkgggaaGreatDoor
open Go.RowKit Go.Proofs.YtgegialfhkgggaaGreatDoor.Lines

/-- The number that digits tell. -/
def valL (l : List UInt8) : Nat := l.foldl (fun a b => a * 10 + (b.toNat - 48)) 0
theorem valL_snoc (l : List UInt8) (b : UInt8) : valL (l ++ [b]) = valL l * 10 + (b.toNat - 48) := by simp [valL]
theorem valL_mono (l r : List UInt8) : valL l ≤ valL (l ++ r) := by
  unfold valL
  rw [List.foldl_append]
  generalize List.foldl (fun a b => a * 10 + (b.toNat - 48)) 0 l = a
  induction r generalizing a with
  | nil => exact Nat.le_refl _
  | cons x r ih => rw [List.foldl_cons]; exact Nat.le_trans (by omega) (ih _)
theorem valL_dec (u : Nat) : valL (Lib.decDigits u) = u := by
  induction u using Nat.strongRecOn with
  | _ u ih =>
    rw [Lib.decDigits]
    by_cases h : u < 10
    · rw [dif_pos h]
      show 0 * 10 + ((UInt8.ofNat (48 + u)).toNat - 48) = u
      rw [dg_byte u h]; omega
    · rw [dif_neg h, valL_snoc, ih (u / 10) (by omega), dg_byte _ (by omega)]; omega
theorem nDig_le9 {u : Nat} (h : u ≤ 999999999) : Lib.nDigits u ≤ 9 := by
  rcases Nat.lt_or_ge (Lib.nDigits u) 10 with h1 | h1
  · omega
  · exfalso
    have : ∀ k u, Lib.nDigits u = k + 1 → k = 0 ∨ 10 ^ k ≤ u := by
      intro k
      induction k with
      | zero => intro u _; exact Or.inl rfl
      | succ k ih =>
        intro u h
        by_cases h2 : u < 10
        · rw [Lib.nDigits_small h2] at h; omega
        · rw [Lib.nDigits_big h2] at h
          rcases ih (u / 10) (by omega) with h3 | h3
          · subst h3; right; omega
          · right; rw [Nat.pow_succ]; omega
    obtain ⟨k, hk⟩ : ∃ k, Lib.nDigits u = k + 1 := ⟨Lib.nDigits u - 1, by omega⟩
    rcases this k u hk with h3 | h3
    · omega
    · have h4 : 10 ^ 9 ≤ 10 ^ k := Nat.pow_le_pow_right (by decide) (by omega)
      have h5 : (10 : Nat) ^ 9 = 1000000000 := by decide
      omega

/-! How much text hunks make. -/
def wt (l : List ByteArray) : Nat := (l.map (fun x => x.size + 30)).sum
theorem wt_app (a b : List ByteArray) : wt (a ++ b) = wt a + wt b := by simp [wt]
theorem wt_cons (x : ByteArray) (l : List ByteArray) : wt (x :: l) = (x.size + 30) + wt l := by simp [wt]
theorem lnT_len (x : Nat × ByteArray) : (lnT x).length ≤ x.2.size + 30 := by
  unfold lnT
  rw [List.length_cons, List.length_append, size_list]
  split
  · simp
  · simp [noNl]
theorem lns_len (ls : List (Nat × ByteArray)) : ((ls.map lnT).flatten).length ≤ wt (Hk.olds ls) + wt (Hk.news ls) := by
  induction ls with
  | nil => simp
  | cons x r ih =>
    have h := lnT_len x
    have e1 : Hk.olds (x :: r) = Hk.olds [x] ++ Hk.olds r := Hk.olds_app [x] r
    have e2 : Hk.news (x :: r) = Hk.news [x] ++ Hk.news r := Hk.news_app [x] r
    rw [List.map_cons, List.flatten_cons, List.length_append, e1, e2, wt_app, wt_app]
    have h2 : x.2.size + 30 ≤ wt (Hk.olds [x]) + wt (Hk.news [x]) := by
      by_cases c : x.1 = 0
      · have : Hk.olds [x] = [x.2] := by simp [Hk.olds, c]
        rw [this, wt_cons]; omega
      · have : Hk.news [x] = [x.2] := by simp [Hk.news, c]
        rw [this, wt_cons]; omega
    omega
theorem dec_len20 {u : Nat} (h : u ≤ 1000000000000) : (Lib.decDigits u).length ≤ 20 := by
  have : ∀ k u, u < 10 ^ k → Lib.nDigits u ≤ k ∨ k = 0 := by
    intro k
    induction k with
    | zero => intro u _; exact Or.inr rfl
    | succ k ih =>
      intro u hu
      left
      by_cases h2 : u < 10
      · rw [Lib.nDigits_small h2]; omega
      · rw [Lib.nDigits_big h2]
        rw [Nat.pow_succ] at hu
        rcases ih (u / 10) (by omega) with h3 | h3
        · omega
        · subst h3; omega
  rw [Lib.decDigits_length]
  rcases this 20 u (Nat.lt_of_le_of_lt h (by decide)) with h3 | h3 <;> omega
theorem itoa_len (i : Int) (h0 : 0 ≤ i) (h : i ≤ 1000000000000) : (Lib.itoa i).length ≤ 20 := by
  obtain ⟨u, rfl⟩ := Int.eq_ofNat_of_zero_le h0
  rw [Lib.itoa_nonneg]
  exact dec_len20 (by omega)
theorem numT_len (sg : UInt8) (f : Int) (n : Nat) (h0 : 0 ≤ f) (h1 : f ≤ 1000000000000) (hn : n ≤ 1000000000000) : (numT sg f n).length ≤ 43 := by
  have e1 := itoa_len f h0 h1
  have e2 := itoa_len n (by omega) (by omega)
  unfold numT
  split
  · simp only [List.length_append, List.length_cons, List.length_nil]; omega
  · simp only [List.length_append, List.length_cons, List.length_nil]; omega
end Go.Proofs.YtgegialfhkgggaaGreatDoor
namespace Go.Proofs.YtgegialfhkgggaaGreatDoor
open Go.RowKit Go.Proofs.YtgegialfhkgggaaGreatDoor.Lines

/-! Lines of a text have a newline at most at their ends. -/
theorem noTen_take (l : List UInt8) : noTen (l.take (nlAt l)) := by
  induction l with
  | nil => intro x hx; simp at hx
  | cons b t ih =>
    unfold nlAt
    by_cases h : b = 10
    · rw [if_pos h]; intro x hx; simp at hx
    · rw [if_neg h, List.take_succ_cons]
      intro x hx
      rcases List.mem_cons.1 hx with h1 | h1
      · rw [h1]; exact h
      · exact ih x h1
theorem take_nl (l : List UInt8) : noTen (l.take (nlAt l + 1)) ∨ ∃ k, noTen k ∧ l.take (nlAt l + 1) = k ++ [10] := by
  by_cases h : nlAt l < l.length
  · right
    refine ⟨l.take (nlAt l), noTen_take l, ?_⟩
    rw [List.take_succ_eq_append_getElem h]
    have h10 := nlAt_ten l h
    rw [List.getD_eq_getElem?_getD, List.getElem?_eq_getElem h, Option.getD_some] at h10
    rw [h10]
  · left
    have h2 := noTen_take l
    rw [List.take_of_length_le (by omega)]
    rw [List.take_of_length_le (by omega)] at h2
    exact h2
theorem lines_one (n : Nat) : ∀ l : List UInt8, l.length ≤ n → ∀ x ∈ linesL l, noTen x ∨ ∃ k, noTen k ∧ x = k ++ [10] := by
  induction n with
  | zero =>
    intro l hl x hx
    have : l = [] := List.length_eq_zero_iff.1 (by omega)
    subst this
    exact absurd hx (by simp [linesL])
  | succ n ih =>
    intro l hl x hx
    by_cases h0 : l = []
    · subst h0; exact absurd hx (by simp [linesL])
    · rw [linesL_cons _ h0] at hx
      rcases List.mem_cons.1 hx with h1 | h1
      · rw [h1]; exact take_nl l
      · refine ih _ ?_ x h1
        have : 0 < l.length := List.length_pos_iff.2 h0
        rw [List.length_drop]; omega
theorem linesB_one {s x : ByteArray} (h : x ∈ linesB s) : OneLn x := by
  unfold linesB at h
  obtain ⟨y, hy, rfl⟩ := List.mem_map.1 h
  have := lines_one _ s.data.toList (Nat.le_refl _) y hy
  unfold OneLn
  rw [toB_list]
  exact this

/-! Lists by their ends. -/
theorem snoc_ind {α : Type} {p : List α → Prop} (h0 : p []) (h1 : ∀ l x, p l → p (l ++ [x])) : ∀ l, p l := by
  have : ∀ n (l : List α), l.length = n → p l := by
    intro n
    induction n with
    | zero => intro l hl; rw [List.length_eq_zero_iff.1 hl]; exact h0
    | succ n ih =>
      intro l hl
      have hne : l ≠ [] := fun e => by rw [e] at hl; simp at hl
      rw [← List.dropLast_concat_getLast hne]
      exact h1 _ _ (ih _ (by rw [List.length_dropLast]; omega))
  exact fun l => this _ l rfl
theorem take_wt (A : List ByteArray) {i j : Nat} (h : i ≤ j) : wt (A.take j) = wt (A.take i) + wt (Hk.seg A i j) := by
  unfold Hk.seg
  conv => lhs; rw [show j = i + (j - i) by omega, List.take_add, wt_app]
theorem hk_wt {A : List ByteArray} : ∀ hs : List (Hk.HK ByteArray), Hk.PatOk A hs → (hs.map (fun h => wt (Hk.olds h.ls) + wt (Hk.news h.ls))).sum ≤ wt (Hk.pst A hs).1 + wt (A.take (Hk.pst A hs).2) := by
  refine snoc_ind (fun _ => by simp) (fun hs h ih H => ?_)
  obtain ⟨q1, q, hf, hp, hl, ho⟩ := Hk.getLast_snoc H
  have h1 := ih q1
  rw [Hk.pst_snoc]
  unfold Hk.pstep
  rw [Hk.hok_q hf]
  simp only [List.map_append, List.map_cons, List.map_nil, List.sum_append, List.sum_cons, List.sum_nil, wt_app]
  rw [take_wt A (show q ≤ q + (Hk.olds h.ls).length by omega), ← ho, take_wt A hp]
  omega
theorem hk_news {A : List ByteArray} : ∀ hs : List (Hk.HK ByteArray), Hk.PatOk A hs → ∀ h ∈ hs, (∀ y ∈ Hk.olds h.ls, y ∈ A) ∧ ∀ y ∈ Hk.news h.ls, y ∈ (Hk.pst A hs).1 := by
  refine snoc_ind (fun _ h hh => by simp at hh) (fun hs h ih H => ?_)
  obtain ⟨q1, q, hf, hp, hl, ho⟩ := Hk.getLast_snoc H
  have h1 := ih q1
  intro g hg
  rw [Hk.pst_snoc]
  unfold Hk.pstep
  simp only [List.mem_append]
  rcases List.mem_append.1 hg with h2 | h2
  · exact ⟨(h1 g h2).1, fun y hy => Or.inl (Or.inl ((h1 g h2).2 y hy))⟩
  · obtain rfl := List.mem_singleton.1 h2
    refine ⟨fun y hy => ?_, fun y hy => Or.inr hy⟩
    rw [ho] at hy
    exact List.mem_of_mem_drop (List.mem_of_mem_take hy)
theorem eap_mem {A : List ByteArray} : ∀ es : List (Hk.LE ByteArray), ∀ y ∈ (Hk.eap A es).1, y ∈ A ∨ ∃ e ∈ es, y ∈ e.t := by
  refine snoc_ind (fun y hy => by simp [Hk.eap] at hy) (fun es e ih y hy => ?_)
  rw [Hk.eap_snoc] at hy
  unfold Hk.eapS at hy
  simp only [List.mem_append] at hy
  rcases hy with (hy | hy) | hy
  · rcases ih y hy with h | ⟨f, hf, h⟩
    · exact Or.inl h
    · exact Or.inr ⟨f, by simp [hf], h⟩
  · exact Or.inl (List.mem_of_mem_drop (List.mem_of_mem_take hy))
  · exact Or.inr ⟨e, by simp, hy⟩
theorem cntF_olds (ls : List (Nat × ByteArray)) : cntF ls = (Hk.olds ls).length := by
  unfold cntF Hk.olds
  rw [List.length_map]
  congr 1
  refine List.filter_congr (fun x _ => ?_)
  by_cases h : x.1 = 1 <;> simp [h]
theorem cntT_news (ls : List (Nat × ByteArray)) : cntT ls = (Hk.news ls).length := by
  unfold cntT Hk.news
  rw [List.length_map]
  congr 1
  refine List.filter_congr (fun x _ => ?_)
  by_cases h : x.1 = 0 <;> simp [h]
theorem wt_flat (l : List ByteArray) : wt l = (flatB l).length + 30 * l.length := by
  unfold wt flatB
  induction l with
  | nil => rfl
  | cons x r ih =>
    simp only [List.map_cons, List.sum_cons, List.flatten_cons, List.length_append, List.length_cons, size_list] at ih ⊢
    omega
theorem foldC_len {n : Nat} (l : List UInt8) (hn : l.length = n) {es : List Ct} {p : Nat} (h : AscC n es p) : (foldC l es).1.length ≤ p + sumT es := by
  induction h with
  | nil => simp [foldC]
  | @snoc es p e h1 h2 h3 h4 ih =>
    have hp := ascC_fold l h1
    rw [foldC_snoc, appS_up l _ _ (by rw [hp]; exact h2), sumT_snoc]
    unfold upTo ctO
    simp only [List.length_append, List.length_take, List.length_drop, hp, size_list]
    omega

/-- What is to be known of the lines of hunks. -/
structure HkMore (nf nt : List UInt8) (hks : List (Hk.HK ByteArray)) : Prop where
  one : ∀ h ∈ hks, ∀ x ∈ h.ls, OneLn x.2
  kind : ∀ h ∈ hks, ∀ x ∈ h.ls, x.1 ≤ 2
  num : ∀ h ∈ hks, 1 ≤ h.f ∧ h.f ≤ 999999999 ∧ 1 ≤ h.g ∧ h.g ≤ 999999999 ∧ cntF h.ls ≤ 999999999 ∧ cntT h.ls ≤ 999999999
  cnt : hks.length ≤ 2000
  len : (uniT nf nt hks).length ≤ 100000000000
theorem hkMore {s : ByteArray} {es : List Ct} {p : Nat} (h : AscC s.size es p) (hs : s.size ≤ 100000) (hn : es.length ≤ 2000) (hsum : sumT es ≤ 100000000) (nf nt : List UInt8) (h1 : nf.length ≤ 1000) (h2 : nt.length ≤ 1000) : HkMore nf nt (HKs s (fullOf s es)) := by
  have hG := hkGen h hs hn hsum
  have hF := fullOf_ok h
  obtain ⟨pf, hfa⟩ := hF.asc
  have hA := leC_asc hfa
  have hD := Hk.hunks_done hA
  have ht := le_textC hfa hF.full
  have hput := putN_le s (fullOf s es)
  have hsz := hF.size
  have hmul := Nat.mul_le_mul hn (show 2 * s.size ≤ 200000 by omega)
  have hls := linesB_le_size s
  have htx := hG.text
  have hfl := foldC_len s.data.toList (size_list s) h
  have hp := ascC_le h
  have htl : (textC s.data.toList es).length ≤ 100300000 := by
    unfold textC
    rw [List.length_append, List.length_drop, size_list]
    omega
  have hw := hk_wt _ hG.pat
  have hnw := hk_news _ hG.pat
  have hout := hG.out
  have hlen := hG.len
  have hgood : ∀ h ∈ HKs s (fullOf s es), (∀ x ∈ h.ls, x.1 ≤ 2) ∧ 1 ≤ h.f ∧ h.f ≤ (linesB s).length + 1 ∧ 1 ≤ h.g ∧ h.g ≤ (linesB s).length + Hk.putN ((fullOf s es).map (leC s)) + 1 ∧ h.ls.length ≤ (linesB s).length + Hk.putN ((fullOf s es).map (leC s)) := hD.good
  have hpat := hG.pat
  have hdt : (Hk.pst (linesB s) (HKs s (fullOf s es))).1 ++ (linesB s).drop (Hk.pst (linesB s) (HKs s (fullOf s es))).2 = (Hk.eap (linesB s) ((fullOf s es).map (leC s))).1 ++ (linesB s).drop (Hk.eap (linesB s) ((fullOf s es).map (leC s))).2 := hD.text
  clear hfl hfa ht hF hA
  generalize HKs s (fullOf s es) = hks at *
  have hwt1 : wt (Hk.pst (linesB s) hks).1 ≤ 100300000 + 30 * 1000000000 := by
    rw [wt_flat]
    have := congrArg List.length htx
    rw [flatB_app, List.length_append] at this
    omega
  have hwt2 : wt ((linesB s).take (Hk.pst (linesB s) hks).2) ≤ 100000 + 30 * 100000 := by
    have e := wt_app ((linesB s).take (Hk.pst (linesB s) hks).2) ((linesB s).drop (Hk.pst (linesB s) hks).2)
    rw [List.take_append_drop, wt_flat, flatB_lines, size_list] at e
    omega
  have hone : ∀ h ∈ hks, ∀ x ∈ h.ls, OneLn x.2 := by
    intro h hh x hx
    obtain ⟨n1, n2⟩ := hnw h hh
    by_cases c : x.1 = 1
    · have hm : x.2 ∈ Hk.news h.ls := List.mem_map.2 ⟨x, List.mem_filter.2 ⟨hx, by simp [c]⟩, rfl⟩
      have h3 : x.2 ∈ (Hk.pst (linesB s) hks).1 ++ (linesB s).drop (Hk.pst (linesB s) hks).2 := List.mem_append.2 (Or.inl (n2 _ hm))
      rw [hdt] at h3
      rcases List.mem_append.1 h3 with h4 | h4
      · rcases eap_mem _ _ h4 with h5 | ⟨e, he, h5⟩
        · exact linesB_one h5
        · obtain ⟨k, _, rfl⟩ := List.mem_map.1 he
          exact linesB_one h5
      · exact linesB_one (List.mem_of_mem_drop h4)
    · have hm : x.2 ∈ Hk.olds h.ls := List.mem_map.2 ⟨x, List.mem_filter.2 ⟨hx, by simp [c]⟩, rfl⟩
      exact linesB_one (n1 _ hm)
  have hnum : ∀ h ∈ hks, 1 ≤ h.f ∧ h.f ≤ 999999999 ∧ 1 ≤ h.g ∧ h.g ≤ 999999999 ∧ cntF h.ls ≤ 999999999 ∧ cntT h.ls ≤ 999999999 := by
    intro h hh
    obtain ⟨_, a, b, c, d, f⟩ := hgood h hh
    have g1 : cntF h.ls ≤ h.ls.length := by unfold cntF; exact List.length_filter_le _ _
    have g2 : cntT h.ls ≤ h.ls.length := by unfold cntT; exact List.length_filter_le _ _
    exact ⟨a, by omega, c, by omega, by omega, by omega⟩
  refine ⟨hone, fun h hh => (hgood h hh).1, hnum, by omega, ?_⟩
  unfold uniT uniH
  split
  · simp
  · have hsumm : ((hks.map hkT).flatten).length ≤ 100 * hks.length + (hks.map (fun h => wt (Hk.olds h.ls) + wt (Hk.news h.ls))).sum := by
      rename_i hnil
      clear hnil hw hnw hout hlen hgood hpat hdt hwt1 hwt2 hone htx hD hG
      induction hks with
      | nil => simp
      | cons a r ih =>
        have h3 := ih (fun h hh => hnum h (by simp [hh]))
        obtain ⟨a1, a2, a3, a4, a5, a6⟩ := hnum a (by simp)
        have h4 := lns_len a.ls
        have h5 := numT_len 45 a.f (cntF a.ls) (by omega) (by omega) (by omega)
        have h6 := numT_len 43 a.g (cntT a.ls) (by omega) (by omega) (by omega)
        have h7 : (hkT a).length ≤ 100 + (wt (Hk.olds a.ls) + wt (Hk.news a.ls)) := by
          unfold hkT hdT
          simp only [List.length_append, List.length_cons, List.length_nil]
          omega
        rw [List.map_cons, List.flatten_cons, List.length_append, List.length_cons, List.map_cons, List.sum_cons]
        omega
    simp only [List.length_append, List.length_cons, List.length_nil]
    omega
end Go.Proofs.YtgegialfhkgggaaGreatDoor
