/- Plain law: cuts as edits at offsets, joined, and the text that they leave. No condition but sizes. -/
import Derived.Test.YtgegialfhkgggaaGreatDoorAreLnM
import Derived.Test.YtgegialfhkgggaaGreatDoorPj
import Derived.Test.YtgegialfhkgggaaGreatDoorPm
import Derived.Test.YtgegialfhkgggaaGreatDoorPn
set_option linter.unusedVariables false
set_option linter.unusedSimpArgs false
namespace Go.Proofs.YtgegialfhkgggaaGreatDoor
open Go.RowKit Stab Go.Proofs.YtgegialfhkgggaaGreatDoor.Lines Mye

/-- The bytes are none, or end with a newline. -/
def endsX (l : List UInt8) : Prop := l.getLast?.getD 10 = 10
theorem endsB_iff {s : ByteArray} : endsB s = true ↔ endsX s.data.toList := by unfold endsB endsX; exact beq_iff_eq
theorem PL_zero (s : ByteArray) : PL s 0 = 1 ∧ PC s 0 = 1 := by
  have h := PL_off s 0 (Nat.zero_le _)
  rw [off_zero] at h
  exact h
theorem PrepC.congr {s : ByteArray} {es : List Ct} {f f' : Nat → Ed} (h : PrepC s es f) (e : ∀ i, i < es.length → f' i = f i) : PrepC s es f' := by
  intro A c W hA
  refine h A c W (fun i j hi hj => ?_)
  obtain ⟨b, o, h1, h2⟩ := hA i j hi hj
  exact ⟨b, o, h1, by rw [h2, e i hi]⟩
/-- The cuts as edits at offsets. -/
def cutsL (cs : List Int) (ts : List ByteArray) : List Ct := (List.range ts.length).map (ctCut (nOf cs) (tOf ts))
theorem cutsL_len (cs : List Int) (ts : List ByteArray) : (cutsL cs ts).length = ts.length := by simp [cutsL]
section
variable {s : ByteArray} {cs : List Int} {ts : List ByteArray}
theorem cutsN_asc {n : Nat} {N : Nat → Nat} (T : Nat → ByteArray) (h : CutsN s n N) : ∀ k, k ≤ n → AscC s.size ((List.range k).map (ctCut N T)) (lastN N k) := by
  intro k
  induction k with
  | zero => intro _; exact AscC.nil
  | succ k ih =>
    intro hk
    obtain ⟨h1, h2, h3⟩ := h.in_ k (by omega)
    rw [List.range_succ, List.map_append, List.map_cons, List.map_nil]
    exact AscC.snoc (e := ctCut N T k) (ih (by omega)) h1 h2 h3
theorem cutsN_joined {n : Nat} {N : Nat → Nat} (T : Nat → ByteArray) (h : CutsN s n N) (hE : endsB s = true) : ∀ k, k ≤ n → Joined s ((List.range k).map (ctCut N T)) (lastN N k) := by
  intro k
  induction k with
  | zero => intro _; exact Joined.nil
  | succ k ih =>
    intro hk
    obtain ⟨h1, h2, h3⟩ := h.in_ k (by omega)
    rw [List.range_succ, List.map_append, List.map_cons, List.map_nil]
    refine Joined.snoc (e := ctCut N T k) (ih (by omega)) ?_
    by_cases h0 : s.size = 0
    · right; left
      have e : (ctCut N T k).a = 0 := by show N (2 * k) = 0; omega
      rw [e, (PL_zero s).1]; exact Int.le_refl _
    · right; right; left
      have hx := endsB_iff.1 hE
      unfold endsX at hx
      cases hl : s.data.toList.getLast? with
      | none =>
        rw [List.getLast?_eq_none_iff] at hl
        have := size_list s
        rw [hl] at this
        exact absurd this.symm h0
      | some y => rw [hl] at hx; rw [← hx]; rfl
theorem Cuts.asc (h : Cuts s cs ts) : AscC s.size (cutsL cs ts) (lastN (nOf cs) ts.length) := cutsN_asc _ h.n _ (Nat.le_refl _)
theorem Cuts.joined (h : Cuts s cs ts) (hE : endsB s = true) : Joined s (cutsL cs ts) (lastN (nOf cs) ts.length) := cutsN_joined _ h.n hE _ (Nat.le_refl _)
theorem tOf_range (ts : List ByteArray) : (List.range ts.length).map (tOf ts) = ts := by
  apply List.ext_getElem
  · simp
  · intro i h1 h2
    simp only [List.getElem_map, List.getElem_range]
    unfold tOf
    rw [List.getD_eq_getElem?_getD, List.getElem?_eq_getElem h2]
    rfl
theorem cutsL_sum : sumT (cutsL cs ts) = sumSz ts := by
  unfold sumT sumSz cutsL
  rw [List.map_map]
  have e : ((fun c : Ct => c.t.size) ∘ ctCut (nOf cs) (tOf ts)) = (fun t : ByteArray => t.size) ∘ tOf ts := rfl
  rw [e, ← List.map_map, tOf_range]
theorem Cuts.sum (h : Cuts s cs ts) : s.size + sumT (cutsL cs ts) ≤ 100000 := by
  have h1 := h.2.2.1
  unfold shortB at h1
  rw [Bool.and_eq_true] at h1
  have h2 : sumSz (s :: ts) ≤ 100000 := by simpa using h1.1
  rw [cutsL_sum]
  unfold sumSz at h2 ⊢
  rw [List.map_cons, List.sum_cons] at h2
  exact h2
theorem cutsL_get {i : Nat} (hi : i < (cutsL cs ts).length) : (cutsL cs ts)[i] = ctCut (nOf cs) (tOf ts) i := by simp [cutsL]
/-- The cuts leave the text that After tells. -/
theorem Cuts.text (h : Cuts s cs ts) : toB (textC s.data.toList (cutsL cs ts)) = aftS s cs ts := by
  have h1 := textC_app s.data.toList (size_list s) h.asc (hOff s (nOf cs) (tOf ts)) (fun i hi => by
    rw [cutsL_get hi]
    have hi2 : i < ts.length := by rw [cutsL_len] at hi; exact hi
    exact (h.toO_off i hi2).1)
  rw [← h1, cutsL_len]
  exact appF_aft h.n (fun i hi => (h.toO_off i hi).1)
end
end Go.Proofs.YtgegialfhkgggaaGreatDoor
