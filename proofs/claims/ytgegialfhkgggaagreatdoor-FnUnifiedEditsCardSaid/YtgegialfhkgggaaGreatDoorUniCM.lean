/- Contract: unified texts of cuts within lines: what FnUnifiedEdits needs of hunks. No condition but sizes. -/
import Derived.Test.YtgegialfhkgggaaGreatDoorPt
import Derived.Test.YtgegialfhkgggaaGreatDoorCutsLM
set_option linter.unusedVariables false
set_option linter.unusedSimpArgs false
namespace Go.Proofs.YtgegialfhkgggaaGreatDoor
open Go.RowKit Stab Go.Proofs.YtgegialfhkgggaaGreatDoor.Lines Mye

/-- The cuts, as plain edits in their order. -/
def peL (cs : List Int) (ts : List ByteArray) : List Pe := (List.range ts.length).map (peOff (nOf cs) (tOf ts))
theorem uni_cuts {s : ByteArray} {cs : List Int} {ts : List ByteArray} (h : LinesOk s cs ts) (s0 : s.size ≠ 0) (t0 : (aftS s cs ts).size ≠ 0) (hne : aftS s cs ts ≠ s) : UniThree ⟨#[97]⟩ ⟨#[98]⟩ s (peL cs ts) ts.length (textC s.data.toList (cutsL cs ts)) := by
  have hz := h.1.sum
  have h50 := h.1.2.1
  have hlen := cutsL_len cs ts
  have htx := h.1.text
  have hP : PrepC s (cutsL cs ts) (edAt ((peL cs ts).map toEd)) := (prepC_cuts (T := tOf ts) (B := 0) (ar := false) h.1.n (by omega) (by omega)).congr (fun i hi => by
    have hi2 : i < ts.length := by simpa using hi
    rw [edAt_get (by simpa [peL] using hi2)]
    simp [peL, turnIx, Nat.mod_eq_of_lt hi2])
  have := uniThree ⟨#[97]⟩ ⟨#[98]⟩ s (peL cs ts) (cutsL cs ts) _ (by decide) (by decide) (by unfold noTen; decide) (by unfold noTen; decide) (by omega) h.1.asc (h.1.joined h.2.1) (by omega) (by omega) (by rw [hlen]; simp [peL]) hP s0 (by
    intro e
    rw [e] at htx
    rw [← htx] at t0
    exact t0 rfl) (by
    intro e
    rw [e, toB_of] at htx
    exact hne htx.symm)
  rw [hlen] at this
  exact this
end Go.Proofs.YtgegialfhkgggaaGreatDoor
