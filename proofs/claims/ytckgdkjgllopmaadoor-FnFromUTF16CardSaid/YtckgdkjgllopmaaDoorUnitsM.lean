/- Walks: spec.Units, utf16.RuneLen, utf16.EncodeRune, utf16.Encode. No condition but sizes. -/
import Derived.Test.YtckgdkjgllopmaaDoorWideM
import Derived.Test.YtckgdkjgllopmaaDoorPd
import Derived.OwnWalk
set_option linter.unusedVariables false
set_option linter.unusedSimpArgs false
namespace Go.Proofs.YtckgdkjgllopmaaDoor
open Go.RowKit Go.Proofs.YtckgdkjgllopmaaDoor.Lines
attribute [local go_sem ↓] Go.wp_at_zero Go.wp_at_succ

theorem drop_list (s : ByteArray) (n : Nat) : (s.extract n s.size).data.toList = s.data.toList.drop n := by
  rw [extract_list, List.take_of_length_le (by rw [List.length_drop, size_list]; omega)]
theorem list_ne {s : ByteArray} (h : ¬ s.size = 0) : s.data.toList ≠ [] := fun he => by have := size_list s; rw [he, List.length_nil] at this; omega

set_option maxHeartbeats 1000000 in
theorem units_any (s : ByteArray) (hs : s.size ≤ 2147483647) (w : World) : Calls Tryd.prog 11 #[.string s] w fun e w' => e = .returned (.int .i64 (units s.data.toList)) ∧ Below w.heap.size w w' := by
  have hmax := units_le _ s.data.toList (Nat.le_refl _)
  rw [size_list] at hmax
  go_enter Tryd.func11, Tryd.ntmps11
  go_wp2
  go_loopw [0, 3] (fun t out wr => ∃ (r : ByteArray) (u : Nat), t = .string r ∧ out = .int .i64 u ∧ Hid (u + units r.data.toList = units s.data.toList) ∧ u ≤ 4294967294 ∧ r.size ≤ s.size ∧ Below w.heap.size w wr) (fun t _ _ => match t with | .string r => r.size | _ => 0)
  case atStart => exact ⟨s, 0, rfl, rfl, hide (by simp), by omega, Nat.le_refl _, by go_grown⟩
  case round =>
    obtain ⟨r, u, rfl, rfl, hu, hub, hle, hbl⟩ := hrel
    have HM := hide hmax
    clear hmax
    by_cases hr : r.size = 0
    · have := string_empty hr
      subst this
      go_wp2
      go_ret
      have h := hu.out
      simp only [units_nil] at h
      exact ⟨ret_int (by omega), hbl⟩
    · have hne : r.toList.isEmpty = false := str_ne hr
      have hl := list_ne hr
      have hf := dec_fits _ hl
      rw [size_list] at hf
      have h1 := (dec_wide r.data.toList).1
      have hc := units_cons hl
      have hW := fun W => wide_any r (by omega) (by omega) W
      have hd := drop_list r (dec r.data.toList).2
      have HW := hide hW
      have HC := hide hc
      have HD := hide hd
      clear hW hc hd
      generalize hdd : dec r.data.toList = d at *
      obtain ⟨rr, n⟩ := d
      simp only at *
      have hsz : (r.extract n r.size).size < r.size := by rw [ByteArray.size_extract]; omega
      cases hq : decide (65536 ≤ rr)
      · have hu1 : unit rr = 1 := by unfold unit; rw [if_neg (by simpa using hq)]
        have hn : Hid ((u + 1) + units (r.extract n r.size).data.toList = units s.data.toList) := hide (by have := HC.out; have h2 := hu.out; rw [HD.out]; rw [this, hu1] at h2; omega)
        have hb1 : u + 1 ≤ 4294967294 := by have h2 := hn.out; have := HM.out; omega
        go_wp2_with fail
        refine (HW.out _).mono ?_
        rintro e w1 ⟨rfl, hb⟩
        have hbl1 := hbl.trans (hb.mono hbl.size)
        rw [hq]
        go_wp2
        go_roundw
        case rel => exact ⟨_, u + 1, rfl, by go_num, hn, hb1, by omega, hbl1⟩
        case measure => simpa using hsz
      · have hu1 : unit rr = 2 := by unfold unit; rw [if_pos (by simpa using hq)]
        have hn : Hid ((u + 2) + units (r.extract n r.size).data.toList = units s.data.toList) := hide (by have := HC.out; have h2 := hu.out; rw [HD.out]; rw [this, hu1] at h2; omega)
        have hb1 : u + 2 ≤ 4294967294 := by have h2 := hn.out; have := HM.out; omega
        go_wp2_with fail
        refine (HW.out _).mono ?_
        rintro e w1 ⟨rfl, hb⟩
        have hbl1 := hbl.trans (hb.mono hbl.size)
        rw [hq]
        go_wp2
        go_roundw
        case rel => exact ⟨_, u + 2, rfl, by go_num, hn, hb1, by omega, hbl1⟩
        case measure => simpa using hsz

/-- Character k of a list. -/
def rn (rs : List Nat) (k : Nat) : Nat := rs.getD k 0
/-- The characters of a list in a block. -/
def Runes (w : World) (g : Nat) (rs : List Nat) : Prop := ∀ i, i < rs.length → w.cell? ⟨g, i, none⟩ = some (.int .i32 (rn rs i : Nat))
/-- The units of the first k characters. -/
def sumU (rs : List Nat) (k : Nat) : Nat := ((rs.take k).map unit).sum
theorem sumU_succ (rs : List Nat) (k : Nat) (h : k < rs.length) : sumU rs (k + 1) = sumU rs k + unit (rn rs k) := by
  unfold sumU rn
  rw [List.take_succ_eq_append_getElem h, List.map_append, List.sum_append, List.getD_eq_getElem?_getD, List.getElem?_eq_getElem h]
  simp
theorem unit_bd (r : Nat) : 1 ≤ unit r ∧ unit r ≤ 2 := by unfold unit; split <;> omega
theorem sumU_bd (rs : List Nat) : ∀ k, k ≤ rs.length → k ≤ sumU rs k ∧ sumU rs k ≤ 2 * k
  | 0, _ => by simp [sumU]
  | k + 1, h => by
    have ih := sumU_bd rs k (by omega)
    have := unit_bd (rn rs k)
    rw [sumU_succ rs k (by omega)]; omega
theorem sumU_mono (rs : List Nat) (k : Nat) : ∀ m, k ≤ m → m ≤ rs.length → sumU rs k ≤ sumU rs m
  | 0, h, _ => by have : k = 0 := by omega
                  subst this; exact Nat.le_refl _
  | m + 1, h, h2 => by
    by_cases he : k = m + 1
    · subst he; exact Nat.le_refl _
    · have := sumU_mono rs k m (by omega) (by omega)
      rw [sumU_succ rs m (by omega)]; omega
theorem int_eq {a b : Int} (h : a = b) : Value.int .i64 a = Value.int .i64 b := by rw [h]
end Go.Proofs.YtckgdkjgllopmaaDoor
