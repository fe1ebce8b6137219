/- Plain mathematics: the characters of a text, and its units of UTF-16. No condition. -/
import Derived.Lib.DecodeN
import Derived.Laws.IdiomStrings
set_option linter.unusedVariables false
set_option linter.unusedSimpArgs false
namespace Go.Proofs.YtckgdkjgllopmaaDoor

/-- The first character of a list of bytes, and how many bytes it has. -/
def dec (l : List UInt8) : Nat × Nat := Lib.decodeN l.length (l.getD 0 0).toNat (l.getD 1 0).toNat (l.getD 2 0).toNat (l.getD 3 0).toNat

theorem get_list (s : ByteArray) (i : Nat) : s.get! i = s.data.toList.getD i 0 := by
  show s.data[i]! = _
  rw [List.getD_eq_getElem?_getD, Array.getElem?_toList, getElem!_def]
  cases s.data[i]? <;> rfl
theorem decode_dec (s : ByteArray) (i : Nat) : Utf8.decode s i = dec (s.data.toList.drop i) := by
  rw [Lib.decode_at, get_list, get_list, get_list, get_list]
  unfold dec
  have hl : (s.data.toList.drop i).length = s.size - i := by rw [List.length_drop, Array.length_toList]; rfl
  rw [hl]
  simp [List.getD_eq_getElem?_getD, List.getElem?_drop]
theorem dec_wide (l : List UInt8) : 1 ≤ (dec l).2 ∧ (dec l).2 ≤ 4 ∧ (dec l).1 ≤ 1114111 ∧ ¬ (55296 ≤ (dec l).1 ∧ (dec l).1 < 57344) := by
  have hb := (l.getD 0 0).toNat_lt
  unfold dec
  generalize (l.getD 0 0).toNat = b0 at *
  unfold Lib.decodeN
  repeat' split
  all_goals (simp only; omega)
theorem dec_fits (l : List UInt8) (h : l ≠ []) : (dec l).2 ≤ l.length := by
  have : 1 ≤ l.length := by cases l with | nil => exact absurd rfl h | cons _ _ => simp
  unfold dec Lib.decodeN
  repeat' split
  all_goals (simp only; omega)

/-- How many units of UTF-16 a character is. -/
def unit (r : Nat) : Nat := if 65536 ≤ r then 2 else 1
/-- How many units of UTF-16 a list of bytes has. -/
def units (l : List UInt8) : Nat := if h : l = [] then 0 else unit (dec l).1 + units (l.drop (dec l).2)
  termination_by l.length
  decreasing_by
    have h1 := (dec_wide l).1
    have h2 := dec_fits l h
    rw [List.length_drop]; omega
theorem units_nil : units [] = 0 := by rw [units]; rfl
theorem units_cons {l : List UInt8} (h : l ≠ []) : units l = unit (dec l).1 + units (l.drop (dec l).2) := by rw [units, dif_neg h]
theorem units_le : ∀ (n : Nat) (l : List UInt8), l.length ≤ n → units l ≤ 2 * l.length := by
  intro n
  induction n with
  | zero => intro l h; have : l = [] := List.length_eq_zero_iff.1 (by omega)
            subst this; rw [units_nil]; exact Nat.zero_le _
  | succ n ih =>
    intro l h
    by_cases he : l = []
    · subst he; rw [units_nil]; exact Nat.zero_le _
    · have h1 := (dec_wide l).1
      have h2 := dec_fits l he
      have h3 := ih (l.drop (dec l).2) (by rw [List.length_drop]; omega)
      rw [List.length_drop] at h3
      rw [units_cons he]
      unfold unit; split <;> omega

/-- The characters of a list of bytes. -/
def runesL : Nat → List UInt8 → List Nat
  | 0, _ => []
  | n + 1, l => if l = [] then [] else (dec l).1 :: runesL n (l.drop (dec l).2)
theorem runesFrom_eq (s : ByteArray) : ∀ (n i : Nat) (acc : Array Value), Conv.runesFrom s n i acc = acc ++ ((runesL n (s.data.toList.drop i)).map fun r : Nat => Value.int .i32 r).toArray
  | 0, i, acc => by simp [Conv.runesFrom, runesL]
  | n + 1, i, acc => by
    have hsz : s.data.toList.length = s.size := by rw [Array.length_toList]; rfl
    unfold Conv.runesFrom runesL
    by_cases h : i < s.size
    · rw [if_pos h, if_neg (by intro he; have := congrArg List.length he; rw [List.length_drop, hsz] at this; simp at this; omega)]
      simp only
      rw [runesFrom_eq s n, decode_dec, List.drop_drop]
      simp
    · rw [if_neg h, if_pos (by apply List.drop_of_length_le; rw [hsz]; omega)]
      simp
theorem runesL_units : ∀ (n : Nat) (l : List UInt8), l.length ≤ n → ((runesL n l).map unit).sum = units l
  | 0, l, h => by have : l = [] := List.length_eq_zero_iff.1 (by omega)
                  subst this; rw [units_nil]; rfl
  | n + 1, l, h => by
    unfold runesL
    by_cases he : l = []
    · subst he; rw [units_nil, if_pos rfl]; rfl
    · have h1 := (dec_wide l).1
      have h2 := dec_fits l he
      rw [if_neg he, units_cons he, List.map_cons, List.sum_cons, runesL_units n _ (by rw [List.length_drop]; omega)]
theorem runesL_ok : ∀ (n : Nat) (l : List UInt8) (r : Nat), r ∈ runesL n l → r ≤ 1114111 ∧ ¬ (55296 ≤ r ∧ r < 57344)
  | 0, l, r, h => by simp [runesL] at h
  | n + 1, l, r, h => by
    unfold runesL at h
    by_cases he : l = []
    · rw [if_pos he] at h; simp at h
    · rw [if_neg he] at h
      rcases List.mem_cons.1 h with rfl | h
      · exact (dec_wide l).2.2
      · exact runesL_ok n _ r h
theorem runesL_len : ∀ (n : Nat) (l : List UInt8), (runesL n l).length ≤ n
  | 0, l => by simp [runesL]
  | n + 1, l => by
    unfold runesL
    split
    · simp
    · have := runesL_len n (l.drop (dec l).2)
      simp; omega
end Go.Proofs.YtckgdkjgllopmaaDoor
