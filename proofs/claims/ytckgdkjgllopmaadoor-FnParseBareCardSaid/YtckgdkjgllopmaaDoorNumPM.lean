/- Plain law: a decimal numeral is read to its number. No condition but its size. -/
import Derived.Lib.ParseIntBTie
import Derived.Lib.ItoaMem
set_option linter.unusedVariables false
set_option linter.unusedSimpArgs false
namespace Go.Proofs.YtckgdkjgllopmaaDoor

theorem dg_byte (k : Nat) (h : k < 10) : (UInt8.ofNat (48 + k)).toNat = 48 + k := by rw [UInt8.toNat_ofNat']; omega
theorem dec_read : ∀ (u : Nat) (r : List UInt8), u ≤ 1000000000000000000 → Lib.parseUint10 0 (Lib.decDigits u ++ r) = Lib.parseUint10 u r := by
  intro u
  induction u using Nat.strongRecOn with
  | _ u ih =>
    intro r hu
    rw [Lib.decDigits]
    by_cases h : u < 10
    · rw [dif_pos h, List.singleton_append, Lib.parseUint10, dg_byte u h, if_pos (by omega), if_neg (by omega), if_neg (by omega)]
      congr 1; omega
    · rw [dif_neg h, List.append_assoc, List.singleton_append, ih (u / 10) (by omega) _ (by omega), Lib.parseUint10, dg_byte (u % 10) (by omega), if_pos (by omega), if_neg (by omega), if_neg (by omega)]
      congr 1; omega
theorem dec_cons (u : Nat) : ∃ c r, Lib.decDigits u = c :: r := by
  cases h : Lib.decDigits u with
  | nil =>
    have h1 := Lib.decDigits_length u
    have h2 := Lib.nDigits_pos u
    rw [h] at h1
    simp at h1
    omega
  | cons c r => exact ⟨c, r, rfl⟩
theorem dec_digit : ∀ (u : Nat), ∀ x ∈ Lib.decDigits u, 48 ≤ x.toNat ∧ x.toNat ≤ 57 := by
  intro u
  induction u using Nat.strongRecOn with
  | _ u ih =>
    intro x hx
    rw [Lib.decDigits] at hx
    by_cases h : u < 10
    · rw [dif_pos h] at hx
      have := List.mem_singleton.1 hx
      subst this
      rw [dg_byte u h]
      omega
    · rw [dif_neg h] at hx
      rcases List.mem_append.1 hx with h1 | h1
      · exact ih (u / 10) (by omega) x h1
      · have := List.mem_singleton.1 h1
        subst this
        rw [dg_byte _ (by omega)]
        omega
theorem dec_parse (u : Nat) (hu : u ≤ 1000000000000000000) : Lib.parseIntB 64 (Lib.decDigits u) = .ok (u : Int) := by
  rw [Lib.parseIntB_64]
  have hr := dec_read u [] hu
  rw [List.append_nil, Lib.parseUint10] at hr
  have hd := dec_digit u
  obtain ⟨c, r, h⟩ := dec_cons u
  rw [h] at hr hd ⊢
  have hc := hd c (by simp)
  unfold Lib.atoiAll
  simp only
  rw [if_neg (by omega)]
  unfold Lib.parseMag
  rw [if_neg (by simp), hr]
  simp only
  rw [if_neg (by omega), if_neg (by omega), if_neg (by omega)]
/-- A text that ends with a mark that is no digit, and maybe a number. -/
def Tail (s R : List UInt8) (x : UInt8) (n : Int) : Prop := x.toNat < 128 ∧ ¬ (48 ≤ x.toNat ∧ x.toNat ≤ 57) ∧ ((s = R ++ [x] ∧ n = -1) ∨ ∃ u : Nat, u ≤ 1000000000000000000 ∧ s = R ++ x :: Lib.decDigits u ∧ n = u)
end Go.Proofs.YtckgdkjgllopmaaDoor
