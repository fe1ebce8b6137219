/- Walks: no edits: impl.Hunks, impl.Unified and impl.LineEdits of none; two texts that are one have none. No condition but sizes. -/
import Derived.Test.YtgegialfhkgggaaGreatDoorPi
set_option linter.unusedVariables false
set_option linter.unusedSimpArgs false
namespace Go.Proofs.YtgegialfhkgggaaGreatDoor
open Go.RowKit Go.Proofs.YtgegialfhkgggaaGreatDoor.Lines Mye
attribute [local go_sem ↓] Go.wp_at_zero Go.wp_at_succ

theorem path_diag {M : Nat} {eq : Nat → Nat → Bool} (h : ∀ i, i < M → eq i i = true) : ∀ k, k ≤ M → Path M M eq 0 k k := by
  intro k
  induction k with
  | zero => intro _; exact Path.zero
  | succ k ih => intro hk; exact Path.diag (ih (by omega)) (by omega) (by omega) (h k (by omega))
theorem ops_same {s : ByteArray} {ops : List Opn} {D : Nat} (hscr : Script (eqL (linesB s) (linesB s)) ops (linesB s).length (linesB s).length) (hc : cost ops = D)
    (h1 : hit (linesB s).length (linesB s).length (eqL (linesB s) (linesB s)) D) (h2 : ∀ d, d < D → ¬ hit (linesB s).length (linesB s).length (eqL (linesB s) (linesB s)) d) : ops = [] := by
  obtain ⟨D', q1, q2, q3, q4, q5⟩ := least_hit (M := (linesB s).length) (N := (linesB s).length) (eq := eqL (linesB s) (linesB s))
  have e : D = D' := by
    rcases Nat.lt_trichotomy D D' with h | h | h
    · exact absurd h1 (q3 D h)
    · exact h
    · exact absurd q2 (h2 D' h)
  have hp := q5 0 (path_diag (fun i _ => by unfold eqL; simp) _ (Nat.le_refl _))
  have h0 : cost ops = 0 := by omega
  have hasc := script_asc hscr
  cases ops with
  | nil => rfl
  | cons o r =>
    exfalso
    have ho := (hasc 0 (by simp)).1
    rw [List.getElem_cons_zero] at ho
    cases o with
    | del a b j =>
      have h3 := ho.1
      simp only [cost] at h0; omega
    | ins i j k =>
      have h3 := ho.1
      simp only [cost] at h0; omega
theorem rows_nil (w : World) (A : Option Addr) (k : Nat) : RowsAt w A k [] := fun _ _ hi _ => absurd hi (Nat.not_lt_zero _)

set_option maxHeartbeats 4000000 in
set_option maxRecDepth 100000 in
theorem toUni_none (nf nt s : ByteArray) (A : Option Addr) (c : Nat) (w : World) : Calls Tryz.prog 25 #[.string nf, .string nt, .string s, .slice A 0 c] w fun e w' => e = .returned (.agg #[.string nf, .string nt, .slice none 0 0]) ∧ Below w.heap.size w w' := by
  go_enter Tryz.func25, Tryz.ntmps25
  go_wp2
  exact bodyPost_ret (v := .agg #[.string nf, .string nt, .slice none 0 0]) (by simp [results, Tryz.results25, go_sem]) rfl ⟨rfl, by go_grown⟩

set_option maxHeartbeats 4000000 in
theorem lineEd_none (s : ByteArray) (A : Option Addr) (cA : Nat) (w : World) : Calls Tryz.prog 27 #[.string s, .slice A 0 cA] w fun e w' => e = .returned (.slice none 0 0) ∧ Below w.heap.size w w' := by
  go_enter Tryz.func27, Tryz.ntmps27
  go_wp2
  go_ret
  exact ⟨rfl, by go_grown⟩

/-- A slice of no rows. -/
def NoRows (w : World) (e : Ending) (w' : World) : Prop := ∃ A c, e = .returned (.slice A 0 c) ∧ Below w.heap.size w w'

set_option maxHeartbeats 4000000 in
theorem iLineEd_none (s : ByteArray) (w : World) : Calls Tryz.prog 12 #[.string s, .slice none 0 0] w (NoRows w) := by
  have HT := hide (fun W => editsTo_any [] none 0 (by simp) W (rows_nil _ _ _))
  have HO := hide (fun A c W => editsOf_any [] A c (by simp) W (rows_nil _ _ _))
  unfold EdsRes at HT
  unfold ofRes at HO
  simp only [List.map_nil, List.length_nil] at HT HO
  go_enter Tryz.func12, Tryz.ntmps12
  go_wp2_with fail
  refine (HT.out _).mono ?_
  rintro e w1 ⟨A1, c1, rfl, _, _, hb1⟩
  have HB1 := hide hb1
  clear hb1 HT
  go_wp2_with fail
  refine (lineEd_none s _ _ _).mono ?_
  rintro e w2 ⟨rfl, hb2⟩
  have HB2 := hide (HB1.out.trans (hb2.mono HB1.out.size))
  clear hb2 HB1
  go_wp2_with fail
  refine (HO.out _ _ _).mono ?_
  rintro e w3 ⟨A3, c3, rfl, _, _, h3⟩
  have HF : Hid (NoRows w (.returned (.slice A3 0 c3)) w3) := hide ⟨A3, c3, rfl, HB2.out.trans (h3.mono HB2.out.size)⟩
  clear h3 HO
  go_wp2
  go_ret
  exact HF.out

set_option maxHeartbeats 4000000 in
set_option maxRecDepth 100000 in
theorem iHunks_none (s : ByteArray) (w : World) : Calls Tryz.prog 10 #[.string s, .slice none 0 0] w (NoRows w) := by
  have HT := hide (fun W => editsTo_any [] none 0 (by simp) W (rows_nil _ _ _))
  unfold EdsRes at HT
  simp only [List.map_nil, List.length_nil] at HT
  have hfd : ∀ (w : World), (Instr.field 52 (.agg #[.string ⟨#[97]⟩, .string ⟨#[98]⟩, .slice none 0 0]) 2).run Tryz.prog w = .ok (.slice none 0 0) w := fun _ => by kernel_rfl
  go_enter Tryz.func10, Tryz.ntmps10
  go_wp2_with fail
  refine (HT.out _).mono ?_
  rintro e w1 ⟨A1, c1, rfl, _, _, hb1⟩
  have HB1 : Hid (Below w.heap.size w w1) := hide (Below.trans (by go_grown) (hb1.mono (by simp)))
  clear hb1 HT
  go_wp2_with fail
  refine (toUni_none _ _ s _ _ _).mono ?_
  rintro e w2 ⟨rfl, hb2⟩
  have HB2 := hide (HB1.out.trans (hb2.mono HB1.out.size))
  clear hb2 HB1
  go_wp2_with fail
  go_loopw [5, 18] (fun av jv wr => av = .slice (some ⟨w.heap.size, 0, none⟩) 0 0 ∧ jv = .int .i64 0 ∧ Hid (Below w2.heap.size w2 wr)) (fun _ _ _ => 0)
  case atStart => exact ⟨rfl, rfl, hide (Below.refl _ _)⟩
  case round =>
    obtain ⟨rfl, rfl, hr⟩ := hrel
    have HF : Hid (NoRows w (.returned (.slice (some ⟨w.heap.size, 0, none⟩) 0 0)) wr) := hide ⟨_, _, rfl, HB2.out.trans (hr.out.mono HB2.out.size)⟩
    clear hr HB2
    go_wp2
    go_ret
    exact HF.out

set_option maxHeartbeats 4000000 in
theorem iApply_none (s : ByteArray) (w : World) : Calls Tryz.prog 9 #[.string s, .slice none 0 0] w fun e w' => e = .returned (.string s) ∧ Below w.heap.size w w' := by
  have HT := hide (fun W => editsTo_any [] none 0 (by simp) W (rows_nil _ _ _))
  unfold EdsRes at HT
  simp only [List.map_nil, List.length_nil] at HT
  go_enter Tryz.func9, Tryz.ntmps9
  go_wp2_with fail
  refine (HT.out _).mono ?_
  rintro e w1 ⟨A1, c1, rfl, _, _, hb1⟩
  have HB1 := hide hb1
  clear hb1 HT
  go_wp2_with fail
  refine (apply_zero s _ _ _).mono ?_
  rintro e w2 ⟨rfl, rfl⟩
  go_wp2
  go_ret
  exact ⟨rfl, HB1.out⟩

set_option maxHeartbeats 4000000 in
set_option maxRecDepth 100000 in
theorem zzText_none (nf nt : ByteArray) (w : World) : Calls Tryz.prog 26 #[.agg #[.string nf, .string nt, .slice none 0 0]] w fun e w' => e = .returned (.string ⟨#[]⟩) ∧ Below w.heap.size w w' := by
  go_enter Tryz.func26, Tryz.ntmps26
  go_wp2
  go_ret
  exact ⟨rfl, by go_grown⟩

set_option maxHeartbeats 4000000 in
theorem unified_none (nf nt s : ByteArray) (w : World) : Calls Tryz.prog 11 #[.string nf, .string nt, .string s, .slice none 0 0] w fun e w' => e = .returned (.string ⟨#[]⟩) ∧ Below w.heap.size w w' := by
  have HT := hide (fun W => editsTo_any [] none 0 (by simp) W (rows_nil _ _ _))
  unfold EdsRes at HT
  simp only [List.map_nil, List.length_nil] at HT
  go_enter Tryz.func11, Tryz.ntmps11
  go_wp2_with fail
  refine (HT.out _).mono ?_
  rintro e w1 ⟨A1, c1, rfl, _, _, hb1⟩
  have HB1 := hide hb1
  clear hb1 HT
  go_wp2_with fail
  refine (toUni_none nf nt s _ _ _).mono ?_
  rintro e w2 ⟨rfl, hb2⟩
  have HB2 := hide (HB1.out.trans (hb2.mono HB1.out.size))
  clear hb2 HB1
  go_wp2_with fail
  refine (zzText_none nf nt _).mono ?_
  rintro e w3 ⟨rfl, hb3⟩
  have HB3 := hide (HB2.out.trans (hb3.mono HB2.out.size))
  clear hb3 HB2
  go_wp2
  go_ret
  exact ⟨rfl, HB3.out⟩
end Go.Proofs.YtgegialfhkgggaaGreatDoor
