/- Contracts: the three forms of a span's text, written and read. No condition but sizes, and the table that AppendInt reads. -/
import Derived.Test.YtckgdkjgllopmaaDoorTpM
set_option linter.unusedVariables false
set_option linter.unusedSimpArgs false
namespace Go.Proofs.YtckgdkjgllopmaaDoor
open Go.RowKit Go.Proofs.YtckgdkjgllopmaaDoor.Lines

theorem len_itoa {n : Nat} (h : n ≤ 1000000) : (Lib.itoa (n : Int)).length ≤ 20 := itoa_len20 (by omega)
theorem told_o {l o : Int} (h : 0 ≤ o) : told l o = true := by unfold told; simp; omega

set_option maxHeartbeats 2000000 in
theorem tp_full (u : ByteArray) (L C O L2 C2 O2 : Nat) (p : Bool) (hu0 : 1 ≤ u.size) (hu : u.size ≤ 1000) (b1 : 2 ≤ L ∧ L ≤ 1000000) (b2 : 2 ≤ C ∧ C ≤ 1000000) (b3 : 2 ≤ O ∧ O ≤ 1000000) (b4 : 2 ≤ L2 ∧ L2 ≤ 1000000) (b5 : 2 ≤ C2 ∧ C2 ≤ 1000000) (b6 : 2 ≤ O2 ∧ O2 ≤ 1000000) :
    TP u L C O L2 C2 O2 true p L C O L2 C2 O2 := by
  have q1 : cl (L : Int) = L := cl_pos (by omega)
  have q2 : cc (L : Int) C = C := cc_pos (by omega)
  have q3 : co (L : Int) C O = O := co_pos (by omega)
  have q4 : cl (L2 : Int) = L2 := cl_pos (by omega)
  have q5 : cc (L2 : Int) C2 = C2 := cc_pos (by omega)
  have q6 : co (L2 : Int) C2 O2 = O2 := co_pos (by omega)
  have q7 : atSt (L2 : Int) C2 O2 = false := atSt_pos (by omega)
  have hS := spTo u q1 q2 q3 q4 q5 q6 q7
  have HV : SaysTo 42 #[spV u L C O L2 C2 O2] true := says (fun W => isValid_any _ _ _ _ _ _ _ W) (told_pos (by omega))
  have HO : SaysTo 46 #[spV u L C O L2 C2 O2] true := says (fun W => sHasOff_any _ _ _ _ _ _ _ W) (decide_eq_true (by omega))
  have HP : SaysTo 47 #[spV u L C O L2 C2 O2] true := says (fun W => sHasPos_any _ _ _ _ _ _ _ W) (decide_eq_true (by omega))
  have e1 := len_itoa b1.2
  have e2 := len_itoa b2.2
  have e3 := len_itoa b3.2
  have e4 := len_itoa b4.2
  have e5 := len_itoa b5.2
  have e6 := len_itoa b6.2
  have hl := len_u u
  by_cases hp : L = L2 ∧ C = C2 ∧ O = O2
  · obtain ⟨rfl, rfl, rfl⟩ := hp
    refine ⟨u.data.toList ++ [58] ++ Lib.itoa (L : Int) ++ [58] ++ Lib.itoa (C : Int) ++ [35] ++ Lib.itoa (O : Int), iText_of hS (hide (fun W hT => ?_)), hide (iParse_of (fun W => ?_) (spanOf_to u (oL_pos (by omega)) (oC_pos (by omega)) (oO_pos (by omega)) (oL_pos (by omega)) (oC_pos (by omega)) (oO_pos (by omega)) (told_pos (by omega))))⟩
    · have h := zs_fp u L C O L C O p hu0 hu b1.2 b2.2 b3.2 HV HO HP (says (fun W => sIsPoint_any _ _ _ _ _ _ _ W) (by simp)) W hT
      simpa only [List.append_assoc] using h
    · have h0 := stripTo (by simp only [List.length_append, List.length_singleton]; omega) (tail_num (R := u.data.toList ++ [58] ++ Lib.itoa (L : Int) ++ [58] ++ Lib.itoa (C : Int)) (x := 35) (u := O) (by decide) (by decide) (by omega))
      have h1 := stripTo (by simp only [List.length_append, List.length_singleton]; omega) (tail_num (R := u.data.toList ++ [58] ++ Lib.itoa (L : Int)) (x := 58) (u := C) (by decide) (by decide) (by omega))
      have h2 := stripTo (by simp only [List.length_append, List.length_singleton]; omega) (tail_num (R := u.data.toList) (x := 58) (u := L) (by decide) (by decide) (by omega))
      rw [toB_u] at h2
      exact parse_fp _ _ _ u _ _ _ _ _ _ h0 h1 h2 (ptTo _ _ _ _ _ _ q1 q2 q3) (newTo_pt u _ _ _) W
  · refine ⟨u.data.toList ++ [58] ++ Lib.itoa (L : Int) ++ [58] ++ Lib.itoa (C : Int) ++ [35] ++ Lib.itoa (O : Int) ++ [45] ++ Lib.itoa (L2 : Int) ++ [58] ++ Lib.itoa (C2 : Int) ++ [35] ++ Lib.itoa (O2 : Int), iText_of hS (hide (fun W hT => ?_)), hide (iParse_of (fun W => ?_) (spanOf_to u (oL_pos (by omega)) (oC_pos (by omega)) (oO_pos (by omega)) (oL_pos (by omega)) (oC_pos (by omega)) (oO_pos (by omega)) (told_pos (by omega))))⟩
    · have h := zs_fs u L C O L2 C2 O2 p hu0 hu b1.2 b2.2 b3.2 b4.2 b5.2 b6.2 HV HO HP (says (fun W => sIsPoint_any _ _ _ _ _ _ _ W) (by simp; omega)) W hT
      simpa only [List.append_assoc] using h
    · have h0 := stripTo (by simp only [List.length_append, List.length_singleton]; omega) (tail_num (R := u.data.toList ++ [58] ++ Lib.itoa (L : Int) ++ [58] ++ Lib.itoa (C : Int) ++ [35] ++ Lib.itoa (O : Int) ++ [45] ++ Lib.itoa (L2 : Int) ++ [58] ++ Lib.itoa (C2 : Int)) (x := 35) (u := O2) (by decide) (by decide) (by omega))
      have h1 := stripTo (by simp only [List.length_append, List.length_singleton]; omega) (tail_num (R := u.data.toList ++ [58] ++ Lib.itoa (L : Int) ++ [58] ++ Lib.itoa (C : Int) ++ [35] ++ Lib.itoa (O : Int) ++ [45] ++ Lib.itoa (L2 : Int)) (x := 58) (u := C2) (by decide) (by decide) (by omega))
      have h2 := stripTo (by simp only [List.length_append, List.length_singleton]; omega) (tail_num (R := u.data.toList ++ [58] ++ Lib.itoa (L : Int) ++ [58] ++ Lib.itoa (C : Int) ++ [35] ++ Lib.itoa (O : Int)) (x := 45) (u := L2) (by decide) (by decide) (by omega))
      have h3 := stripTo (by simp only [List.length_append, List.length_singleton]; omega) (tail_num (R := u.data.toList ++ [58] ++ Lib.itoa (L : Int) ++ [58] ++ Lib.itoa (C : Int)) (x := 35) (u := O) (by decide) (by decide) (by omega))
      have h4 := stripTo (by simp only [List.length_append, List.length_singleton]; omega) (tail_num (R := u.data.toList ++ [58] ++ Lib.itoa (L : Int)) (x := 58) (u := C) (by decide) (by decide) (by omega))
      have h5 := stripTo (by simp only [List.length_append, List.length_singleton]; omega) (tail_num (R := u.data.toList) (x := 58) (u := L) (by decide) (by decide) (by omega))
      rw [toB_u] at h5
      exact parse_fs _ _ _ _ _ _ u _ _ _ _ _ _ _ _ _ _ _ _ h0 h1 h2 h3 h4 h5 (ptTo _ _ _ _ _ _ q4 q5 q6) (ptTo _ _ _ _ _ _ q1 q2 q3) (newTo_sp u q7) W

/-- The last letter of a name. -/
theorem last_let {u : ByteArray} (hu0 : 1 ≤ u.size) (hL : LetTo u u.size) : ∃ (U1 : List UInt8) (x : UInt8), Tail u.data.toList U1 x (-1) ∧ (x == 58) = false ∧ (x == 45) = false := by
  have hl := len_u u
  have hne : u.data.toList ≠ [] := fun e => by rw [e] at hl; simp at hl; omega
  have hb := hL (u.size - 1) (by omega)
  have e : bt u (u.size - 1) = (u.data.toList.getLast hne).toNat := by
    unfold bt
    rw [List.getLast_eq_getElem, List.getD_eq_getElem?_getD, List.getElem?_eq_getElem (by omega), Option.getD_some]
    congr 2
  rw [e] at hb
  refine ⟨u.data.toList.dropLast, u.data.toList.getLast hne, ⟨by omega, by omega, Or.inl ⟨(List.dropLast_concat_getLast hne).symm, rfl⟩⟩, ?_, ?_⟩
  · rw [beq_eq_false_iff_ne]; intro h; rw [h] at hb; revert hb; decide
  · rw [beq_eq_false_iff_ne]; intro h; rw [h] at hb; revert hb; decide

set_option maxHeartbeats 2000000 in
theorem tp_off (u : ByteArray) (l c l2 c2 : Int) (O O2 : Nat) (hu0 : 1 ≤ u.size) (hu : u.size ≤ 1000) (hL : LetTo u u.size) (hc : (2 ≤ l ∧ 2 ≤ c ∧ 2 ≤ l2 ∧ 2 ≤ c2) ∨ (l = 0 ∧ c = 0 ∧ l2 = 0 ∧ c2 = 0)) (b3 : 2 ≤ O ∧ O ≤ 1000000) (b6 : 2 ≤ O2 ∧ O2 ≤ 1000000) :
    TP u l c O l2 c2 O2 false true 0 0 O 0 0 O2 := by
  have q1 : cl l = l := by rcases hc with ⟨h, _, _, _⟩ | ⟨h, _, _, _⟩; exact cl_pos (by omega); rw [h]; rfl
  have q2 : cc l c = c := by rcases hc with ⟨_, h, _, _⟩ | ⟨h, h2, _, _⟩; exact cc_pos (by omega); rw [h, h2]; rfl
  have q3 : co l c O = O := co_pos (by omega)
  have q4 : cl l2 = l2 := by rcases hc with ⟨_, _, h, _⟩ | ⟨_, _, h, _⟩; exact cl_pos (by omega); rw [h]; rfl
  have q5 : cc l2 c2 = c2 := by rcases hc with ⟨_, _, _, h⟩ | ⟨_, _, h, h2⟩; exact cc_pos (by omega); rw [h, h2]; rfl
  have q6 : co l2 c2 O2 = O2 := co_pos (by omega)
  have q7 : atSt l2 c2 O2 = false := atSt_off (by omega)
  have hS := spTo u q1 q2 q3 q4 q5 q6 q7
  have HV : SaysTo 42 #[spV u l c O l2 c2 O2] true := says (fun W => isValid_any _ _ _ _ _ _ _ W) (told_o (by omega))
  have HO : SaysTo 46 #[spV u l c O l2 c2 O2] true := says (fun W => sHasOff_any _ _ _ _ _ _ _ W) (decide_eq_true (by omega))
  have HZ : SaysTo 45 #[ptV l c O] false := hide (fun W => isZero_no _ _ _ W (by omega) (by omega))
  have e3 := len_itoa b3.2
  have e6 := len_itoa b6.2
  have hl := len_u u
  obtain ⟨U1, x, hx, hx1, hx2⟩ := last_let hu0 hL
  have hX := stripTo (by omega) hx
  rw [toB_u] at hX
  have s1 : ∀ O : Nat, PtTo (-1) 0 O 0 0 O ∨ O < 1 := fun O => by
    rcases Nat.lt_or_ge O 1 with h | h
    · exact Or.inr h
    · exact Or.inl (ptTo _ _ _ _ _ _ rfl rfl (co_pos (by omega)))
  have sO : PtTo (-1) 0 O 0 0 O := (s1 O).resolve_right (by omega)
  have sO2 : PtTo (-1) 0 O2 0 0 O2 := (s1 O2).resolve_right (by omega)
  have hof := spanOf_to u (l := 0) (c := 0) (o := O) (l2 := 0) (c2 := 0) (o2 := O2) rfl rfl (oO_pos (by omega)) rfl rfl (oO_pos (by omega)) (told_o (by omega))
  have h0 := stripTo (by simp only [List.length_append, List.length_singleton]; omega) (tail_num (R := u.data.toList ++ [58]) (x := 35) (u := O) (by decide) (by decide) (by omega))
  have h1 := stripTo (by simp only [List.length_append, List.length_singleton]; omega) (tail_mark (R := u.data.toList) (x := 58) (by decide) (by decide))
  rw [toB_u] at h1
  by_cases hp : l = l2 ∧ c = c2 ∧ O = O2
  · obtain ⟨rfl, rfl, rfl⟩ := hp
    refine ⟨u.data.toList ++ [58] ++ [35] ++ Lib.itoa (O : Int), iText_of hS (hide (fun W hT => ?_)), hide (iParse_of (fun W => ?_) hof)⟩
    · have HQ : SaysTo 49 #[spV u l c O l c O] true := says (fun W => sIsPoint_any _ _ _ _ _ _ _ W) (by simp)
      by_cases hl0 : 0 < l
      · exact zs_op u O l c l c O hu0 hu b3.2 HV HZ HO (says (fun W => sHasPos_any _ _ _ _ _ _ _ W) (decide_eq_true hl0)) HQ W hT
      · exact zs_opn u O l c l c O hu0 hu b3.2 HV HZ HO (says (fun W => sHasPos_any _ _ _ _ _ _ _ W) (decide_eq_false hl0)) HQ W hT
    · exact parse_op _ _ u _ x _ _ _ _ _ hx1 hx2 h0 h1 hX sO (newTo_pt u _ _ _) W
  · refine ⟨u.data.toList ++ [58] ++ [35] ++ Lib.itoa (O : Int) ++ [45] ++ [35] ++ Lib.itoa (O2 : Int), iText_of hS (hide (fun W hT => ?_)), hide (iParse_of (fun W => ?_) hof)⟩
    · have HQ : SaysTo 49 #[spV u l c O l2 c2 O2] false := says (fun W => sIsPoint_any _ _ _ _ _ _ _ W) (by simp; omega)
      by_cases hl0 : 0 < l
      · have h := zs_os u O O2 l c l2 c2 hu0 hu b3.2 b6.2 HV HZ HO (says (fun W => sHasPos_any _ _ _ _ _ _ _ W) (decide_eq_true hl0)) HQ W hT
        simpa only [List.append_assoc] using h
      · have h := zs_osn u O O2 l c l2 c2 hu0 hu b3.2 b6.2 HV HZ HO (says (fun W => sHasPos_any _ _ _ _ _ _ _ W) (decide_eq_false hl0)) HQ W hT
        simpa only [List.append_assoc] using h
    · have g0 := stripTo (by simp only [List.length_append, List.length_singleton]; omega) (tail_num (R := u.data.toList ++ [58] ++ [35] ++ Lib.itoa (O : Int) ++ [45]) (x := 35) (u := O2) (by decide) (by decide) (by omega))
      have g1 := stripTo (by simp only [List.length_append, List.length_singleton]; omega) (tail_mark (R := u.data.toList ++ [58] ++ [35] ++ Lib.itoa (O : Int)) (x := 45) (by decide) (by decide))
      exact parse_os _ _ _ _ u _ x _ _ _ _ _ _ _ _ _ _ hx1 hx2 g0 g1 h0 h1 hX sO2 sO (newTo_sp u (atSt_off (by omega))) W

set_option maxHeartbeats 2000000 in
theorem tp_bare (u : ByteArray) (L C L2 C2 : Nat) (o o2 : Int) (hu0 : 1 ≤ u.size) (hu : u.size ≤ 1000) (hc : (1 ≤ o ∧ 1 ≤ o2) ∨ (o = -1 ∧ o2 = -1)) (b1 : 2 ≤ L ∧ L ≤ 1000000) (b2 : 2 ≤ C ∧ C ≤ 1000000) (b4 : 2 ≤ L2 ∧ L2 ≤ 1000000) (b5 : 2 ≤ C2 ∧ C2 ≤ 1000000) (ha : L ≤ L2) :
    TP u L C o L2 C2 o2 false false L C (-1) L2 C2 (-1) := by
  have q1 : cl (L : Int) = L := cl_pos (by omega)
  have q2 : cc (L : Int) C = C := cc_pos (by omega)
  have q3 : co (L : Int) C o = o := by unfold co; rw [if_neg (by omega)]
  have q4 : cl (L2 : Int) = L2 := cl_pos (by omega)
  have q5 : cc (L2 : Int) C2 = C2 := cc_pos (by omega)
  have q6 : co (L2 : Int) C2 o2 = o2 := by unfold co; rw [if_neg (by omega)]
  have q7 : atSt (L2 : Int) C2 o2 = false := atSt_pos (by omega)
  have q8 : ∀ A B : Nat, 2 ≤ A → 2 ≤ B → co (A : Int) B 0 = -1 := fun A B h1 h2 => by
    unfold co
    rw [if_pos ⟨rfl, Or.inl (by rw [cl_pos (by omega)]; omega)⟩]
  have hS := spTo u q1 q2 q3 q4 q5 q6 q7
  have HV : SaysTo 42 #[spV u L C o L2 C2 o2] true := says (fun W => isValid_any _ _ _ _ _ _ _ W) (told_pos (by omega))
  have HP : SaysTo 47 #[spV u L C o L2 C2 o2] true := says (fun W => sHasPos_any _ _ _ _ _ _ _ W) (decide_eq_true (by omega))
  have HZ : SaysTo 45 #[ptV L C o] false := hide (fun W => isZero_no _ _ _ W (by omega) (by omega))
  have e1 := len_itoa b1.2
  have e2 := len_itoa b2.2
  have e4 := len_itoa b4.2
  have e5 := len_itoa b5.2
  have hl := len_u u
  have hof := spanOf_to u (l := L) (c := C) (o := -1) (l2 := L2) (c2 := C2) (o2 := -1) (oL_pos (by omega)) (oC_pos (by omega)) rfl (oL_pos (by omega)) (oC_pos (by omega)) rfl (told_pos (by omega))
  have h0 := stripTo (by simp only [List.length_append, List.length_singleton]; omega) (tail_num (R := u.data.toList ++ [58] ++ Lib.itoa (L : Int)) (x := 58) (u := C) (by decide) (by decide) (by omega))
  have h1 := stripTo (by simp only [List.length_append, List.length_singleton]; omega) (tail_num (R := u.data.toList) (x := 58) (u := L) (by decide) (by decide) (by omega))
  rw [toB_u] at h1
  have sP : PtTo L C 0 L C (-1) := ptTo _ _ _ _ _ _ q1 q2 (q8 L C b1.1 b2.1)
  have hC1 : (1 : Int) < (C : Int) := by omega
  by_cases hp : L = L2 ∧ C = C2 ∧ o = o2
  · obtain ⟨rfl, rfl, rfl⟩ := hp
    refine ⟨u.data.toList ++ [58] ++ Lib.itoa (L : Int) ++ [58] ++ Lib.itoa (C : Int), iText_of hS (hide (fun W hT => ?_)), hide (iParse_of (fun W => ?_) hof)⟩
    · have HQ : SaysTo 49 #[spV u L C o L C o] true := says (fun W => sIsPoint_any _ _ _ _ _ _ _ W) (by simp)
      by_cases ho : 0 ≤ o
      · have h := zs_bp u L C o L C o hu0 hu b1.2 b2.2 hC1 HV HZ (says (fun W => sHasOff_any _ _ _ _ _ _ _ W) (decide_eq_true ho)) HP HQ W hT
        simpa only [List.append_assoc] using h
      · have h := zs_bpn u L C o L C o hu0 hu b1.2 b2.2 hC1 HV HZ (says (fun W => sHasOff_any _ _ _ _ _ _ _ W) (decide_eq_false ho)) HP HQ W hT
        simpa only [List.append_assoc] using h
    · exact parse_bp _ _ u _ _ _ _ _ h0 h1 sP (newTo_pt u _ _ _) W
  · have HQ : SaysTo 49 #[spV u L C o L2 C2 o2] false := says (fun W => sIsPoint_any _ _ _ _ _ _ _ W) (by simp; omega)
    by_cases hlt : L < L2
    · refine ⟨u.data.toList ++ [58] ++ Lib.itoa (L : Int) ++ [58] ++ Lib.itoa (C : Int) ++ [45] ++ Lib.itoa (L2 : Int) ++ [58] ++ Lib.itoa (C2 : Int), iText_of hS (hide (fun W hT => ?_)), hide (iParse_of (fun W => ?_) hof)⟩
      · by_cases ho : 0 ≤ o
        · have h := zs_bs u L C L2 C2 o o2 hu0 hu b1.2 b2.2 b4.2 b5.2 hC1 (by omega) HV HZ (says (fun W => sHasOff_any _ _ _ _ _ _ _ W) (decide_eq_true ho)) HP HQ W hT
          simpa only [List.append_assoc] using h
        · have h := zs_bsn u L C L2 C2 o o2 hu0 hu b1.2 b2.2 b4.2 b5.2 hC1 (by omega) HV HZ (says (fun W => sHasOff_any _ _ _ _ _ _ _ W) (decide_eq_false ho)) HP HQ W hT
          simpa only [List.append_assoc] using h
      · have g0 := stripTo (by simp only [List.length_append, List.length_singleton]; omega) (tail_num (R := u.data.toList ++ [58] ++ Lib.itoa (L : Int) ++ [58] ++ Lib.itoa (C : Int) ++ [45] ++ Lib.itoa (L2 : Int)) (x := 58) (u := C2) (by decide) (by decide) (by omega))
        have g1 := stripTo (by simp only [List.length_append, List.length_singleton]; omega) (tail_num (R := u.data.toList ++ [58] ++ Lib.itoa (L : Int) ++ [58] ++ Lib.itoa (C : Int)) (x := 45) (u := L2) (by decide) (by decide) (by omega))
        exact parse_bs _ _ _ _ u _ _ _ _ _ _ _ _ _ _ g0 g1 h0 h1 (ptTo _ _ _ _ _ _ q4 q5 (q8 L2 C2 b4.1 b5.1)) sP (newTo_sp u (atSt_pos (by omega))) W
    · obtain rfl : L = L2 := by omega
      refine ⟨u.data.toList ++ [58] ++ Lib.itoa (L : Int) ++ [58] ++ Lib.itoa (C : Int) ++ [45] ++ Lib.itoa (C2 : Int), iText_of hS (hide (fun W hT => ?_)), hide (iParse_of (fun W => ?_) hof)⟩
      · by_cases ho : 0 ≤ o
        · have h := zs_bc u L C C2 o L o2 hu0 hu b1.2 b2.2 b5.2 hC1 (by omega) HV HZ (says (fun W => sHasOff_any _ _ _ _ _ _ _ W) (decide_eq_true ho)) HP HQ W hT
          simpa only [List.append_assoc] using h
        · have h := zs_bcn u L C C2 o L o2 hu0 hu b1.2 b2.2 b5.2 hC1 (by omega) HV HZ (says (fun W => sHasOff_any _ _ _ _ _ _ _ W) (decide_eq_false ho)) HP HQ W hT
          simpa only [List.append_assoc] using h
      · have g0 := stripTo (by simp only [List.length_append, List.length_singleton]; omega) (tail_num (R := u.data.toList ++ [58] ++ Lib.itoa (L : Int) ++ [58] ++ Lib.itoa (C : Int)) (x := 45) (u := C2) (by decide) (by decide) (by omega))
        have r1 : cc (C2 : Int) 0 = 1 := by unfold cc; rw [if_pos (by omega), if_pos (by rw [cl_pos (by omega)]; omega)]
        have r2 : co (C2 : Int) 0 0 = -1 := by unfold co; rw [if_pos ⟨rfl, Or.inl (by rw [cl_pos (by omega)]; omega)⟩]
        have r3 : co (L : Int) C2 (-1) = -1 := by unfold co; rw [if_neg (by omega)]
        exact parse_bc _ _ _ u _ _ _ _ _ _ _ _ _ _ _ _ g0 h0 h1 (ptTo _ _ _ _ _ _ (cl_pos (by omega)) r1 r2) (ptTo _ _ _ _ _ _ q1 (cc_pos (by omega)) r3) sP (newTo_sp u (atSt_pos (by omega))) W
end Go.Proofs.YtckgdkjgllopmaaDoor
