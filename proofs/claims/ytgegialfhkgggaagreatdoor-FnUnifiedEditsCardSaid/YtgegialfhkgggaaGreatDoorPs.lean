/- Walks: spec.count, spec.part, spec.head: the line at the head of a hunk is read. No condition but sizes. -/
import Derived.Test.YtgegialfhkgggaaGreatDoorPr
import Derived.Test.YtgegialfhkgggaaGreatDoorPb
import Derived.Test.YtgegialfhkgggaaGreatDoorShelf
import Derived.BigRegion
import Derived.Test.YtgegialfhkgggaaGreatDoorPd
set_option linter.unusedVariables false
set_option linter.unusedSimpArgs false
namespace Go.Proofs.YtgegialfhkgggaaGreatDoor
open Go.RowKit Go.Proofs.YtgegialfhkgggaaGreatDoor.Lines
attribute [local go_sem ↓] Go.wp_at_zero Go.wp_at_succ

/-- A text that does not begin with a digit. -/
def noDig (l : List UInt8) : Prop := ∀ b r, l = b :: r → ¬ (48 ≤ b.toNat ∧ b.toNat ≤ 57)
def CntRes (w : World) (u : Nat) (rest : ByteArray) (e : Ending) (w' : World) : Prop := e = .returned (.tuple #[.int .i64 u, .string rest]) ∧ Below w.heap.size w w'

set_option maxHeartbeats 4000000 in
theorem count_any (s rest : ByteArray) (u : Nat) (hu : u ≤ 999999999) (h : s.data.toList = Lib.decDigits u ++ rest.data.toList) (hr : noDig rest.data.toList) (hs : s.size ≤ 140737488355328) (w : World) :
    Calls Tryz.prog 87 #[.string s] w (CntRes w u rest) := by
  have hn9 := nDig_le9 hu
  have hn1 := Lib.nDigits_pos u
  have hln := Lib.decDigits_length u
  have hsz : s.size = Lib.nDigits u + rest.size := by have := congrArg List.length h; rw [List.length_append, size_list, size_list, hln] at this; exact this
  have hbt : ∀ k, k < Lib.nDigits u → (48 ≤ bt s k ∧ bt s k ≤ 57) ∧ valL ((Lib.decDigits u).take (k + 1)) = valL ((Lib.decDigits u).take k) * 10 + (bt s k - 48) := by
    intro k hk
    have hk2 : k < (Lib.decDigits u).length := by omega
    have e : bt s k = ((Lib.decDigits u)[k]'hk2).toNat := by
      unfold bt
      rw [h, List.getD_eq_getElem?_getD, List.getElem?_append_left hk2, List.getElem?_eq_getElem hk2, Option.getD_some]
    refine ⟨by rw [e]; exact dec_digit u _ (List.getElem_mem _), ?_⟩
    rw [List.take_succ_eq_append_getElem hk2, valL_snoc, e]
  have hend : ∀ hk : Lib.nDigits u < s.size, ¬ (48 ≤ bt s (Lib.nDigits u) ∧ bt s (Lib.nDigits u) ≤ 57) := by
    intro hk
    have hlt : 0 < rest.data.toList.length := by rw [size_list]; omega
    cases hl : rest.data.toList with
    | nil => rw [hl] at hlt; simp at hlt
    | cons b r =>
      have e : bt s (Lib.nDigits u) = b.toNat := by
        unfold bt
        rw [h, List.getD_eq_getElem?_getD, List.getElem?_append_right (by omega), hln, Nat.sub_self, hl]
        rfl
      rw [e]
      exact hr b r hl
  have hval : ∀ k, valL ((Lib.decDigits u).take k) ≤ 999999999 := fun k => by
    have h1 := valL_mono ((Lib.decDigits u).take k) ((Lib.decDigits u).drop k)
    rw [List.take_append_drop, valL_dec] at h1
    omega
  have hall : valL ((Lib.decDigits u).take (Lib.nDigits u)) = u := by rw [List.take_of_length_le (by omega), valL_dec]
  have hrest : s.extract (Lib.nDigits u) s.size = rest := by
    apply eq_of_list
    rw [extract_list, h, ← hln, List.drop_left, List.take_of_length_le]
    rw [size_list]; omega
  have HB := hide hbt
  have HE := hide hend
  have HV := hide hval
  have HA := hide hall
  have HR := hide hrest
  have h00 : valL ((Lib.decDigits u).take 0) = 0 := rfl
  have H0 := hide h00
  clear hbt hend hval hall hrest h00 h hr hln hu
  generalize hDD : Lib.decDigits u = D at *
  generalize hdd : Lib.nDigits u = d at *
  clear hDD hdd
  go_enter Tryz.func87, Tryz.ntmps87
  go_wp2
  go_loop [4, 5] (fun nv iv => ∃ k v : Nat, k ≤ d ∧ iv = .int .i64 k ∧ nv = .int .i64 v ∧ Hid (∀ (_ : World), v = valL (D.take k))) (fun _ iv => d - (intOf iv).toNat)
  case atStart => exact ⟨0, 0, Nat.zero_le _, rfl, rfl, hide (fun _ => H0.out.symm)⟩
  case round =>
    obtain ⟨k, v, hk, rfl, rfl, hv⟩ := hrel
    have hvb : v ≤ 999999999 := by have := HV.out k; rw [hv.out w]; exact this
    by_cases hlt : k < d
    · obtain ⟨⟨q1, q2⟩, q3⟩ := HB.out k hlt
      have hks : k < s.size := by omega
      have q4 := bt_get hks
      have HQ := hide (fun (_ : World) => q3)
      rw [← q4] at q1 q2
      have r1 : (48 : Int) ≤ ((s[k]'hks).toNat : Int) := by omega
      have r2 : ((s[k]'hks).toNat : Int) ≤ 57 := by omega
      have r3 : (k : Int) < 9 := by omega
      have r4 : (k : Int) < (s.size : Int) := by omega
      have HQ4 := hide (fun (_ : World) => q4)
      clear q3 q4 q1 q2
      go_wp2
      go_round
      case rel => exact ⟨k + 1, v * 10 + ((s[k]'hks).toNat - 48), by omega, by go_num, by congr 1; omega, hide (fun _ => by rw [HQ.out w, ← hv.out w, HQ4.out w])⟩
      case measure => simp [intOf]; omega
    · obtain rfl : k = d := by omega
      have hvu : v = u := by rw [hv.out w, HA.out]
      subst hvu
      have n0 : ((k : Int) == 0) = false := beq_eq_false_iff_ne.2 (by omega)
      have HS := hide (fun (_ : World) => hsz)
      have hle : (k : Int) ≤ (s.size : Int) := by omega
      have HRR := hide (fun (_ : World) => HR.out)
      by_cases hks : k < s.size
      · have hks2 : (k : Int) < (s.size : Int) := by omega
        by_cases h9 : (k : Int) < 9
        · have h3 := HE.out hks
          rw [← bt_get hks] at h3
          by_cases hc : (48 : Int) ≤ ((s[k]'hks).toNat : Int)
          · have hc3 : ¬ ((s[k]'hks).toNat : Int) ≤ 57 := by omega
            clear h3
            clear hsz HB HE HV HA HR H0
            go_wp2_with fail
            go_region
            go_wp2
            go_ret2
            exact ⟨by rw [HRR.out w]; rfl, by go_grown⟩
          · clear h3
            clear hsz HB HE HV HA HR H0
            go_wp2_with fail
            go_region
            go_wp2
            go_ret2
            exact ⟨by rw [HRR.out w]; rfl, by go_grown⟩
        · have hc : ¬ (k : Int) < 9 := h9
          clear hsz HB HE HV HA HR H0
          go_wp2_with fail
          go_region
          go_wp2
          go_ret2
          exact ⟨by rw [HRR.out w]; rfl, by go_grown⟩
      · have hc : ¬ (k : Int) < (s.size : Int) := by omega
        clear hsz HB HE HV HA HR H0
        go_wp2_with fail
        go_region
        go_wp2
        go_ret2
        exact ⟨by rw [HRR.out w]; rfl, by go_grown⟩
end Go.Proofs.YtgegialfhkgggaaGreatDoor
namespace Go.Proofs.YtgegialfhkgggaaGreatDoor
open Go.RowKit Go.Proofs.YtgegialfhkgggaaGreatDoor.Lines
attribute [local go_sem ↓] Go.wp_at_zero Go.wp_at_succ

theorem pre_yes (p r : List UInt8) : Lib.hasPrefix (p ++ r) p = true := by unfold Lib.hasPrefix; rw [List.isPrefixOf_iff_prefix]; exact List.prefix_append p r
theorem pre_trim (p r : List UInt8) : Lib.trimPrefix (p ++ r) p = r := by unfold Lib.trimPrefix; rw [if_pos (pre_yes p r), List.drop_left]
/-- strings.CutPrefix where it cuts. -/
theorem cut_yes (s p r : ByteArray) (h : s.data.toList = p.data.toList ++ r.data.toList) (W : World) : Calls Tryz.prog 30 #[.string s, .string p] W fun e w' => e = .returned (.tuple #[.string r, .bool true]) ∧ W = w' := by
  refine (Tryz.strings_CutPrefix s p W).mono ?_
  rintro e w' ⟨rfl, hw⟩
  rw [h, pre_yes, pre_trim]
  exact ⟨by rw [show (⟨r.data.toList.toArray⟩ : ByteArray) = r from toB_of r], hw.symm⟩
theorem cut_no (s p : ByteArray) (h : Lib.hasPrefix s.data.toList p.data.toList = false) (W : World) : Calls Tryz.prog 30 #[.string s, .string p] W fun e w' => e = .returned (.tuple #[.string s, .bool false]) ∧ W = w' := by
  refine (Tryz.strings_CutPrefix s p W).mono ?_
  rintro e w' ⟨rfl, hw⟩
  rw [h]
  refine ⟨?_, hw.symm⟩
  unfold Lib.trimPrefix
  rw [h, if_neg (by simp), show (⟨s.data.toList.toArray⟩ : ByteArray) = s from toB_of s]
theorem trimP_yes (s p r : ByteArray) (h : s.data.toList = p.data.toList ++ r.data.toList) (W : World) : Calls Tryz.prog 59 #[.string s, .string p] W fun e w' => e = .returned (.string r) ∧ W = w' := by
  refine (Tryz.strings_TrimPrefix s p W).mono ?_
  rintro e w' ⟨rfl, hw⟩
  rw [h, pre_trim]
  exact ⟨by rw [show (⟨r.data.toList.toArray⟩ : ByteArray) = r from toB_of r], hw.symm⟩
theorem noDig_of {c : UInt8} {l : List UInt8} (h : ¬ (48 ≤ c.toNat ∧ c.toNat ≤ 57)) : noDig (c :: l) := by
  intro b r e
  injection e with e1 e2
  rw [← e1]; exact h

/-- How many lines a head tells. -/
def one1 (n : Nat) : Nat := if 1 < n then n else 1
/-- What it leaves. -/
def PtRes (w : World) (u n : Nat) (rest : ByteArray) (e : Ending) (w' : World) : Prop := e = .returned (.tuple #[.int .i64 u, .int .i64 (one1 n), .string rest]) ∧ Below w.heap.size w w'
set_option maxHeartbeats 4000000 in
theorem part_any (s sg rest : ByteArray) (u n : Nat) (hu : u ≤ 999999999) (hn : n ≤ 999999999) (t : List UInt8) (hr : rest.data.toList = 32 :: t)
    (h : s.data.toList = sg.data.toList ++ Lib.decDigits u ++ (if 1 < n then 44 :: Lib.decDigits n else []) ++ rest.data.toList) (hs : s.size ≤ 140737488355328) (w : World) :
    Calls Tryz.prog 58 #[.string s, .string sg] w (PtRes w u n rest) := by
  have hsl := congrArg List.length h
  simp only [List.length_append, size_list] at hsl
  by_cases hc : 1 < n
  · rw [if_pos hc] at h hsl
    simp only [List.length_cons] at hsl
    have H1 := hide (cut_yes s sg (toB (Lib.decDigits u ++ (44 :: Lib.decDigits n ++ rest.data.toList))) (by rw [toB_list, h]; simp))
    have H2 := hide (fun W => count_any (toB (Lib.decDigits u ++ (44 :: Lib.decDigits n ++ rest.data.toList))) (toB (44 :: Lib.decDigits n ++ rest.data.toList)) u hu (by rw [toB_list, toB_list]) (by rw [toB_list]; exact noDig_of (by decide)) (by rw [toB_size]; simp only [List.length_append, List.length_cons, size_list]; omega) W)
    have H3 := hide (cut_yes (toB (44 :: Lib.decDigits n ++ rest.data.toList)) ⟨#[44]⟩ (toB (Lib.decDigits n ++ rest.data.toList)) (by rw [toB_list, toB_list]; rfl))
    have H4 := hide (fun W => count_any (toB (Lib.decDigits n ++ rest.data.toList)) rest n hn (by rw [toB_list]) (by rw [hr]; exact noDig_of (by decide)) (by rw [toB_size]; simp only [List.length_append, size_list]; omega) W)
    have hres : ((one1 n : Nat) : Int) = n := by unfold one1; rw [if_pos hc]
    have HRes := hide (fun (_ : World) => hres)
    clear h hsl hr hres
    unfold CntRes at H2 H4
    go_enter Tryz.func58, Tryz.ntmps58
    go_wp2_with fail
    refine (H1.out _).mono ?_
    rintro e w1 ⟨rfl, rfl⟩
    go_wp2_with fail
    refine (H2.out _).mono ?_
    rintro e w1 ⟨rfl, hb1⟩
    go_wp2_with fail
    refine (H3.out _).mono ?_
    rintro e w2 ⟨rfl, rfl⟩
    go_wp2_with fail
    refine (H4.out _).mono ?_
    rintro e w3 ⟨rfl, hb3⟩
    have HB := hide (hb1.trans (hb3.mono hb1.size))
    clear hb1 hb3 H1 H2 H3 H4
    go_wp2
    go_returns
    exact ⟨by rw [HRes.out w]; rfl, HB.out⟩
  · rw [if_neg hc, List.append_nil] at h
    have H1 := hide (cut_yes s sg (toB (Lib.decDigits u ++ rest.data.toList)) (by rw [toB_list, h]; simp))
    have H2 := hide (fun W => count_any (toB (Lib.decDigits u ++ rest.data.toList)) rest u hu (by rw [toB_list]) (by rw [hr]; exact noDig_of (by decide)) (by rw [toB_size]; simp only [List.length_append, size_list]; rw [if_neg hc] at hsl; simp only [List.length_nil] at hsl; omega) W)
    have H3 := hide (cut_no rest ⟨#[44]⟩ (by rw [hr]; rfl))
    have hres : ((one1 n : Nat) : Int) = 1 := by unfold one1; rw [if_neg hc]; rfl
    have HRes := hide (fun (_ : World) => hres)
    clear h hsl hr hres
    unfold CntRes at H2
    go_enter Tryz.func58, Tryz.ntmps58
    go_wp2_with fail
    refine (H1.out _).mono ?_
    rintro e w1 ⟨rfl, rfl⟩
    go_wp2_with fail
    refine (H2.out _).mono ?_
    rintro e w1 ⟨rfl, hb1⟩
    go_wp2_with fail
    refine (H3.out _).mono ?_
    rintro e w2 ⟨rfl, rfl⟩
    have HB := hide hb1
    clear hb1 H1 H2 H3
    go_wp2
    go_returns
    exact ⟨by rw [HRes.out w]; rfl, HB.out⟩

def HdRes (w : World) (f n g m : Nat) (e : Ending) (w' : World) : Prop := e = .returned (.tuple #[.agg #[.int .i64 f, .int .i64 (one1 n), .int .i64 g, .int .i64 (one1 m)], .bool true]) ∧ Below w.heap.size w w'
set_option maxHeartbeats 4000000 in
theorem head_any (s : ByteArray) (f n g m : Nat) (hf : f ≤ 999999999) (hn : n ≤ 999999999) (hg : g ≤ 999999999) (hm : m ≤ 999999999)
    (h : s.data.toList = [64, 64] ++ numT 45 f n ++ numT 43 g m ++ [32, 64, 64, 10]) (w : World) : Calls Tryz.prog 32 #[.string s] w (HdRes w f n g m) := by
  have ef := itoa_len f (by omega) (by omega)
  have eg := itoa_len g (by omega) (by omega)
  have l1 := numT_len 45 (f : Int) n (by omega) (by omega) (by omega)
  have l2 := numT_len 43 (g : Int) m (by omega) (by omega) (by omega)
  have hsl := congrArg List.length h
  simp only [List.length_append, List.length_cons, List.length_nil, size_list] at hsl
  have e1 : ∀ (sg : UInt8) (x y : Nat), numT sg (x : Int) y = [32, sg] ++ Lib.decDigits x ++ (if 1 < y then 44 :: Lib.decDigits y else []) := fun sg x y => by unfold numT; rw [Lib.itoa_nonneg, Lib.itoa_nonneg]
  have hg2 : ∃ t, numT 43 (g : Int) m = 32 :: t := by unfold numT; exact ⟨_, rfl⟩
  obtain ⟨t2, ht2⟩ := hg2
  have H1 := hide (trimP_yes s ⟨#[64, 64]⟩ (toB (numT 45 f n ++ (numT 43 g m ++ [32, 64, 64, 10]))) (by rw [toB_list, h]; simp))
  have H2 := hide (fun W => part_any (toB (numT 45 f n ++ (numT 43 g m ++ [32, 64, 64, 10]))) ⟨#[32, 45]⟩ (toB (numT 43 g m ++ [32, 64, 64, 10])) f n hf hn (t2 ++ [32, 64, 64, 10]) (by rw [toB_list, ht2]; rfl) (by rw [toB_list, toB_list, e1]) (by rw [toB_size]; simp only [List.length_append, List.length_cons, List.length_nil]; omega) W)
  have H3 := hide (fun W => part_any (toB (numT 43 g m ++ [32, 64, 64, 10])) ⟨#[32, 43]⟩ ⟨#[32, 64, 64, 10]⟩ g m hg hm [64, 64, 10] rfl (by rw [toB_list, e1]) (by rw [toB_size]; simp only [List.length_append, List.length_cons, List.length_nil]; omega) W)
  have H4 : Hid (∀ W, Calls Tryz.prog 60 #[.string s, .string ⟨#[64, 64]⟩] W fun e w' => e = .returned (.bool true) ∧ W = w') := hide (fun W => by
    refine (Tryz.strings_HasPrefix s ⟨#[64, 64]⟩ W).mono ?_
    rintro e w' ⟨rfl, hw⟩
    refine ⟨?_, hw.symm⟩
    rw [h, List.append_assoc, List.append_assoc]
    exact ret_bool (pre_yes [64, 64] _))
  clear h hsl e1 ht2 ef eg l1 l2
  unfold PtRes at H2 H3
  go_enter Tryz.func32, Tryz.ntmps32
  go_wp2_with fail
  refine (H1.out _).mono ?_
  rintro e w1 ⟨rfl, rfl⟩
  go_wp2_with fail
  refine (H2.out _).mono ?_
  rintro e w1 ⟨rfl, hb1⟩
  have k1 := (blk1_1 (w := w) (t := 71) (cs := #[.int .i64 0, .int .i64 0, .int .i64 0, .int .i64 0]) rfl).kept hb1
  have hbl1 : Below w.heap.size w w1 := Below.trans (by go_grown) (hb1.mono (by simp))
  clear hb1
  go_wp2_with fail
  refine (H3.out _).mono ?_
  rintro e w2 ⟨rfl, hb2⟩
  have k2 := k1.kept hb2
  have hbl2 := hbl1.trans (hb2.mono hbl1.size)
  clear hb2 k1 hbl1
  go_wp2_with fail
  refine (H4.out _).mono ?_
  rintro e w3 ⟨rfl, rfl⟩
  have c0 : w2.cell? ⟨w.heap.size, 0, none⟩ = some (.int .i64 0) := k2.cell 0
  have c1 : w2.cell? ⟨w.heap.size, 1, none⟩ = some (.int .i64 0) := k2.cell 1
  have c2 : w2.cell? ⟨w.heap.size, 2, none⟩ = some (.int .i64 0) := k2.cell 2
  have c3 : w2.cell? ⟨w.heap.size, 3, none⟩ = some (.int .i64 0) := k2.cell 3
  have z0 := k2.frozen 0
  have z1 := k2.frozen 1
  have z2 := k2.frozen 2
  have z3 := k2.frozen 3
  have HB := hide hbl2
  clear H1 H2 H3 H4 k2 hbl2
  go_wp2
  exact bodyPost_ret (v := .tuple #[.agg #[.int .i64 f, .int .i64 (one1 n), .int .i64 g, .int .i64 (one1 m)], .bool true]) (by simp [results, Tryz.results32, go_sem, c0, c1, c2, c3, z0, z1, z2, z3]) rfl ⟨rfl, (((HB.out.setCell (p := ⟨w.heap.size, 0, none⟩) (Nat.le_refl _) _).setCell (p := ⟨w.heap.size, 1, none⟩) (Nat.le_refl _) _).setCell (p := ⟨w.heap.size, 2, none⟩) (Nat.le_refl _) _).setCell (p := ⟨w.heap.size, 3, none⟩) (Nat.le_refl _) _⟩
end Go.Proofs.YtgegialfhkgggaaGreatDoor
