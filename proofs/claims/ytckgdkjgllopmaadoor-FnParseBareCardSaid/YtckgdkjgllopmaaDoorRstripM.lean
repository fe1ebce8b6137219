/- Walk: gtspan.rstripSuffix at a text that ends with a mark, and maybe a number. No condition but sizes. -/
import Derived.Test.YtckgdkjgllopmaaDoorLastRM
import Derived.Test.YtckgdkjgllopmaaDoorShelfNM
import Derived.Deep.CutRange
import Derived.Deep.DeepCutAuto
set_option linter.unusedVariables false
set_option linter.unusedSimpArgs false
namespace Go.Proofs.YtckgdkjgllopmaaDoor
open Go.RowKit Go.Proofs.YtckgdkjgllopmaaDoor.Lines
attribute [local go_sem ↓] Go.wp_at_zero Go.wp_at_succ

theorem size_list' (s : ByteArray) : s.data.toList.length = s.size := by rw [Array.length_toList]; rfl
theorem encode_ascii (x : UInt8) (h : x.toNat < 128) : Utf8.encode (x.toNat : Int) = ⟨#[x]⟩ := by
  unfold Utf8.encode
  have hv : Utf8.valid (x.toNat : Int) = true := by unfold Utf8.valid; simp; omega
  rw [if_pos hv, Int.toNat_natCast, if_pos h]
  have e : UInt8.ofNat x.toNat = x := by apply UInt8.toNat_inj.1; rw [UInt8.toNat_ofNat']; omega
  show (⟨#[UInt8.ofNat x.toNat]⟩ : ByteArray) = ⟨#[x]⟩
  rw [e]
/-- What it leaves. -/
def StripRes (w : World) (R : ByteArray) (x : UInt8) (n : Int) (e : Ending) (w' : World) : Prop := e = .returned (.agg #[.string R, .string ⟨#[x]⟩, .int .i64 n]) ∧ Below w.heap.size w w'

set_option maxHeartbeats 4000000 in
set_option maxRecDepth 100000 in
theorem rstrip_mark (s R : ByteArray) (x : UInt8) (hs : s.size ≤ 2147483647) (h1 : x.toNat < 128) (h2 : ¬ (48 ≤ x.toNat ∧ x.toNat ≤ 57)) (h3 : s.data.toList = R.data.toList ++ [x]) (w : World) :
    Calls Tryd.prog 43 #[.string s] w (StripRes w R x (-1)) := by
  have hz : s.size = R.size + 1 := by have := congrArg List.length h3; simp only [List.length_append, List.length_singleton, size_list'] at this; exact this
  have hbx : bt s R.size = x.toNat := by unfold bt; rw [h3, List.getD_eq_getElem?_getD, List.getElem?_append_right (by rw [size_list']; exact Nat.le_refl _)]; simp
  have HZ := hide (fun W => zzLast_any s R.size (by omega) hs (by rw [hbx]; exact ⟨h1, h2⟩) (fun j a b => by omega) W)
  have HL := hide (fun W => lastR_ascii s (by omega) hs x (by apply UInt8.toNat_inj.1; rw [bt_get, hz, Nat.add_sub_cancel, hbx]) h1 W)
  have hR : s.extract 0 (s.size - 1) = R := by
    apply eq_of_list
    rw [extract_list, List.drop_zero, h3, hz, Nat.add_sub_cancel, Nat.sub_zero, ← size_list' R, List.take_left]
  have HEnc := hide (fun (_ : World) => encode_ascii x h1)
  have HRR := hide (fun (_ : World) => hR)
  have hne : ((s.size : Int) == 0) = false := beq_eq_false_iff_ne.2 (by omega)
  obtain ⟨r, hr⟩ : ∃ r, x.toNat = r := ⟨_, rfl⟩
  rw [hr] at HL HEnc
  have hlt : decide ((R.size : Int) < (s.size : Int) - 1) = false := decide_eq_false (by omega)
  have hge : (1 : Int) ≤ (s.size : Int) := by omega
  clear hR hbx h3 hz hr h1 h2
  go_enter Tryd.func43, Tryd.ntmps43
  go_wp2_with fail
  refine (HZ.out _).mono ?_
  rintro e w1 ⟨rfl, rfl⟩
  go_wp2_with fail
  refine (HL.out _).mono ?_
  rintro e w1 ⟨rfl, rfl⟩
  clear HZ HL
  by_cases h58 : (r : Int) = 58
  · go_wp2
    have e1 := HEnc.out w
    rw [h58] at e1
    exact bodyPost_ret (v := .agg #[.string R, .string ⟨#[x]⟩, .int .i64 (-1)]) (by simp [results, Tryd.results43, go_sem, e1, HRR.out w]) rfl ⟨rfl, by go_grown⟩
  · by_cases h35 : (r : Int) = 35
    · go_wp2
      have e1 := HEnc.out w
      rw [h35] at e1
      exact bodyPost_ret (v := .agg #[.string R, .string ⟨#[x]⟩, .int .i64 (-1)]) (by simp [results, Tryd.results43, go_sem, e1, HRR.out w]) rfl ⟨rfl, by go_grown⟩
    · go_wp2
      have e1 := HEnc.out w
      exact bodyPost_ret (v := .agg #[.string R, .string ⟨#[x]⟩, .int .i64 (-1)]) (by simp [results, Tryd.results43, go_sem, e1, HRR.out w]) rfl ⟨rfl, by go_grown⟩

set_option maxHeartbeats 4000000 in
set_option maxRecDepth 100000 in
theorem rstrip_num (s R : ByteArray) (x : UInt8) (u : Nat) (hs : s.size ≤ 2147483647) (hu : u ≤ 1000000000000000000) (h1 : x.toNat < 128) (h2 : ¬ (48 ≤ x.toNat ∧ x.toNat ≤ 57)) (h3 : s.data.toList = R.data.toList ++ x :: Lib.decDigits u) (w : World) :
    Calls Tryd.prog 43 #[.string s] w (StripRes w R x u) := by
  have hn1 := Lib.nDigits_pos u
  have hln := Lib.decDigits_length u
  have hz : s.size = R.size + 1 + Lib.nDigits u := by have := congrArg List.length h3; simp only [List.length_append, List.length_cons, size_list', hln] at this; omega
  have hbx : bt s R.size = x.toNat := by unfold bt; rw [h3, List.getD_eq_getElem?_getD, List.getElem?_append_right (by rw [size_list']; exact Nat.le_refl _)]; simp
  have hbd : ∀ j, R.size < j → j < s.size → 48 ≤ bt s j ∧ bt s j ≤ 57 := fun j a b => by
    obtain ⟨k, rfl⟩ : ∃ k, j = R.size + 1 + k := ⟨j - R.size - 1, by omega⟩
    have hk : k < (Lib.decDigits u).length := by omega
    have e : bt s (R.size + 1 + k) = ((Lib.decDigits u)[k]'hk).toNat := by
      unfold bt
      rw [h3, List.getD_eq_getElem?_getD, List.getElem?_append_right (by rw [size_list']; omega), size_list', show R.size + 1 + k - R.size = k + 1 by omega, List.getElem?_cons_succ, List.getElem?_eq_getElem hk, Option.getD_some]
    rw [e]
    exact dec_digit u _ (List.getElem_mem _)
  have HZ := hide (fun W => zzLast_any s R.size (by omega) hs (by rw [hbx]; exact ⟨h1, h2⟩) hbd W)
  have hD : s.extract (R.size + 1) s.size = toB (Lib.decDigits u) := by
    apply eq_of_list
    rw [extract_list, h3, toB_list, List.take_of_length_le (by rw [List.length_drop, List.length_append, List.length_cons, size_list']; omega)]
    rw [show R.data.toList ++ x :: Lib.decDigits u = (R.data.toList ++ [x]) ++ Lib.decDigits u by simp, List.drop_append_of_le_length (by simp), List.drop_of_length_le (by simp [size_list'])]
    rfl
  have hM : s.extract 0 (R.size + 1) = toB (R.data.toList ++ [x]) := by
    apply eq_of_list
    rw [extract_list, h3, toB_list, List.drop_zero, Nat.sub_zero, show R.data.toList ++ x :: Lib.decDigits u = (R.data.toList ++ [x]) ++ Lib.decDigits u by simp, List.take_left' (by simp)]
  have hMz : (toB (R.data.toList ++ [x])).size = R.size + 1 := by rw [toB_size, List.length_append, size_list', List.length_singleton]
  have HP : Hid (∀ W, Calls Tryd.prog 56 #[.string (s.extract (R.size + 1) s.size), .int .i64 10, .int .i64 64] W fun e w' => e = .returned (.tuple #[.int .i64 u, .nilIface]) ∧ Below W.heap.size W w') := hide (fun W => by
    rw [hD]
    refine (Tryd.strconv_ParseInt_10_at64_ok (toB (Lib.decDigits u)) (by rw [toB_size]; omega) u (by rw [toB_list]; exact dec_parse u hu) W).mono ?_
    rintro e w' ⟨rfl, rfl | ⟨t, rfl⟩⟩
    · exact ⟨rfl, Below.refl _ _⟩
    · exact ⟨rfl, Lib.bytesWorld_below _ _ _⟩)
  have HL : Hid (∀ W, Calls Tryd.prog 57 #[.string (s.extract 0 (R.size + 1))] W fun e w' => e = .returned (.tuple #[.int .i32 (x.toNat : Int), .int .i64 1]) ∧ W = w') := hide (fun W => by
    rw [hM]
    refine lastR_ascii _ (by omega) (by omega) x ?_ h1 W
    apply UInt8.toNat_inj.1
    rw [bt_get]
    unfold bt
    rw [toB_list, hMz, Nat.add_sub_cancel, List.getD_eq_getElem?_getD, List.getElem?_append_right (by rw [size_list']; exact Nat.le_refl _)]
    simp)
  have hR : (s.extract 0 (R.size + 1)).extract 0 R.size = R := by
    rw [hM]
    apply eq_of_list
    rw [extract_list, toB_list, List.drop_zero, Nat.sub_zero, List.take_left' (by rw [size_list'])]
  have hMs : (s.extract 0 (R.size + 1)).size = R.size + 1 := by rw [hM, hMz]
  have HEnc := hide (fun (_ : World) => encode_ascii x h1)
  have HRR := hide (fun (_ : World) => hR)
  have hne : ((s.size : Int) == 0) = false := beq_eq_false_iff_ne.2 (by omega)
  obtain ⟨r, hr⟩ : ∃ r, x.toNat = r := ⟨_, rfl⟩
  rw [hr] at HL HEnc
  have hlt : decide ((R.size : Int) < (s.size : Int) - 1) = true := decide_eq_true (by omega)
  have hge : (1 : Int) ≤ (s.size : Int) := by omega
  have hle : R.size + 1 ≤ s.size := by omega
  have hle2 : (R.size : Int) + 1 ≤ (s.size : Int) := by omega
  clear hR hbx h3 hz hr h1 h2 hbd hD hM hMz hln hn1
  go_enter Tryd.func43, Tryd.ntmps43
  go_wp2_with fail
  refine (HZ.out _).mono ?_
  rintro e w1 ⟨rfl, rfl⟩
  clear HZ
  go_wp2_with fail
  refine (HP.out _).mono ?_
  rintro e w1 ⟨rfl, hb1⟩
  have q1 := (Blk.newAt (w := w) (g := w.heap.size) (t := 75) (cs := #[.string ⟨#[]⟩, .string ⟨#[]⟩, .int .i64 0]) rfl).kept hb1
  have f1 := q1.three
  have hbl1 : Below w.heap.size w w1 := Below.trans (by go_grown) (hb1.mono (by simp))
  clear hb1 HP
  go_wp2_with fail
  refine (HL.out _).mono ?_
  rintro e w2 ⟨rfl, rfl⟩
  clear HL
  by_cases h58 : (r : Int) = 58
  · go_wp2
    have e1 := HEnc.out w
    rw [h58] at e1
    exact bodyPost_ret (v := .agg #[.string R, .string ⟨#[x]⟩, .int .i64 u]) (by simp [results, Tryd.results43, go_sem, e1, HRR.out w, f1]) rfl ⟨rfl, ((hbl1.setCell (p := ⟨w.heap.size, 0, none⟩) (Nat.le_refl _) _).setCell (p := ⟨w.heap.size, 1, none⟩) (Nat.le_refl _) _).setCell (p := ⟨w.heap.size, 2, none⟩) (Nat.le_refl _) _⟩
  · by_cases h35 : (r : Int) = 35
    · go_wp2
      have e1 := HEnc.out w
      rw [h35] at e1
      exact bodyPost_ret (v := .agg #[.string R, .string ⟨#[x]⟩, .int .i64 u]) (by simp [results, Tryd.results43, go_sem, e1, HRR.out w, f1]) rfl ⟨rfl, ((hbl1.setCell (p := ⟨w.heap.size, 0, none⟩) (Nat.le_refl _) _).setCell (p := ⟨w.heap.size, 1, none⟩) (Nat.le_refl _) _).setCell (p := ⟨w.heap.size, 2, none⟩) (Nat.le_refl _) _⟩
    · go_wp2
      have e1 := HEnc.out w
      exact bodyPost_ret (v := .agg #[.string R, .string ⟨#[x]⟩, .int .i64 u]) (by simp [results, Tryd.results43, go_sem, e1, HRR.out w, f1]) rfl ⟨rfl, ((hbl1.setCell (p := ⟨w.heap.size, 0, none⟩) (Nat.le_refl _) _).setCell (p := ⟨w.heap.size, 1, none⟩) (Nat.le_refl _) _).setCell (p := ⟨w.heap.size, 2, none⟩) (Nat.le_refl _) _⟩
theorem rstrip_any (s R : ByteArray) (x : UInt8) (n : Int) (hs : s.size ≤ 2147483647) (h : Tail s.data.toList R.data.toList x n) (w : World) :
    Calls Tryd.prog 43 #[.string s] w (StripRes w R x n) := by
  obtain ⟨h1, h2, ⟨h3, rfl⟩ | ⟨u, hu, h3, rfl⟩⟩ := h
  · exact rstrip_mark s R x hs h1 h2 h3 w
  · exact rstrip_num s R x u hs hu h1 h2 h3 w
end Go.Proofs.YtckgdkjgllopmaaDoor
