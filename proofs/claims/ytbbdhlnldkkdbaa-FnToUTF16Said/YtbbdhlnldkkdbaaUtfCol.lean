/- Walks: span.ToUTF16Column and impl.ToUTF16 at a place of a text. No condition but sizes. -/
import Derived.Test.YtbbdhlnldkkdbaaUnits
import Derived.Test.YtbbdhlnldkkdbaaOffB
import Derived.Test.YtbbdhlnldkkdbaaMade
import Derived.Deep.DeepCutAuto
namespace Go.Proofs.Ytbbdhlnldkkdbaa
open Go.RowKit Go.Proofs.Ytbbdhlnldkkdbaa.Lines
attribute [local go_sem ↓] Go.wp_at_zero Go.wp_at_succ

theorem sub_list (s : ByteArray) (b k : Nat) : (s.extract b k).data.toList = (s.data.toList.drop b).take (k - b) := extract_list s b k

/-- The characters of a text as a slice. -/
theorem runes_conv (s : ByteArray) (hs : s.size ≤ 2147483647) : ∃ (rs : List Nat) (cp : World → Nat) (cl : World → Array Value),
    rs.length ≤ s.size ∧ (∀ r ∈ rs, r ≤ 1114111 ∧ ¬ (55296 ≤ r ∧ r < 57344)) ∧ sumU rs rs.length = units s.data.toList ∧
    (∀ W, (convert 9 96 (.string s)).run Try.prog W = .ok (.slice (some ⟨W.heap.size, 0, none⟩) rs.length (cp W)) (W.drew.alloc (.cells (cl W) 21))) ∧
    (∀ W i, i < rs.length → (cl W)[i]? = some (.int .i32 (rn rs i : Nat))) := by
  have he := runesFrom_eq s s.size 0 #[]
  rw [List.drop_zero, Array.empty_append] at he
  have hlen := runesL_len s.size s.data.toList
  have hu := runesL_units s.size s.data.toList (by rw [size_list]; exact Nat.le_refl _)
  have hok := runesL_ok s.size s.data.toList
  generalize runesL s.size s.data.toList = rs at *
  have hsz : (Conv.runesFrom s s.size 0 #[]).size = rs.length := by rw [he]; simp
  refine ⟨rs, fun W => grownCap W rs.length 0 21, fun W => Conv.runesFrom s s.size 0 #[] ++ Array.replicate (grownCap W rs.length 0 21 - rs.length) (.int .i32 0), hlen, hok, ?_, ?_, ?_⟩
  · unfold sumU; rw [List.take_length]; exact hu
  · intro W
    have h := run_runes_of_string (P := Try.prog) W 9 96 21 s Try.underlying9 Try.underlying96 Try.underlying21 (by rw [hsz]; omega)
    rw [hsz] at h
    exact h
  · intro W i hi
    rw [Array.getElem?_append_left (by rw [hsz]; exact hi), he]
    unfold rn
    simp [List.getD_eq_getElem?_getD, List.getElem?_eq_getElem hi]

section
variable (l c o : Int) (w : World)
theorem pHasPosition_any : Calls Try.prog 61 #[.agg #[.int .i64 l, .int .i64 c, .int .i64 o]] w fun e w' => e = .returned (.bool (decide (0 < l))) ∧ Below w.heap.size w w' := by
  go_enter Try.func61, Try.ntmps61
  go_wp2
  go_ret
  exact ⟨rfl, by go_grown⟩
theorem pHasOffset_any : Calls Try.prog 64 #[.agg #[.int .i64 l, .int .i64 c, .int .i64 o]] w fun e w' => e = .returned (.bool (decide (0 ≤ o))) ∧ Below w.heap.size w w' := by
  go_enter Try.func64, Try.ntmps64
  go_wp2
  go_ret
  exact ⟨rfl, by go_grown⟩
theorem pColumn_any (h : 0 < l) : Calls Try.prog 63 #[.agg #[.int .i64 l, .int .i64 c, .int .i64 o]] w fun e w' => e = .returned (.int .i64 c) ∧ Below w.heap.size w w' := by
  have g1 : decide (0 < l) = true := by simpa using h
  go_enter Try.func63, Try.ntmps63
  go_wp2
  go_ret
  exact ⟨rfl, by go_grown⟩
theorem pOffset_any (h : 0 ≤ o) : Calls Try.prog 65 #[.agg #[.int .i64 l, .int .i64 c, .int .i64 o]] w fun e w' => e = .returned (.int .i64 o) ∧ Below w.heap.size w w' := by
  have g1 : decide (0 ≤ o) = true := by simpa using h
  go_enter Try.func65, Try.ntmps65
  go_wp2
  go_ret
  exact ⟨rfl, by go_grown⟩
end

theorem bytes_back (w : World) (s : ByteArray) (g b m cap : Nat) (hB : BytesAt w g s) (h : b + m ≤ s.size) :
    (convert 73 9 (.slice (some ⟨g, b, none⟩) m cap)).run Try.prog w = .ok (.string (s.extract b (b + m))) w := by
  have hl : (s.extract b (b + m)).data.toList.length = m := by rw [size_list, ByteArray.size_extract]; omega
  have h2 := run_convert_bytes_back (P := Try.prog) w 73 9 5 ⟨g, b, none⟩ cap (s.extract b (b + m)).data.toList Try.underlying73 Try.underlying5 Try.underlying9 (by
    intro j hj
    rw [hl] at hj
    have hc := hB (b + j) (by omega)
    rw [show (⟨g, b, none⟩ : Addr).add j = ⟨g, b + j, none⟩ from by simp [Addr.add], hc]
    unfold bt
    have : (s.extract b (b + m)).data.toList[j] = s.data.toList.getD (b + j) 0 := by
      rw [List.getD_eq_getElem?_getD, List.getElem?_eq_getElem (by rw [size_list]; omega)]
      simp [sub_list]
    rw [this])
  rw [hl] at h2
  rw [h2]

set_option maxHeartbeats 2000000 in
set_option maxRecDepth 100000 in
theorem toUTF16Column_any (s : ByteArray) (l : Int) (b k g cap : Nat) (h1 : 1 ≤ l) (hbk : b ≤ k) (hk : k ≤ s.size) (hs : s.size ≤ 1073741823) (hcap : s.size ≤ cap) (w : World) (hB : BytesAt w g s) :
    Calls Try.prog 50 #[.agg #[.int .i64 l, .int .i64 ((k : Int) - b + 1), .int .i64 k], .slice (some ⟨g, 0, none⟩) s.size cap] w fun e w' =>
      e = .returned (.tuple #[.int .i64 (1 + (units (s.extract b k).data.toList : Nat)), .nilIface]) ∧ Below w.heap.size w w' := by
  have g1 : decide (0 < l) = true := by simp; omega
  have g2 : decide ((0 : Int) ≤ (k : Int)) = true := by simp
  by_cases he : b = k
  · subst he
    have hu : units (s.extract b b).data.toList = 0 := by
      rw [sub_list, Nat.sub_self, List.take_zero, units_nil]
    rw [hu]
    rw [show ((b : Int) - b + 1) = 1 by omega]
    go_enter Try.func50, Try.ntmps50
    go_wp2
    go_ret2
    exact ⟨rfl, by go_grown⟩
  · obtain ⟨m, hm⟩ : ∃ m, k = b + m := ⟨k - b, by omega⟩
    subst hm
    have hm0 : 1 ≤ m := by omega
    rw [show (((b + m : Nat) : Int) - b + 1) = (m : Int) + 1 by omega]
    have hsub : (s.extract b (b + m)).size = m := by rw [ByteArray.size_extract]; omega
    obtain ⟨rs, cp, cl, hr1, hr2, hr3, hr4, hr5⟩ := runes_conv (s.extract b (b + m)) (by omega)
    rw [hsub] at hr1
    have hU := units_le _ (s.extract b (b + m)).data.toList (Nat.le_refl _)
    rw [size_list, hsub] at hU
    generalize units (s.extract b (b + m)).data.toList = U at *
    rw [Int.add_comm 1 (U : Int)]
    have c1 : decide (((b + m : Nat) : Int) - (m : Int) < 0) = false := by simp <;> omega
    have HB := hide hB
    clear hB
    go_enter Try.func50, Try.ntmps50
    have q0 := (Blk.newAt (w := w) (g := w.heap.size) (t := 65) (cs := #[.int .i64 l, .int .i64 ((m : Int) + 1), .int .i64 ((b + m : Nat) : Int)]) rfl)
    go_wp2_with fail
    refine (pHasPosition_any _ _ _ _).mono ?_
    rintro e w1 ⟨rfl, hb1⟩
    have hbl1 : Below w.heap.size w w1 := Below.trans (by go_grown) (hb1.mono (by simp))
    have k1 := q0.kept hb1
    have f1 := k1.three
    have l1 := k1.lt
    have hB1 : Hid (BytesAt w1 g s) := hide (HB.out.kept hbl1)
    clear hb1 q0
    go_wp2_with fail
    refine (pHasOffset_any _ _ _ _).mono ?_
    rintro e w2 ⟨rfl, hb2⟩
    have hbl2 := hbl1.trans (hb2.mono hbl1.size)
    have k2 := k1.kept hb2
    have f2 := k2.three
    have l2 := k2.lt
    clear hb2 k1 f1 l1
    go_wp2_with fail
    refine (pOffset_any _ _ _ _ (by omega)).mono ?_
    rintro e w3 ⟨rfl, hb3⟩
    have hbl3 := hbl2.trans (hb3.mono hbl2.size)
    have k3 := k2.kept hb3
    have f3 := k3.three
    have l3 := k3.lt
    clear hb3 k2 f2 l2
    go_wp2_with fail
    refine (pColumn_any _ _ _ _ (by omega)).mono ?_
    rintro e w4 ⟨rfl, hb4⟩
    have hbl4 := hbl3.trans (hb4.mono hbl3.size)
    clear hb4 k3 f3 l3
    have hcv := bytes_back w4 s g b m (cap - b) (HB.out.kept hbl4) hk
    go_wp2_with fail
    refine (encode_any w4.heap.size (cp w4) rs (by omega) hr2 _ (fun i hi => by
      have hn := Blk.new w4.drew 21 (cl w4)
      have hc := hn.cell i
      rw [hr5 w4 i hi] at hc
      exact hc)).mono ?_
    rintro e w5 ⟨⟨A, c5, rfl⟩, hb5⟩
    have hz4 := hbl4.size
    have hbl5 : Below w.heap.size w w5 := (hbl4.drew.alloc hz4 _).trans (hb5.mono (by simp; omega))
    rw [hr3]
    go_wp2
    go_ret2
    exact ⟨rfl, hbl5⟩

set_option maxHeartbeats 2000000 in
set_option maxRecDepth 100000 in
theorem iToUTF16_any (s : ByteArray) (l : Int) (b k : Nat) (h1 : 1 ≤ l) (hbk : b ≤ k) (hk : k ≤ s.size) (h0 : k = 0 → l = 1) (hs : s.size ≤ 1073741823) (w : World) :
    Calls Try.prog 31 #[.string s, .agg #[.int .i64 l, .int .i64 ((k : Int) - b + 1), .int .i64 k]] w fun e w' =>
      e = .returned (.tuple #[.int .i64 (1 + (units (s.extract b k).data.toList : Nat)), .bool true]) ∧ Below w.heap.size w w' := by
  have hcv := fun W => run_bytes_of_string (P := Try.prog) W 9 73 5 s Try.underlying9 Try.underlying73 Try.underlying5
  have hP : ∀ W, Calls Try.prog 39 #[.agg #[.int .i64 l, .int .i64 ((k : Int) - b + 1), .int .i64 k]] W fun e w' => e = .returned (.agg #[.int .i64 l, .int .i64 ((k : Int) - b + 1), .int .i64 k]) ∧ Below W.heap.size W w' := by
    intro W
    have h := pointTo_any l ((k : Int) - b + 1) k W
    have e1 : cl l = l := by unfold cl; rw [if_neg (by omega)]
    have e2 : cc l ((k : Int) - b + 1) = (k : Int) - b + 1 := by unfold cc; rw [if_neg (by omega)]
    have e3 : co l ((k : Int) - b + 1) k = k := by
      unfold co
      rw [e1, e2]
      by_cases hk0 : k = 0
      · have := h0 hk0
        rw [if_neg (by omega)]
      · rw [if_neg (by omega)]
    rw [e1, e2, e3] at h
    exact h
  have HP := hide hP
  have HT := hide (fun g cap hc W hB => toUTF16Column_any s l b k g cap h1 hbk hk hs hc W hB)
  have hU := units_le _ (s.extract b k).data.toList (Nat.le_refl _)
  rw [size_list, ByteArray.size_extract] at hU
  have hU2 : units (s.extract b k).data.toList ≤ 2147483647 := by omega
  clear hU hP
  generalize units (s.extract b k).data.toList = U at *
  generalize ((k : Int) - b + 1) = c at *
  go_enter Try.func31, Try.ntmps31
  go_wp2_with fail
  refine (HP.out _).mono ?_
  rintro e w1 ⟨rfl, hb1⟩
  have hbl1 : Below w.heap.size w w1 := Below.trans (by go_grown) (hb1.mono (by simp))
  have hz1 := hbl1.size
  go_wp2_with fail
  refine (HT.out _ _ (grownCap_ge _ _ _ _) _ (bytes_new _ _ _ _ _)).mono ?_
  rintro e w2 ⟨rfl, hb2⟩
  have hbl2 : Below w.heap.size w w2 := Below.trans (by go_grown) (hb2.mono (by simp; omega))
  clear hcv
  go_wp2
  go_ret2
  exact ⟨rfl, hbl2⟩
end Go.Proofs.Ytbbdhlnldkkdbaa
