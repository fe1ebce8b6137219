/- Walks and plain laws: spec.AreLines, LineEdits, laws.areFull; edits of full lines. No condition but sizes. -/
import Derived.Test.YtgegialfhkgggaaPj
import Derived.Test.YtgegialfhkgggaaPn
import Derived.Test.YtgegialfhkgggaaPm
import Derived.Test.YtgegialfhkgggaaPg
import Derived.BigRegion
set_option linter.unusedVariables false
set_option linter.unusedSimpArgs false
namespace Go.Proofs.Ytgegialfhkgggaa
open Go.RowKit Go.Proofs.Ytgegialfhkgggaa.Lines
attribute [local go_sem ↓] Go.wp_at_zero Go.wp_at_succ

/-- A text that is empty or ends with a newline. -/
def endsB (s : ByteArray) : Bool := s.data.toList.getLast?.getD 10 == 10

set_option maxHeartbeats 4000000 in
theorem endsLine_any (s : ByteArray) (hs : s.size ≤ 2147483647) (w : World) :
    Calls Try.prog 33 #[.string s] w fun e w' => e = .returned (.bool (endsB s)) ∧ w' = w := by
  by_cases h0 : s.size = 0
  · have he : endsB s = true := by
      unfold endsB
      have : s.data.toList = [] := List.eq_nil_of_length_eq_zero (by rw [size_list]; exact h0)
      rw [this]; rfl
    rw [he]
    have hse : s.toList.isEmpty = true := by
      cases h : s.toList.isEmpty
      · exfalso
        have := size_list s
        have hd : s.toList = s.data.toList := ByteArray.toList_eq s
        have hn : s.data.toList = [] := List.eq_nil_of_length_eq_zero (by rw [size_list]; exact h0)
        rw [hd, hn] at h
        cases h
      · rfl
    go_enter Try.func33, Try.ntmps33
    go_wp2
    go_ret
    exact ⟨rfl, rfl⟩
  · have hse := str_ne h0
    have hl : s.data.toList.getLast? = some (s[s.size - 1]'(by omega)) := by
      rw [List.getLast?_eq_getElem?, size_list, Array.getElem?_toList, Array.getElem?_eq_getElem (show s.size - 1 < s.size by omega)]
      rfl
    have he : ((((s[s.size - 1]'(by omega)).toNat : Nat) : Int) == 10) = endsB s := by
      unfold endsB
      rw [hl, Option.getD_some]
      generalize (s[s.size - 1]'(by omega)) = c
      rw [Bool.eq_iff_iff, beq_iff_eq, beq_iff_eq]
      constructor
      · intro h
        apply UInt8.toNat_inj.1
        show c.toNat = 10
        omega
      · rintro rfl; rfl
    go_enter Try.func33, Try.ntmps33
    go_wp2
    go_ret
    exact ⟨by rw [← he]; rfl, rfl⟩
end Go.Proofs.Ytgegialfhkgggaa
namespace Go.Proofs.Ytgegialfhkgggaa
open Go.RowKit Go.Proofs.Ytgegialfhkgggaa.Lines
attribute [local go_sem ↓] Go.wp_at_zero Go.wp_at_succ

/-- Where an edit ends at the beginning of a line, it begins at one, and its text ends. -/
def LnOk (s : ByteArray) (cs : List Int) (ts : List ByteArray) (i : Nat) : Prop := endsB (s.extract 0 (cs.getD (2 * i + 1) 0).toNat) = true → endsB (s.extract 0 (cs.getD (2 * i) 0).toNat) = true ∧ endsB (ts.getD i ByteArray.empty) = true
def LinesOk (s : ByteArray) (cs : List Int) (ts : List ByteArray) : Prop := Cuts s cs ts ∧ endsB s = true ∧ ∀ i, i < ts.length → LnOk s cs ts i

set_option maxHeartbeats 4000000 in
set_option maxRecDepth 100000 in
theorem areLines_any (s : ByteArray) (A B : Option Addr) (ca cb : Nat) (cs : List Int) (ts : List ByteArray) (hs : s.size ≤ 2147483647) (hn : cs.length ≤ 2147483647) (hf : Fits ts) (w : World) (hA : Ints w A cs) (hB : Strs w B ts) :
    Calls Try.prog 31 #[.string s, .slice A cs.length ca, .slice B ts.length cb] w (SaysB (LinesOk s cs ts) w) := by
  have HC := hide (areCuts_any s A B ca cb cs ts hs hn hf w hA hB)
  have HA := hide hA
  have HB := hide hB
  have HFit := hide hf.2
  have HE := hide (fun W => endsLine_any s hs W)
  obtain ⟨N, hN⟩ : ∃ N, cs.length = N := ⟨_, rfl⟩
  obtain ⟨M, hM⟩ : ∃ M, ts.length = M := ⟨_, rfl⟩
  rw [hN, hM] at HC ⊢
  have HN := hide hN
  have HM := hide hM
  clear hA hB hf hN hM hn
  go_enter Try.func31, Try.ntmps31
  go_wp2_with fail
  refine HC.out.mono ?_
  rintro e w1 ⟨b, rfl, hcut, hb1⟩
  have HBl := hide hb1
  cases b
  · clear hcut
    go_wp2
    go_ret
    exact SaysB.no HBl.out
  · have HCut := hide (hcut rfl)
    clear hcut hb1
    go_wp2_with fail
    refine (HE.out _).mono ?_
    rintro e w2 ⟨rfl, rfl⟩
    obtain ⟨eb, heb⟩ : ∃ eb, endsB s = eb := ⟨_, rfl⟩
    rw [heb]
    have HEb := hide heb
    clear heb HE HC
    cases eb
    · go_wp2
      go_ret
      exact SaysB.no HBl.out
    · go_wp2_with fail
      go_loopw [21] (fun jv wr => ∃ j : Nat, jv = .int .i64 j ∧ j ≤ M ∧ Hid (Below w.heap.size w wr) ∧ Hid (∀ i, i < j → LnOk s cs ts i)) (fun jv _ => M - (intOf jv).toNat)
      case atStart => exact ⟨0, rfl, Nat.zero_le _, HBl, hide (fun i hi => absurd hi (Nat.not_lt_zero _))⟩
      case round =>
        clear HBl
        obtain ⟨j, rfl, hj, HBl, hall⟩ := hrel
        by_cases hlt : j < M
        · have hcl := HCut.out.1
          rw [HN.out, HM.out] at hcl
          have hk1 := HCut.out.2.2.2 (2 * j + 1) (by rw [HN.out]; omega)
          have hk0 := HCut.out.2.2.2 (2 * j) (by rw [HN.out]; omega)
          obtain ⟨b1, o1, rfl, d1⟩ := HA.out.kept HBl.out (2 * j + 1) (by rw [HN.out]; omega)
          obtain ⟨b2, o2, e1, d0⟩ := HA.out.kept HBl.out (2 * j) (by rw [HN.out]; omega)
          injection e1 with e1
          injection e1 with e2 e3
          subst e2; subst e3
          obtain ⟨b3, o3, rfl, dt⟩ := HB.out.kept HBl.out j (by rw [HM.out]; omega)
          have hM5 : M ≤ 50 := by have := HCut.out.2.1; rw [HM.out] at this; exact this
          have a1 : (2 * (j : Int) + 1).toNat = 2 * j + 1 := by omega
          have a0 : (2 * (j : Int)).toNat = 2 * j := by omega
          have hts := HFit.out _ (getD_mem_B (ts := ts) (k := j) (by rw [HM.out]; omega))
          have HX : Hid (LnOk s cs ts j → ∀ i, i < j + 1 → LnOk s cs ts i) := hide (fun h i hi => by
            by_cases e : i = j
            · rw [e]; exact h
            · exact hall.out i (by omega))
          unfold LnOk at HX
          have h1 := hk1.1.1
          have h2 := hk1.2.1
          have h3 := hk0.1.1
          have h4 := hk0.2.1
          generalize ts.getD j ByteArray.empty = tx at *
          generalize cs.getD (2 * j + 1) 0 = z1 at *
          generalize cs.getD (2 * j) 0 = z0 at *
          obtain ⟨n1, rfl⟩ := Int.eq_ofNat_of_zero_le h1
          obtain ⟨n0, rfl⟩ := Int.eq_ofNat_of_zero_le h3
          have hn1 : n1 ≤ s.size := by omega
          have hn0 : n0 ≤ s.size := by omega
          simp only [Int.toNat_natCast] at HX
          have HE1 := hide (fun W => endsLine_any (s.extract 0 n1) (by rw [ByteArray.size_extract]; omega) W)
          have HE0 := hide (fun W => endsLine_any (s.extract 0 n0) (by rw [ByteArray.size_extract]; omega) W)
          have HEt := hide (fun W => endsLine_any tx hts W)
          generalize endsB (s.extract 0 n1) = q1 at *
          generalize endsB (s.extract 0 n0) = q0 at *
          generalize endsB tx = qt at *
          have hb1 : 2 * (j : Int) + 1 < (N : Int) := by omega
          have hb0 : 2 * (j : Int) < (N : Int) := by omega
          clear hk1 hk0 h1 h2 h3 h4 hall hcl
          go_wp2_with fail
          refine (HE1.out _).mono ?_
          rintro e w4 ⟨rfl, rfl⟩
          clear HE1
          cases q1
          · have HY := hide (HX.out (by simp))
            clear HX
            go_wp2
            go_roundw
            case rel => exact ⟨j + 1, by go_num, by omega, HBl, HY⟩
            case measure => simp [intOf]; omega
          · go_wp2_with fail
            refine (HE0.out _).mono ?_
            rintro e w5 ⟨rfl, rfl⟩
            clear HE0
            cases q0
            · clear HX
              go_wp2
              go_ret
              exact SaysB.no HBl.out
            · go_wp2_with fail
              refine (HEt.out _).mono ?_
              rintro e w6 ⟨rfl, rfl⟩
              clear HEt
              cases qt
              · clear HX
                go_wp2
                go_ret
                exact SaysB.no HBl.out
              · have HY := hide (HX.out (by simp))
                clear HX
                go_wp2
                go_roundw
                case rel => exact ⟨j + 1, by go_num, by omega, HBl, HY⟩
                case measure => simp [intOf]; omega
        · obtain rfl : j = M := by omega
          have HF := hide (show LinesOk s cs ts from ⟨HCut.out, HEb.out, fun i hi => hall.out i (by rw [← HM.out]; exact hi)⟩)
          clear hall
          go_wp2
          go_ret
          exact SaysB.yes HF.out HBl.out
end Go.Proofs.Ytgegialfhkgggaa
namespace Go.Proofs.Ytgegialfhkgggaa
open Go.RowKit Go.Proofs.Ytgegialfhkgggaa.Lines
attribute [local go_sem ↓] Go.wp_at_zero Go.wp_at_succ

/-- What LineEdits leaves. -/
def leL (s : ByteArray) (es : List Ct) : List Ct := if partB s es then fullC s es else es

theorem rowsAt_of {w : World} {A : Option Addr} {es : List Ed} (h : RowsF w A es.length (edAt es)) : RowsAt w A 8 (es.map edCells) := by
  intro i j hi hj
  rw [List.length_map] at hi
  obtain ⟨b, o, e, hc⟩ := h i j hi hj
  refine ⟨b, o, e, ?_⟩
  rw [← Nat.add_assoc, hc, edAt_get hi, List.getD_eq_getElem?_getD (l := es.map edCells), List.getElem?_map, List.getElem?_eq_getElem hi]
  rfl

set_option maxHeartbeats 4000000 in
theorem lineEd49_any (s : ByteArray) (es : List Ct) (p : Nat) (f : Nat → Ed) (A : Option Addr) (cA : Nat) (hs : s.size ≤ 100000) (hasc : AscC s.size es p) (hj : Joined s es p) (hn0 : 1 ≤ es.length) (hn : es.length ≤ 2000) (hsum : sumT es ≤ 100000000) (hP : PrepC s es f) (w : World)
    (hA : RowsF w A es.length f) : Calls Try.prog 49 #[.string s, .slice A es.length cA] w (LinRes w s (leL s es)) := by
  have HP := hide (hP A cA)
  have HA := hide hA
  have HLE := hide (fun cv A cA W hA => lineEdits_any s es p cv A cA hs hasc hj hn0 hn hsum W hA)
  obtain ⟨b, hb⟩ : ∃ b, partB s es = b := ⟨_, rfl⟩
  have HL : Hid (leL s es = if b then fullC s es else es) := hide (by unfold leL; rw [hb])
  unfold PrpC at HP
  rw [hb] at HP
  obtain ⟨n, hn2⟩ : ∃ n, es.length = n := ⟨_, rfl⟩
  have HN := hide hn2
  rw [hn2] at HP HLE HA hn0 hn ⊢
  clear hP hA hasc hj hb hn2
  have hn3 : ((n : Int) == 0) = false := by simp; omega
  go_enter Try.func49, Try.ntmps49
  go_wp2_with fail
  refine (HP.out _ HA.out).mono ?_
  rintro e w1 ⟨q, b1, rfl, hR, hb1⟩
  have HR := hide hR
  have HB := hide hb1
  clear hR hb1 HP HA
  cases b
  · go_wp2
    go_ret
    have hr := HR.out
    have hl : (es.map (edC s)).length = n := by rw [List.length_map, HN.out]
    rw [← hl] at hr
    rw [show leL s es = es from HL.out]
    exact ⟨some ⟨b1, 0, none⟩, n, by rw [HN.out]; rfl, rowsAt_of hr, HB.out⟩
  · go_wp2_with fail
    refine (HLE.out _ _ _ _ HR.out).mono ?_
    rintro e w2 ⟨A2, c2, rfl, hR2, hb2⟩
    have HR2 := hide hR2
    have HB2 := hide (HB.out.trans (hb2.mono HB.out.size))
    clear hR2 hb2 HLE HR HB
    go_wp2
    go_ret
    rw [show leL s es = fullC s es from HL.out]
    exact ⟨A2, c2, rfl, HR2.out, HB2.out⟩
end Go.Proofs.Ytgegialfhkgggaa
namespace Go.Proofs.Ytgegialfhkgggaa
open Go.RowKit Go.Proofs.Ytgegialfhkgggaa.Lines
attribute [local go_sem ↓] Go.wp_at_zero Go.wp_at_succ

set_option maxHeartbeats 4000000 in
/-- No edits: none are left. -/
theorem lineEd49_zero (s : ByteArray) (A : Option Addr) (cA : Nat) (w : World) : Calls Try.prog 49 #[.string s, .slice A 0 cA] w (LinRes w s []) := by
  go_enter Try.func49, Try.ntmps49
  go_wp2
  go_ret
  exact ⟨none, 0, rfl, fun i j hi _ => absurd hi (Nat.not_lt_zero _), by go_grown⟩

set_option maxHeartbeats 4000000 in
theorem iLineEd_of (s : ByteArray) (Q : List Pe) (es : List Ct) (A : Option Addr) (cA : Nat) (hn : es.length ≤ 2000) (hQ : Q.length = es.length)
    (hL : ∀ A c W, RowsF W A es.length (edAt (Q.map toEd)) → Calls Try.prog 49 #[.string s, .slice A es.length c] W (LinRes W s (leL s es)))
    (hfl : (leL s es).length ≤ 1000000) (w : World) (hA : RowsAt w A 7 (Q.map peCells)) :
    Calls Try.prog 32 #[.string s, .slice A es.length cA] w (ofRes w ((leL s es).map (edC s))) := by
  have HT := hide (fun W h => editsTo_any Q A cA (by omega) W h)
  have HL := hide hL
  have HR := hide hA
  have HF : Hid (∀ W A1, RowsAt W A1 8 ((Q.map toEd).map edCells) → RowsF W A1 es.length (edAt (Q.map toEd))) := hide (fun W A1 h => by
    have := rowsF_of h
    rw [List.length_map, hQ] at this
    exact this)
  have HO := hide (fun A c W h => editsOf_any ((leL s es).map (edC s)) A c (by rw [List.length_map]; exact hfl) W h)
  rw [List.length_map] at HO
  unfold EdsRes at HT
  simp only [List.length_map] at HT
  rw [hQ] at HT
  unfold LinRes at HL
  clear hL
  obtain ⟨L, hL⟩ : ∃ L, leL s es = L := ⟨_, rfl⟩
  rw [hL] at HL HO hfl ⊢
  clear hL
  obtain ⟨m, hm⟩ : ∃ m, L.length = m := ⟨_, rfl⟩
  rw [hm] at HL HO hfl
  clear hQ hA hm
  go_enter Try.func32, Try.ntmps32
  go_wp2_with fail
  refine (HT.out _ HR.out).mono ?_
  rintro e w1 ⟨A1, c1, rfl, _, hr, hb1⟩
  have HR2 := hide (HF.out _ _ hr)
  have HB1 := hide hb1
  clear hr hb1 HT HR HF
  go_wp2_with fail
  refine (HL.out _ _ _ HR2.out).mono ?_
  rintro e w2 ⟨A2, c2, rfl, hr2, hb2⟩
  have HR3 := hide hr2
  have HB2 := hide (HB1.out.trans (hb2.mono HB1.out.size))
  clear hr2 hb2 HL HB1 HR2
  go_wp2_with fail
  refine (HO.out _ _ _ HR3.out).mono ?_
  rintro e w3 ⟨A3, c3, rfl, h1, h2, h3⟩
  have HF : Hid (ofRes w (L.map (edC s)) (.returned (.slice A3 (L.map (edC s)).length c3)) w3) := hide ⟨A3, c3, rfl, h1, h2, HB2.out.trans (h3.mono HB2.out.size)⟩
  generalize (L.map (edC s)).length = mm at *
  clear h1 h2 h3
  go_wp2
  go_ret
  exact HF.out
theorem iLineEd_any (s : ByteArray) (Q : List Pe) (es : List Ct) (p : Nat) (A : Option Addr) (cA : Nat) (hs : s.size ≤ 100000) (hasc : AscC s.size es p) (hj : Joined s es p) (hn : es.length ≤ 2000) (hsum : sumT es ≤ 100000000) (hQ : Q.length = es.length) (hP : PrepC s es (edAt (Q.map toEd)))
    (hfl : (leL s es).length ≤ 1000000) (w : World) (hA : RowsAt w A 7 (Q.map peCells)) :
    Calls Try.prog 32 #[.string s, .slice A es.length cA] w (ofRes w ((leL s es).map (edC s))) := by
  refine iLineEd_of s Q es A cA hn hQ (fun A c W h => ?_) hfl w hA
  by_cases h0 : es.length = 0
  · have he : es = [] := List.length_eq_zero_iff.1 h0
    subst he
    exact lineEd49_zero s A c W
  · exact lineEd49_any s es p _ A c hs hasc hj (by omega) hn hsum hP W h
end Go.Proofs.Ytgegialfhkgggaa
namespace Go.Proofs.Ytgegialfhkgggaa
open Go.RowKit Go.Proofs.Ytgegialfhkgggaa.Lines
attribute [local go_sem ↓] Go.wp_at_zero Go.wp_at_succ

/-- An edit of full lines: two lines and two offsets, and a text. -/
structure Fe where
  a : Nat
  p : Int
  b : Nat
  q : Int
  t : ByteArray
def feCells (e : Fe) : List Value := [.int .i64 e.a, .int .i64 1, .int .i64 e.p, .int .i64 e.b, .int .i64 1, .int .i64 e.q, .string e.t]
def feLast (es : List Fe) : Nat → Nat
  | 0 => 1
  | i + 1 => ((es[i]?).map Fe.b).getD 1
def FeOk (s : ByteArray) (es : List Fe) : Prop := (∀ i (h : i < es.length), feLast es i ≤ (es[i]).a ∧ (es[i]).a ≤ (es[i]).b ∧ (es[i]).b ≤ (linesB s).length + 1 ∧ endsB (es[i]).t = true ∧ (es[i]).t.size ≤ 2147483647)

set_option maxHeartbeats 4000000 in
set_option maxRecDepth 100000 in
theorem areFull_any (s : ByteArray) (es : List Fe) (A : Option Addr) (cA : Nat) (hs : s.size ≤ 100000) (hn : es.length ≤ 1000000) (hok : FeOk s es) (w : World) (hA : RowsAt w A 7 (es.map feCells)) :
    Calls Try.prog 34 #[.string s, .slice A es.length cA] w fun e w' => e = .returned (.bool true) ∧ Below w.heap.size w w' := by
  have HA := hide hA
  have HOk := hide hok
  have HS := hide (fun W => lines_any s (by omega) W)
  have hM2 : (linesB s).length ≤ 100000 := by have := linesB_le_size s; omega
  obtain ⟨M, hM⟩ : ∃ M, (linesB s).length = M := ⟨_, rfl⟩
  unfold LinesRes at HS
  rw [hM] at HS hM2
  have HM := hide hM
  obtain ⟨n, hn2⟩ : ∃ n, es.length = n := ⟨_, rfl⟩
  have HN := hide hn2
  rw [hn2] at hn ⊢
  clear hA hok hM hn2
  go_enter Try.func34, Try.ntmps34
  go_wp2_with fail
  go_loopw [5, 10] (fun lv jv wr => ∃ j : Nat, jv = .int .i64 j ∧ j ≤ n ∧ lv = .int .i64 (feLast es j : Nat) ∧ Hid (Below w.heap.size w wr)) (fun _ jv _ => n - (intOf jv).toNat)
  case atStart => exact ⟨0, rfl, Nat.zero_le _, rfl, hide (Below.refl _ _)⟩
  case round =>
    obtain ⟨j, rfl, hj, rfl, hr⟩ := hrel
    by_cases hlt : j < n
    · have hlt2 : j < es.length := by have := HN.out; omega
      obtain ⟨k1, k2, k3, k4, k5⟩ := HOk.out j hlt2
      have hrow := HA.out.kept hr.out
      have hjm : j < (es.map feCells).length := by simpa using hlt2
      have hv : (es.map feCells).getD j [] = feCells es[j] := by rw [List.getD_eq_getElem?_getD, List.getElem?_map, List.getElem?_eq_getElem hlt2]; rfl
      have hnx : feLast es (j + 1) = (es[j]).b := by show ((es[j]?).map Fe.b).getD 1 = _; rw [List.getElem?_eq_getElem hlt2]; rfl
      have HNx := hide hnx
      obtain ⟨b, o, rfl, h0⟩ := hrow j 0 hjm (by omega)
      have hc : ∀ i, i < 7 → wr.cell? ⟨b, o + j * 7 + i, none⟩ = some ((feCells es[j]).getD i undef) := by
        intro i hi
        obtain ⟨b', o', e, h⟩ := hrow j i hjm hi
        injection e with e
        injection e with e1 e2
        subst e1; subst e2
        rw [Nat.add_assoc, h, hv]
      obtain ⟨e, he⟩ : ∃ e, es[j] = e := ⟨_, rfl⟩
      rw [he] at hc k1 k2 k3 k4 k5 hnx
      obtain ⟨fa, fp, fb, fq, ft⟩ := e
      dsimp only at k1 k2 k3 k4 k5 hnx
      have d0 := hc 0 (by omega)
      have d1 := hc 1 (by omega)
      have d2 := hc 2 (by omega)
      have d3 := hc 3 (by omega)
      have d4 := hc 4 (by omega)
      have d5 := hc 5 (by omega)
      have d6 := hc 6 (by omega)
      simp [feCells] at d0 d1 d2 d3 d4 d5 d6
      generalize feLast es j = lst at *
      have k3' : fb ≤ M + 1 := by rw [← HM.out]; exact k3
      have HNx' := hide hnx
      have HK := hide k4
      have HE := hide (fun W => endsLine_any ft k5 W)
      rw [k4] at HE
      clear hc h0 hrow he hv hnx HNx k3 k4
      go_upto_region 5 with fail
      refine wp_gen ?_
      intro W hW
      have hbW : Below wr.heap.size wr W := by rw [hW]; go_grown
      have b1 : Blk W wr.heap.size 38 #[.int .i64 fa, .int .i64 1, .int .i64 fp, .int .i64 fb, .int .i64 1, .int .i64 fq, .string ft] := by rw [hW]; exact Blk.new _ _ _
      have f1 := b1.seven
      have l1 := b1.lt
      have HB := hide (hr.out.trans (hbW.mono hr.out.size))
      clear hW d0 d1 d2 d3 d4 d5 d6 hr hbW
      go_wp2_with fail
      refine (HE.out _).mono ?_
      rintro e w5 ⟨rfl, rfl⟩
      clear HE HK
      go_wp2
      go_roundw
      case rel => exact ⟨j + 1, by go_num, by omega, by rw [HNx'.out], HB⟩
      case measure => simp [intOf]; omega
    · obtain rfl : j = n := by omega
      have hle : feLast es j ≤ M + 1 := by
        cases j with
        | zero => show 1 ≤ M + 1; omega
        | succ i =>
          have hi : i < es.length := by have := HN.out; omega
          have := (HOk.out i hi).2.2.1
          rw [HM.out] at this
          show ((es[i]?).map Fe.b).getD 1 ≤ M + 1
          rw [List.getElem?_eq_getElem hi]
          exact this
      generalize feLast es j = lst at *
      go_wp2_with fail
      refine (HS.out _).mono ?_
      rintro e w6 ⟨L, cL, rfl, _, _, hb6⟩
      have HB6 := hide (hr.out.trans (hb6.mono hr.out.size))
      clear hb6 hr HS
      have hd : decide ((lst : Int) ≤ (M : Int) + 1) = true := by simp; omega
      go_wp2
      go_ret
      exact ⟨rfl, HB6.out⟩
end Go.Proofs.Ytgegialfhkgggaa
namespace Go.Proofs.Ytgegialfhkgggaa
open Go.RowKit Stab Go.Proofs.Ytgegialfhkgggaa.Lines Mye

/-- The bytes are none, or end with a newline. -/
def endsX (l : List UInt8) : Prop := l.getLast?.getD 10 = 10
theorem endsX_nil : endsX [] := rfl
theorem endsB_iff {s : ByteArray} : endsB s = true ↔ endsX s.data.toList := by unfold endsB endsX; exact beq_iff_eq
theorem endsX_app {a b : List UInt8} (h1 : endsX b) (h2 : b = [] → endsX a) : endsX (a ++ b) := by
  cases b with
  | nil => rw [List.append_nil]; exact h2 rfl
  | cons x r =>
    unfold endsX at h1 ⊢
    rw [List.getLast?_append]
    cases h : (x :: r).getLast? with
    | none => simp at h
    | some y => rw [h] at h1; simpa using h1
theorem endsX_tail {a b : List UInt8} (h : endsX (a ++ b)) : endsX b := by
  cases b with
  | nil => rfl
  | cons x r =>
    unfold endsX at h ⊢
    rw [List.getLast?_append] at h
    cases h2 : (x :: r).getLast? with
    | none => rfl
    | some y => rw [h2] at h; simpa using h
theorem take_snoc (l : List UInt8) (j : Nat) (h : j < l.length) : l.take (j + 1) = l.take j ++ [l.getD j 0] := by
  rw [List.take_succ_eq_append_getElem h, List.getD_eq_getElem?_getD, List.getElem?_eq_getElem h]
  rfl
section
variable {s : ByteArray}
/-- An offset in column 1 is one behind full lines. -/
theorem pc_ends (hE : endsB s = true) (k : Nat) (h : k ≤ s.size) : PC s k = 1 ↔ endsX (s.data.toList.take k) := by
  by_cases c : k < s.size
  · rw [(PL_at s k c).2]
    cases k with
    | zero => exact ⟨fun _ => rfl, fun _ => rfl⟩
    | succ j =>
      have hb := lastNl_bd s j
      rw [take_snoc _ _ (by rw [size_list]; omega), lastNl]
      unfold endsX
      rw [List.getLast?_append]
      simp only [List.getLast?_singleton, Option.some_or, Option.getD_some]
      rw [← bt_ten]
      by_cases e : bt s j = 10
      · rw [if_pos e]
        exact ⟨fun _ => e, fun _ => by omega⟩
      · rw [if_neg e]
        exact ⟨fun h => by omega, fun h => absurd h e⟩
  · obtain rfl : k = s.size := by omega
    rw [(PL_end s).2, List.take_of_length_le (by rw [size_list]; exact Nat.le_refl _)]
    exact ⟨fun _ => endsB_iff.1 hE, fun _ => rfl⟩
theorem pc_endsB (hE : endsB s = true) (k : Nat) (h : k ≤ s.size) : PC s k = 1 ↔ endsB (s.extract 0 k) = true := by
  rw [pc_ends hE k h, endsB_iff, extract_list]
  simp
/-- An edit that ends at the beginning of a line begins at one, and its text ends. -/
def LnC (s : ByteArray) (e : Ct) : Prop := PC s e.b = 1 → PC s e.a = 1 ∧ endsX e.t.data.toList
/-- All texts done end; so will the one at hand. -/
structure EInv (s : ByteArray) (st : List Ct × Ct) : Prop where
  done : ∀ c ∈ st.1, endsX c.t.data.toList
  cur : PC s st.2.b = 1 → endsX ((s.extract (SL s st.2.a) st.2.a).data.toList ++ st.2.t.data.toList)
theorem slice_ends (hE : endsB s = true) {b e : Nat} (h1 : b ≤ e) (h2 : e ≤ s.size) (hc : PC s e = 1) : endsX (s.extract b e).data.toList := by
  have h3 := (pc_ends hE e h2).1 hc
  have h4 : s.data.toList.take e = s.data.toList.take b ++ (s.data.toList.drop b).take (e - b) := by
    rw [← List.take_add, show b + (e - b) = e by omega]
  rw [h4] at h3
  rw [extract_list]
  exact endsX_tail h3
theorem close_ends (hE : endsB s = true) {c : Ct} (hb : c.b ≤ s.size) (h : PC s c.b = 1 → endsX ((s.extract (SL s c.a) c.a).data.toList ++ c.t.data.toList)) : endsX (closeC s c).t.data.toList := by
  unfold closeC
  simp only [ByteArray.data_append, Array.toList_append]
  obtain ⟨n1, n2, n3, n4⟩ := NL_at s c.b hb
  refine endsX_app (slice_ends hE n3 n4 n1) (fun hn => ?_)
  by_cases q : PC s c.b = 1
  · exact h q
  · exfalso
    have p1 := (PC_pos s c.b hb).1
    have hlt := lt_of_PC s hb (show 1 < PC s c.b by omega)
    have hl : (s.extract c.b (NL s c.b)).data.toList.length = NL s c.b - c.b := by
      rw [size_list, ByteArray.size_extract]; omega
    rw [hn] at hl
    have he : NL s c.b = c.b := by simp at hl; omega
    rw [he] at n1
    exact q n1
theorem eInv1 (_ : endsB s = true) {e : Ct} (h : LnC s e) : EInv s ([], e) := by
  refine ⟨fun c hc => absurd hc (by simp), fun hb => ?_⟩
  obtain ⟨h1, h2⟩ := h hb
  exact endsX_app h2 (fun hn => by
    show endsX (s.extract (SL s e.a) e.a).data.toList
    rw [SL_one s _ h1]
    rw [extract_list]; simp [endsX])
theorem stepC_ends (hE : endsB s = true) {es : List Ct} {p : Nat} {st : List Ct × Ct} (H : InvC s es p st) (J : EInv s st) (e : Ct) (h0 : p ≤ e.a) (h1 : e.a ≤ e.b) (h2 : e.b ≤ s.size) (h : LnC s e) : EInv s (stepC s st e) := by
  obtain ⟨b1, b2, b3⟩ := H.ab
  unfold stepC
  by_cases c : PL s e.a ≤ PL s st.2.b
  · rw [if_pos c]
    refine ⟨J.done, fun hb => ?_⟩
    obtain ⟨h3, h4⟩ := h hb
    have hm := PL_mono s st.2.b e.a (by omega) (by omega)
    have p1 := (PC_pos s st.2.b (by omega)).1
    have hle := le_of_place s e.a st.2.b (by omega) (Or.inr ⟨by omega, by omega⟩)
    have he : e.a = st.2.b := by omega
    have hc : PC s st.2.b = 1 := by rw [← he]; exact h3
    simp only [ByteArray.data_append, Array.toList_append]
    have hnil : (s.extract st.2.b e.a).data.toList = [] := by rw [he, extract_list]; simp
    rw [hnil, List.nil_append, ← List.append_assoc]
    exact endsX_app h4 (fun _ => J.cur hc)
  · rw [if_neg c]
    refine ⟨fun x hx => ?_, (eInv1 hE h).cur⟩
    rcases List.mem_append.1 hx with h3 | h3
    · exact J.done x h3
    · obtain rfl := List.mem_singleton.1 h3
      exact close_ends hE (by omega) J.cur
theorem eInv_all (hE : endsB s = true) : ∀ {es : List Ct} {p : Nat}, AscC s.size es p → (∀ e ∈ es, LnC s e) → es ≠ [] → EInv s (runC s es) := by
  intro es p h
  induction h with
  | nil => intro _ h; exact absurd rfl h
  | @snoc es p e hs h1 h2 h3 ih =>
    intro hl _
    by_cases h0 : es = []
    · subst h0
      exact eInv1 hE (hl e (by simp))
    · rw [runC_snoc s h0]
      exact stepC_ends hE (invC_all hs h0) (ih (fun x hx => hl x (by simp [hx])) h0) e h1 h2 h3 (hl e (by simp))
theorem fullC_ends (hE : endsB s = true) {es : List Ct} {p : Nat} (h : AscC s.size es p) (hl : ∀ e ∈ es, LnC s e) : ∀ c ∈ fullC s es, endsX c.t.data.toList := by
  by_cases h0 : es = []
  · subst h0
    intro c hc
    exact absurd hc (by simp [fullC])
  · unfold fullC
    rw [if_neg (fun h => h0 (List.length_eq_zero_iff.1 h))]
    have J := eInv_all hE h hl h0
    have H := invC_all h h0
    intro x hx
    rcases List.mem_append.1 hx with h3 | h3
    · exact J.done x h3
    · obtain rfl := List.mem_singleton.1 h3
      exact close_ends hE (by have := H.ab; omega) J.cur
/-- The texts of edits are no longer than what they make. -/
theorem foldC_size {es : List Ct} {p : Nat} (h : AscC s.size es p) : sumT es ≤ (foldC s.data.toList es).1.length ∧ (foldC s.data.toList es).1.length ≤ sumT es + p := by
  induction h with
  | nil => exact ⟨Nat.le_refl _, Nat.le_refl _⟩
  | @snoc es p e h1 h2 h3 h4 ih =>
    have hf := ascC_fold s.data.toList h1
    rw [foldC_snoc, appS_up _ _ _ (show (foldC s.data.toList es).2 ≤ e.a by omega), sumT_snoc]
    show _ ≤ (upTo s.data.toList (foldC s.data.toList es) e.a ++ e.t.data.toList).length ∧ (upTo s.data.toList (foldC s.data.toList es) e.a ++ e.t.data.toList).length ≤ _
    unfold upTo
    rw [hf]
    simp only [List.length_append, List.length_take, List.length_drop, size_list]
    omega
theorem textC_size {es : List Ct} {p : Nat} (h : AscC s.size es p) : sumT es ≤ (textC s.data.toList es).length ∧ (textC s.data.toList es).length ≤ sumT es + s.size := by
  have h1 := foldC_size h
  have h2 := ascC_fold s.data.toList h
  have h3 := ascC_le h
  unfold textC
  rw [h2]
  simp only [List.length_append, List.length_drop, size_list]
  omega
theorem sumT_mem {es : List Ct} {c : Ct} (h : c ∈ es) : c.t.size ≤ sumT es := by
  unfold sumT
  induction es with
  | nil => cases h
  | cons a r ih =>
    rw [List.map_cons, List.sum_cons]
    rcases List.mem_cons.1 h with rfl | h
    · omega
    · have := ih h; omega
/-- What LineEdits leaves is in order, does the same, and is no longer than that. -/
theorem leL_ok {es : List Ct} {p : Nat} (h : AscC s.size es p) : ∃ q, AscC s.size (leL s es) q ∧ textC s.data.toList (leL s es) = textC s.data.toList es ∧ (leL s es).length ≤ es.length ∧ ∀ c ∈ leL s es, c.t.size ≤ sumT es + s.size := by
  unfold leL
  split
  · have H := fullC_ok h
    obtain ⟨q, hq⟩ := H.asc
    refine ⟨q, hq, H.text, H.len, fun c hc => ?_⟩
    have h1 := sumT_mem hc
    have h2 := (textC_size hq).1
    have h3 := (textC_size h).2
    rw [H.text] at h2
    omega
  · refine ⟨p, h, rfl, Nat.le_refl _, fun c hc => ?_⟩
    have h1 := sumT_mem hc
    omega
theorem ascC_get {n : Nat} {es : List Ct} {p : Nat} (h : AscC n es p) : (∀ i (hi : i < es.length), es[i].b ≤ p) ∧ ∀ i j (hij : i < j) (hj : j < es.length), (es[i]'(by omega)).b ≤ es[j].a := by
  induction h with
  | nil => exact ⟨fun i hi => absurd hi (by simp), fun i j _ hj => absurd hj (by simp)⟩
  | @snoc es p e h1 h2 h3 h4 ih =>
    obtain ⟨i1, i2⟩ := ih
    refine ⟨fun i hi => ?_, fun i j hij hj => ?_⟩
    · rw [List.length_append, List.length_singleton] at hi
      by_cases c : i < es.length
      · rw [List.getElem_append_left c]; have := i1 i c; omega
      · rw [List.getElem_append_right (by omega)]
        simp only [List.getElem_singleton]; omega
    · rw [List.length_append, List.length_singleton] at hj
      by_cases c : j < es.length
      · rw [List.getElem_append_left c, List.getElem_append_left (by omega)]; exact i2 i j hij c
      · have hi : i < es.length := by omega
        have hjj : es.length ≤ j := by omega
        rw [List.getElem_append_right hjj, List.getElem_append_left hi]
        simp only [List.getElem_singleton]
        have := i1 i hi; omega
/-- An edit of full lines, as areFull reads it. -/
def feC (s : ByteArray) (c : Ct) : Fe := ⟨(PL s c.a).toNat, c.a, (PL s c.b).toNat, c.b, c.t⟩
theorem feC_ok {fs : List Ct} {p : Nat} (h : AscC s.size fs p) (he : ∀ c ∈ fs, endsX c.t.data.toList ∧ c.t.size ≤ 2147483647) : FeOk s (fs.map (feC s)) := by
  intro i hi
  have hi2 : i < fs.length := by simpa using hi
  have hm := ascC_mem h _ (List.getElem_mem hi2)
  have hg := he _ (List.getElem_mem hi2)
  have e : (fs.map (feC s))[i] = feC s fs[i] := by simp
  rw [e]
  have q1 := PL_pos s fs[i].a (by omega)
  have q2 := PL_mono s fs[i].a fs[i].b hm.1 hm.2
  have q3 := PL_le s fs[i].b hm.2
  refine ⟨?_, ?_, ?_, endsB_iff.2 hg.1, hg.2⟩
  · cases i with
    | zero => show 1 ≤ (PL s fs[0].a).toNat; omega
    | succ k =>
      show ((fs.map (feC s))[k]?.map Fe.b).getD 1 ≤ _
      rw [List.getElem?_eq_getElem (by simp; omega)]
      simp only [List.getElem_map, Option.map_some, Option.getD_some]
      have hk := (ascC_get h).2 k (k + 1) (by omega) hi2
      have := PL_mono s (fs[k]'(by omega)).b fs[k + 1].a hk (by omega)
      show (PL s (fs[k]'(by omega)).b).toNat ≤ (PL s fs[k + 1].a).toNat
      omega
  · show (PL s fs[i].a).toNat ≤ (PL s fs[i].b).toNat; omega
  · show (PL s fs[i].b).toNat ≤ _
    rw [linesB_len]; omega
end
end Go.Proofs.Ytgegialfhkgggaa
namespace Go.Proofs.Ytgegialfhkgggaa
open Go.RowKit Stab Go.Proofs.Ytgegialfhkgggaa.Lines Mye
attribute [local go_sem ↓] Go.wp_at_zero Go.wp_at_succ

/-- The edit with all told, as plain data. -/
def peC (s : ByteArray) (c : Ct) : Pe := ⟨PL s c.a, PC s c.a, (c.a : Nat), PL s c.b, PC s c.b, (c.b : Nat), c.t⟩
theorem PL_zero (s : ByteArray) : PL s 0 = 1 ∧ PC s 0 = 1 := by
  have h := PL_off s 0 (Nat.zero_le _)
  rw [off_zero] at h
  exact h
theorem cl_pl {s : ByteArray} {k : Nat} (h : k ≤ s.size) : cl (PL s k) = PL s k := by
  have := PL_pos s k h
  unfold cl; rw [if_neg (by omega)]
theorem cc_pl {s : ByteArray} {k : Nat} (h : k ≤ s.size) : cc (PL s k) (PC s k) = PC s k := by
  have := (PC_pos s k h).1
  unfold cc; rw [if_neg (by omega)]
theorem co_pl {s : ByteArray} {k : Nat} (h : k ≤ s.size) : co (PL s k) (PC s k) (k : Nat) = (k : Nat) := by
  unfold co
  rw [if_neg]
  rintro ⟨h0, h1⟩
  rw [cl_pl h, cc_pl h] at h1
  obtain rfl : k = 0 := by omega
  obtain ⟨h2, h3⟩ := PL_zero s
  omega
theorem toEd_peC {s : ByteArray} {c : Ct} (h1 : c.a ≤ c.b) (h2 : c.b ≤ s.size) : toEd (peC s c) = edC s c := by
  have ha : c.a ≤ s.size := by omega
  have hk : ∀ x y : Int, ∀ o : Int, eN (PL s c.b) (PC s c.b) o x y = y := fun x y o => eN_keep (by
    have := PL_pos s c.b h2
    unfold atSt
    have d1 : decide (0 < PL s c.b) = true := by simp; omega
    have d2 : (PL s c.b == 0) = false := by simp; omega
    simp [d1, d2])
  unfold toEd peC edC
  simp only [cl_pl ha, cl_pl h2, cc_pl ha, cc_pl h2, co_pl ha, co_pl h2, hk]
theorem ofCells_edC {s : ByteArray} {c : Ct} (h1 : c.a ≤ c.b) (h2 : c.b ≤ s.size) : ofCells (edC s c) = peCells (peC s c) := by
  have p1 := PL_pos s c.a (by omega)
  have p2 := PL_pos s c.b h2
  have e1 : ∀ l : Int, 1 ≤ l → oL l = l := fun l h => by unfold oL; rw [if_pos (by omega)]
  have e2 : ∀ l x : Int, 1 ≤ l → oC l x = x := fun l x h => by unfold oC; rw [if_pos (by omega)]
  have e3 : ∀ k : Nat, oO (k : Int) = k := fun k => by unfold oO; rw [if_pos (by omega)]
  unfold ofCells peCells peC edC
  simp only [e1 _ p1, e1 _ p2, e2 _ _ p1, e2 _ _ p2, e3]
theorem feCells_edC {s : ByteArray} {c : Ct} (h1 : c.a ≤ c.b) (h2 : c.b ≤ s.size) (hf : Full s c) : ofCells (edC s c) = feCells (feC s c) := by
  have p1 := PL_pos s c.a (by omega)
  have p2 := PL_pos s c.b h2
  obtain ⟨f1, f2⟩ := hf
  rw [ofCells_edC h1 h2]
  unfold peCells peC feCells feC
  simp only [f1, f2]
  have q1 : (((PL s c.a).toNat : Nat) : Int) = PL s c.a := by omega
  have q2 : (((PL s c.b).toNat : Nat) : Int) = PL s c.b := by omega
  rw [q1, q2]
/-- WithAll of a span with all told leaves it. -/
theorem wa_all (s : ByteArray) (c : Ct) (h1 : c.a ≤ c.b) (h2 : c.b ≤ s.size) (p : Nat) (W : World) :
    Calls Try.prog 73 #[spV (edC s c), .iface 93 (.pointer (some ⟨p, 0, none⟩))] W fun e W' => e = .returned (.tuple #[spV (edC s c), .nilIface]) ∧ Below W.heap.size W W' := by
  have p1 := PL_pos s c.a (by omega)
  have p2 := PL_pos s c.b h2
  dsimp only [spV, edC]
  refine withAll_of ⟨#[97]⟩ _ _ _ _ _ _ _ _ _ _ _ _ p W (fun W' hb hB => ?_)
  exact updA_none true _ _ _ _ _ _ _ W.heap.size p W' hB (by omega) (by omega) (by simp) (by simp)
theorem edC_sorted {s : ByteArray} {fs : List Ct} {p : Nat} (h : AscC s.size fs p) : ∀ i j, i < j → j < fs.length → ltE (edAt (fs.map (edC s))) j i = false := by
  intro i j hij hj
  have h1 := (ascC_get h).2 i j hij hj
  have mi := ascC_mem h _ (List.getElem_mem (show i < fs.length by omega))
  have mj := ascC_mem h _ (List.getElem_mem hj)
  have q1 := PL_mono s fs[i].b fs[j].a h1 (by omega)
  have e1 : PL s fs[i].a < PL s fs[j].a ∨ (PL s fs[i].a = PL s fs[j].a ∧ PC s fs[i].a < PC s fs[j].a) ∨ (fs[i].a = fs[j].a ∧ fs[i].b = fs[j].a) := by
    by_cases c : fs[i].a = fs[j].a
    · right; right; omega
    · rcases PL_lt s fs[i].a fs[j].a (by omega) (by omega) with h | h
      · exact Or.inl h
      · exact Or.inr (Or.inl h)
  have e2 : (fs[i].a = fs[j].a ∧ fs[i].b = fs[j].a) → PL s fs[i].b < PL s fs[j].b ∨ (PL s fs[i].b = PL s fs[j].b ∧ PC s fs[i].b ≤ PC s fs[j].b) := by
    rintro ⟨_, h4⟩
    by_cases c : fs[i].b = fs[j].b
    · rw [c]; exact Or.inr ⟨rfl, Int.le_refl _⟩
    · rcases PL_lt s fs[i].b fs[j].b (by omega) (by omega) with h | h
      · exact Or.inl h
      · exact Or.inr ⟨h.1, by omega⟩
  have e3 : (fs[i].a = fs[j].a ∧ fs[i].b = fs[j].a) → PL s fs[i].a = PL s fs[j].a ∧ PC s fs[i].a = PC s fs[j].a := by
    rintro ⟨h3, _⟩
    rw [h3]; exact ⟨rfl, rfl⟩
  unfold ltE cmpEd cmpS
  rw [edAt_map hj, edAt_map (show i < fs.length by omega)]
  unfold edC
  simp only [cmpU_self, if_true, cmpP, sgn, decide_eq_false_iff_not]
  generalize PL s fs[i].a = x1 at *
  generalize PC s fs[i].a = x2 at *
  generalize PL s fs[j].a = y1 at *
  generalize PC s fs[j].a = y2 at *
  generalize PL s fs[i].b = x3 at *
  generalize PC s fs[i].b = x4 at *
  generalize PL s fs[j].b = y3 at *
  generalize PC s fs[j].b = y4 at *
  (repeat' split) <;> omega
theorem applyC_any (s : ByteArray) (fs : List Ct) (p : Nat) (hs : s.size ≤ 400000) (hasc : AscC s.size fs p) (hn : fs.length ≤ 10000) (hT : ∀ c ∈ fs, c.t.size ≤ 400000) (A : Option Addr) (c : Nat) (w : World) (hA : RowsF w A fs.length (edAt (fs.map (edC s)))) :
    Calls Try.prog 37 #[.string s, .slice A fs.length c] w fun e w' => e = .returned (.string (toB (textC s.data.toList fs))) ∧ Below w.heap.size w w' := by
  by_cases h0 : fs = []
  · subst h0
    refine (apply_zero s A c w).mono ?_
    rintro e w' ⟨rfl, rfl⟩
    refine ⟨?_, Below.refl _ _⟩
    rw [show toB (textC s.data.toList []) = s from eq_of_list (by rw [toB_list]; rfl)]
  · have hpos : 1 ≤ fs.length := by
      cases fs with
      | nil => exact absurd rfl h0
      | cons _ _ => simp
    have hg : ∀ i (hi : i < fs.length), edAt (fs.map (edC s)) i = edC s fs[i] := fun i hi => edAt_map hi
    have hm : ∀ i (hi : i < fs.length), fs[i].a ≤ fs[i].b ∧ fs[i].b ≤ s.size := fun i hi => ascC_mem hasc _ (List.getElem_mem hi)
    have hwk : Weak fs.length (ltE (edAt (fs.map (edC s)))) := weak_pos ⟨#[97]⟩ (fun i hi => by
      rw [hg i hi]
      have := hm i hi
      exact ⟨rfl, PL_pos s _ (by omega), PL_pos s _ (by omega)⟩)
    refine (apply_any s fs.length (edAt (fs.map (edC s))) (edAt (fs.map (edC s))) A c hs hpos hn w hA
      (fun i hi p W _ => by rw [hg i hi]; exact wa_all s _ (hm i hi).1 (hm i hi).2 p W) (fun i hi => rfl)
      (fun i hi => by
        rw [hg i hi]
        have := hm i hi
        exact ⟨PL_pos s _ (by omega), PL_pos s _ (by omega), by unfold edC; simp⟩) hwk
      (fun i hi => by
        rw [hg i hi]
        have := hm i hi
        refine ⟨?_, ?_, ?_, hT _ (List.getElem_mem hi)⟩
        · show ((fs[i].a : Nat) : Int) ≤ _; omega
        · show (0 : Int) ≤ ((fs[i].b : Nat) : Int); omega
        · show ((fs[i].b : Nat) : Int) ≤ _; omega)).mono ?_
    rintro e w' ⟨t, hS, rfl, hb⟩
    refine ⟨?_, hb⟩
    have hsame := hS.same hwk (edC_sorted hasc)
    rw [appF_congr (h' := edAt (fs.map (edC s))) (fun i hi => by rw [hsame i hi]), textC_app _ (size_list s) hasc _ (fun i hi => by rw [hg i hi]; exact toO_edC s _)]
theorem iApplyC_any (s : ByteArray) (fs : List Ct) (p : Nat) (hs : s.size ≤ 400000) (hasc : AscC s.size fs p) (hn : fs.length ≤ 10000) (hT : ∀ c ∈ fs, c.t.size ≤ 400000) (A : Option Addr) (c : Nat) (w : World) (hA : RowsAt w A 7 ((fs.map (edC s)).map ofCells)) :
    Calls Try.prog 16 #[.string s, .slice A fs.length c] w fun e w' => e = .returned (.string (toB (textC s.data.toList fs))) ∧ Below w.heap.size w w' := by
  have hg : ∀ i (hi : i < fs.length), edAt (fs.map (edC s)) i = edC s fs[i] := fun i hi => edAt_map hi
  have hm : ∀ i (hi : i < fs.length), fs[i].a ≤ fs[i].b ∧ fs[i].b ≤ s.size := fun i hi => ascC_mem hasc _ (List.getElem_mem hi)
  have hq : ∀ i (hi : i < fs.length), fs.getD i ⟨0, 0, ⟨#[]⟩⟩ = fs[i] := fun i hi => by rw [List.getD_eq_getElem?_getD, List.getElem?_eq_getElem hi]; rfl
  refine iApply_turned s _ fs.length (fun i => peC s (fs.getD i ⟨0, 0, ⟨#[]⟩⟩)) hn (fun A c W hR => applyC_any s fs p hs hasc hn hT A c W (fun i j hi hj => ?_)) A c w ?_
  · obtain ⟨b, o, e, h⟩ := hR i j hi hj
    refine ⟨b, o, e, ?_⟩
    rw [h]
    simp only
    rw [hq i hi, toEd_peC (hm i hi).1 (hm i hi).2, hg i hi]
  · have e : (fs.map (edC s)).map ofCells = (List.range fs.length).map (fun i => peCells (peC s (fs.getD i ⟨0, 0, ⟨#[]⟩⟩))) := by
      apply List.ext_getElem
      · simp
      · intro i h1 h2
        have hi : i < fs.length := by simpa using h1
        simp only [List.getElem_map, List.getElem_range]
        rw [hq i hi, ofCells_edC (hm i hi).1 (hm i hi).2]
    rw [← e]
    exact hA
end Go.Proofs.Ytgegialfhkgggaa
namespace Go.Proofs.Ytgegialfhkgggaa
open Go.RowKit Stab Go.Proofs.Ytgegialfhkgggaa.Lines Mye

theorem PrepC.congr {s : ByteArray} {es : List Ct} {f f' : Nat → Ed} (h : PrepC s es f) (e : ∀ i, i < es.length → f' i = f i) : PrepC s es f' := by
  intro A c W hA
  refine h A c W (fun i j hi hj => ?_)
  obtain ⟨b, o, h1, h2⟩ := hA i j hi hj
  exact ⟨b, o, h1, by rw [h2, e i hi]⟩
/-- The cuts as edits at offsets. -/
def cutsL (cs : List Int) (ts : List ByteArray) : List Ct := (List.range ts.length).map (ctCut (nOf cs) (tOf ts))
theorem cutsL_len (cs : List Int) (ts : List ByteArray) : (cutsL cs ts).length = ts.length := by simp [cutsL]
section
variable {s : ByteArray} {cs : List Int} {ts : List ByteArray}
theorem cutsN_asc {n : Nat} {N : Nat → Nat} (T : Nat → ByteArray) (h : CutsN s n N) : ∀ k, k ≤ n → AscC s.size ((List.range k).map (ctCut N T)) (lastN N k) := by
  intro k
  induction k with
  | zero => intro _; exact AscC.nil
  | succ k ih =>
    intro hk
    obtain ⟨h1, h2, h3⟩ := h.in_ k (by omega)
    rw [List.range_succ, List.map_append, List.map_cons, List.map_nil]
    exact AscC.snoc (e := ctCut N T k) (ih (by omega)) h1 h2 h3
theorem cutsN_joined {n : Nat} {N : Nat → Nat} (T : Nat → ByteArray) (h : CutsN s n N) (hE : endsB s = true) : ∀ k, k ≤ n → Joined s ((List.range k).map (ctCut N T)) (lastN N k) := by
  intro k
  induction k with
  | zero => intro _; exact Joined.nil
  | succ k ih =>
    intro hk
    obtain ⟨h1, h2, h3⟩ := h.in_ k (by omega)
    rw [List.range_succ, List.map_append, List.map_cons, List.map_nil]
    refine Joined.snoc (e := ctCut N T k) (ih (by omega)) ?_
    by_cases h0 : s.size = 0
    · right; left
      have e : (ctCut N T k).a = 0 := by show N (2 * k) = 0; omega
      rw [e, (PL_zero s).1]; exact Int.le_refl _
    · right; right; left
      have hx := endsB_iff.1 hE
      unfold endsX at hx
      cases hl : s.data.toList.getLast? with
      | none =>
        rw [List.getLast?_eq_none_iff] at hl
        have := size_list s
        rw [hl] at this
        exact absurd this.symm h0
      | some y => rw [hl] at hx; rw [← hx]; rfl
theorem Cuts.asc (h : Cuts s cs ts) : AscC s.size (cutsL cs ts) (lastN (nOf cs) ts.length) := cutsN_asc _ h.n _ (Nat.le_refl _)
theorem Cuts.joined (h : Cuts s cs ts) (hE : endsB s = true) : Joined s (cutsL cs ts) (lastN (nOf cs) ts.length) := cutsN_joined _ h.n hE _ (Nat.le_refl _)
theorem tOf_range (ts : List ByteArray) : (List.range ts.length).map (tOf ts) = ts := by
  apply List.ext_getElem
  · simp
  · intro i h1 h2
    simp only [List.getElem_map, List.getElem_range]
    unfold tOf
    rw [List.getD_eq_getElem?_getD, List.getElem?_eq_getElem h2]
    rfl
theorem cutsL_sum : sumT (cutsL cs ts) = sumSz ts := by
  unfold sumT sumSz cutsL
  rw [List.map_map]
  have e : ((fun c : Ct => c.t.size) ∘ ctCut (nOf cs) (tOf ts)) = (fun t : ByteArray => t.size) ∘ tOf ts := rfl
  rw [e, ← List.map_map, tOf_range]
theorem Cuts.sum (h : Cuts s cs ts) : s.size + sumT (cutsL cs ts) ≤ 100000 := by
  have h1 := h.2.2.1
  unfold shortB at h1
  rw [Bool.and_eq_true] at h1
  have h2 : sumSz (s :: ts) ≤ 100000 := by simpa using h1.1
  rw [cutsL_sum]
  unfold sumSz at h2 ⊢
  rw [List.map_cons, List.sum_cons] at h2
  exact h2
theorem cutsL_get {i : Nat} (hi : i < (cutsL cs ts).length) : (cutsL cs ts)[i] = ctCut (nOf cs) (tOf ts) i := by simp [cutsL]
/-- The cuts leave the text that After tells. -/
theorem Cuts.text (h : Cuts s cs ts) : toB (textC s.data.toList (cutsL cs ts)) = aftS s cs ts := by
  have h1 := textC_app s.data.toList (size_list s) h.asc (hOff s (nOf cs) (tOf ts)) (fun i hi => by
    rw [cutsL_get hi]
    have hi2 : i < ts.length := by rw [cutsL_len] at hi; exact hi
    exact (h.toO_off i hi2).1)
  rw [← h1, cutsL_len]
  exact appF_aft h.n (fun i hi => (h.toO_off i hi).1)
theorem LinesOk.lnC (h : LinesOk s cs ts) : ∀ e ∈ cutsL cs ts, LnC s e := by
  intro e he
  obtain ⟨i, hi, rfl⟩ := List.getElem_of_mem he
  rw [cutsL_get hi]
  have hi2 : i < ts.length := by rw [cutsL_len] at hi; exact hi
  have hl := h.1.1
  intro hb
  have h3 := h.2.2 i hi2
  unfold LnOk at h3
  have b1 := h.1.le (i := 2 * i + 1) (by omega)
  have b0 := h.1.le (i := 2 * i) (by omega)
  have h4 := h3 ((pc_endsB h.2.1 _ b1).1 hb)
  exact ⟨(pc_endsB h.2.1 _ b0).2 h4.1, endsB_iff.1 h4.2⟩
/-- Some cut among the first k ones lies within a line. -/
def partK (s : ByteArray) (cs : List Int) : Nat → Bool
  | 0 => false
  | k + 1 => partK s cs k || !endsB (s.extract 0 (nOf cs k))
theorem partK_ex {k : Nat} (h : partK s cs k = true) : ∃ i, i < k ∧ endsB (s.extract 0 (nOf cs i)) = false := by
  induction k with
  | zero => cases h
  | succ k ih =>
    rw [partK, Bool.or_eq_true] at h
    rcases h with h | h
    · obtain ⟨i, h1, h2⟩ := ih h; exact ⟨i, by omega, h2⟩
    · exact ⟨k, by omega, by simpa using h⟩
theorem LinesOk.part (h : LinesOk s cs ts) (hp : partK s cs (2 * ts.length) = true) : partB s (cutsL cs ts) = true := by
  obtain ⟨i, h1, h2⟩ := partK_ex hp
  have hl := h.1.1
  have hle := h.1.le (i := i) (by omega)
  have hc : 1 < PC s (nOf cs i) := by
    have p1 := (PC_pos s _ hle).1
    rcases Int.lt_or_eq_of_le p1 with q | q
    · exact q
    · have := (pc_endsB h.2.1 _ hle).1 q.symm
      rw [this] at h2; cases h2
  unfold partB
  rw [List.any_eq_true]
  have hm : i / 2 < (cutsL cs ts).length := by rw [cutsL_len]; omega
  refine ⟨_, List.getElem_mem hm, ?_⟩
  rw [cutsL_get hm]
  unfold partE edC
  simp only [Bool.or_eq_true, decide_eq_true_eq]
  right
  rcases Nat.mod_two_eq_zero_or_one i with q | q
  · left
    show 1 < PC s (nOf cs (2 * (i / 2)))
    rw [show 2 * (i / 2) = i by omega]; exact hc
  · right
    show 1 < PC s (nOf cs (2 * (i / 2) + 1))
    rw [show 2 * (i / 2) + 1 = i by omega]; exact hc
/-- What LineEdits leaves of the cuts. -/
def lnL2 (s : ByteArray) (cs : List Int) (ts : List ByteArray) : List Ct := leL s (cutsL cs ts)
def qOf (cs : List Int) (ts : List ByteArray) (B : Nat) (ar : Bool) : List Pe := (List.range ts.length).map (fun i => peOff (nOf cs) (tOf ts) (turnIx ts.length B ar i))
theorem LinesOk.lineEds (h : LinesOk s cs ts) (B : Nat) (ar : Bool) (A : Option Addr) (c : Nat) (w : World) (hA : RowsAt w A 7 ((List.range ts.length).map fun i => peCells (peOff (nOf cs) (tOf ts) (turnIx ts.length B ar i)))) :
    Calls Try.prog 32 #[.string s, .slice A ts.length c] w (ofRes w ((lnL2 s cs ts).map (edC s))) := by
  have hz := h.1.sum
  have h50 := h.1.2.1
  have hlen := cutsL_len cs ts
  obtain ⟨q, _, _, hl, _⟩ := leL_ok h.1.asc
  have hP : PrepC s (cutsL cs ts) (edAt ((qOf cs ts B ar).map toEd)) := (prepC_cuts (T := tOf ts) (B := B) (ar := ar) h.1.n (by omega) (by omega)).congr (fun i hi => by
    have hi2 : i < ts.length := by simpa using hi
    rw [edAt_get (by simpa [qOf] using hi2)]
    simp [qOf])
  have hR : RowsAt w A 7 ((qOf cs ts B ar).map peCells) := by unfold qOf; rw [List.map_map]; exact hA
  have := iLineEd_any s (qOf cs ts B ar) (cutsL cs ts) _ A c (by omega) h.1.asc (h.1.joined h.2.1) (by omega) (by omega) (by rw [hlen]; simp [qOf]) hP (by omega) w hR
  rw [hlen] at this
  exact this
theorem LinesOk.apply (h : LinesOk s cs ts) (A : Option Addr) (c : Nat) (w : World) (hA : RowsAt w A 7 (((lnL2 s cs ts).map (edC s)).map ofCells)) :
    Calls Try.prog 16 #[.string s, .slice A (lnL2 s cs ts).length c] w fun e w' => e = .returned (.string (aftS s cs ts)) ∧ Below w.heap.size w w' := by
  have hz := h.1.sum
  have h50 := h.1.2.1
  have hlen := cutsL_len cs ts
  obtain ⟨q, h1, h2, h3, h4⟩ := leL_ok h.1.asc
  have := iApplyC_any s (lnL2 s cs ts) q (by omega) h1 (show (leL s (cutsL cs ts)).length ≤ 10000 by omega) (fun x hx => by have := h4 x hx; omega) A c w hA
  rw [show textC s.data.toList (lnL2 s cs ts) = _ from h2, h.1.text] at this
  exact this
theorem LinesOk.full (h : LinesOk s cs ts) (hp : partK s cs (2 * ts.length) = true) (A : Option Addr) (c : Nat) (w : World) (hA : RowsAt w A 7 (((lnL2 s cs ts).map (edC s)).map ofCells)) :
    Calls Try.prog 34 #[.string s, .slice A (lnL2 s cs ts).length c] w fun e w' => e = .returned (.bool true) ∧ Below w.heap.size w w' := by
  have hz := h.1.sum
  have h50 := h.1.2.1
  have hlen := cutsL_len cs ts
  obtain ⟨q, h1, h2, h3, h4⟩ := leL_ok h.1.asc
  have he : lnL2 s cs ts = fullC s (cutsL cs ts) := by unfold lnL2 leL; rw [if_pos (h.part hp)]
  have hF := fullC_ok h.1.asc
  have hend := fullC_ends h.2.1 h.1.asc h.lnC
  rw [← he] at hend
  have hful := hF.full
  rw [← he] at hful
  have hok : FeOk s ((lnL2 s cs ts).map (feC s)) := feC_ok h1 (fun x hx => ⟨hend x hx, by have := h4 x hx; omega⟩)
  have hlen2 : ((lnL2 s cs ts).map (feC s)).length = (lnL2 s cs ts).length := by simp
  have hR : RowsAt w A 7 (((lnL2 s cs ts).map (feC s)).map feCells) := by
    have e : ((lnL2 s cs ts).map (edC s)).map ofCells = ((lnL2 s cs ts).map (feC s)).map feCells := by
      rw [List.map_map, List.map_map]
      refine List.map_congr_left (fun x hx => ?_)
      have hm := ascC_mem h1 x hx
      exact feCells_edC hm.1 hm.2 (hful x hx)
    rw [← e]; exact hA
  have := areFull_any s ((lnL2 s cs ts).map (feC s)) A c (by omega) (by rw [hlen2]; show (leL s (cutsL cs ts)).length ≤ _; omega) hok w hR
  rw [hlen2] at this
  exact this
end
end Go.Proofs.Ytgegialfhkgggaa
