/- Walk: spec.AreLines. No condition but sizes. -/
import Derived.Test.YtgegialfhkgggaaGreatDoorEndsWM
set_option linter.unusedVariables false
set_option linter.unusedSimpArgs false
namespace Go.Proofs.YtgegialfhkgggaaGreatDoor
open Go.RowKit Go.Proofs.YtgegialfhkgggaaGreatDoor.Lines
attribute [local go_sem ↓] Go.wp_at_zero Go.wp_at_succ

/-- Where an edit ends at the beginning of a line, it begins at one, and its text ends. -/
def LnOk (s : ByteArray) (cs : List Int) (ts : List ByteArray) (i : Nat) : Prop := endsB (s.extract 0 (cs.getD (2 * i + 1) 0).toNat) = true → endsB (s.extract 0 (cs.getD (2 * i) 0).toNat) = true ∧ endsB (ts.getD i ByteArray.empty) = true
def LinesOk (s : ByteArray) (cs : List Int) (ts : List ByteArray) : Prop := Cuts s cs ts ∧ endsB s = true ∧ ∀ i, i < ts.length → LnOk s cs ts i

set_option maxHeartbeats 4000000 in
set_option maxRecDepth 100000 in
theorem areLines_any (s : ByteArray) (A B : Option Addr) (ca cb : Nat) (cs : List Int) (ts : List ByteArray) (hs : s.size ≤ 2147483647) (hn : cs.length ≤ 2147483647) (hf : Fits ts) (w : World) (hA : Ints w A cs) (hB : Strs w B ts) :
    Calls Tryz.prog 17 #[.string s, .slice A cs.length ca, .slice B ts.length cb] w (SaysB (LinesOk s cs ts) w) := by
  have HC := hide (areCuts_any s A B ca cb cs ts hs hn hf w hA hB)
  have HA := hide hA
  have HB := hide hB
  have HFit := hide hf.2
  have HE := hide (fun W => endsLine_any s hs W)
  obtain ⟨N, hN⟩ : ∃ N, cs.length = N := ⟨_, rfl⟩
  obtain ⟨M, hM⟩ : ∃ M, ts.length = M := ⟨_, rfl⟩
  rw [hN, hM] at HC ⊢
  have HN := hide hN
  have HM := hide hM
  clear hA hB hf hN hM hn
  go_enter Tryz.func17, Tryz.ntmps17
  go_wp2_with fail
  refine HC.out.mono ?_
  rintro e w1 ⟨b, rfl, hcut, hb1⟩
  have HBl := hide hb1
  cases b
  · clear hcut
    go_wp2
    go_ret
    exact SaysB.no HBl.out
  · have HCut := hide (hcut rfl)
    clear hcut hb1
    go_wp2_with fail
    refine (HE.out _).mono ?_
    rintro e w2 ⟨rfl, rfl⟩
    obtain ⟨eb, heb⟩ : ∃ eb, endsB s = eb := ⟨_, rfl⟩
    rw [heb]
    have HEb := hide heb
    clear heb HE HC
    cases eb
    · go_wp2
      go_ret
      exact SaysB.no HBl.out
    · go_wp2_with fail
      go_loopw [21] (fun jv wr => ∃ j : Nat, jv = .int .i64 j ∧ j ≤ M ∧ Hid (Below w.heap.size w wr) ∧ Hid (∀ i, i < j → LnOk s cs ts i)) (fun jv _ => M - (intOf jv).toNat)
      case atStart => exact ⟨0, rfl, Nat.zero_le _, HBl, hide (fun i hi => absurd hi (Nat.not_lt_zero _))⟩
      case round =>
        clear HBl
        obtain ⟨j, rfl, hj, HBl, hall⟩ := hrel
        by_cases hlt : j < M
        · have hcl := HCut.out.1
          rw [HN.out, HM.out] at hcl
          have hk1 := HCut.out.2.2.2 (2 * j + 1) (by rw [HN.out]; omega)
          have hk0 := HCut.out.2.2.2 (2 * j) (by rw [HN.out]; omega)
          obtain ⟨b1, o1, rfl, d1⟩ := HA.out.kept HBl.out (2 * j + 1) (by rw [HN.out]; omega)
          obtain ⟨b2, o2, e1, d0⟩ := HA.out.kept HBl.out (2 * j) (by rw [HN.out]; omega)
          injection e1 with e1
          injection e1 with e2 e3
          subst e2; subst e3
          obtain ⟨b3, o3, rfl, dt⟩ := HB.out.kept HBl.out j (by rw [HM.out]; omega)
          have hM5 : M ≤ 50 := by have := HCut.out.2.1; rw [HM.out] at this; exact this
          have a1 : (2 * (j : Int) + 1).toNat = 2 * j + 1 := by omega
          have a0 : (2 * (j : Int)).toNat = 2 * j := by omega
          have hts := HFit.out _ (getD_mem_B (ts := ts) (k := j) (by rw [HM.out]; omega))
          have HX : Hid (LnOk s cs ts j → ∀ i, i < j + 1 → LnOk s cs ts i) := hide (fun h i hi => by
            by_cases e : i = j
            · rw [e]; exact h
            · exact hall.out i (by omega))
          unfold LnOk at HX
          have h1 := hk1.1.1
          have h2 := hk1.2.1
          have h3 := hk0.1.1
          have h4 := hk0.2.1
          generalize ts.getD j ByteArray.empty = tx at *
          generalize cs.getD (2 * j + 1) 0 = z1 at *
          generalize cs.getD (2 * j) 0 = z0 at *
          obtain ⟨n1, rfl⟩ := Int.eq_ofNat_of_zero_le h1
          obtain ⟨n0, rfl⟩ := Int.eq_ofNat_of_zero_le h3
          have hn1 : n1 ≤ s.size := by omega
          have hn0 : n0 ≤ s.size := by omega
          simp only [Int.toNat_natCast] at HX
          have HE1 := hide (fun W => endsLine_any (s.extract 0 n1) (by rw [ByteArray.size_extract]; omega) W)
          have HE0 := hide (fun W => endsLine_any (s.extract 0 n0) (by rw [ByteArray.size_extract]; omega) W)
          have HEt := hide (fun W => endsLine_any tx hts W)
          generalize endsB (s.extract 0 n1) = q1 at *
          generalize endsB (s.extract 0 n0) = q0 at *
          generalize endsB tx = qt at *
          have hb1 : 2 * (j : Int) + 1 < (N : Int) := by omega
          have hb0 : 2 * (j : Int) < (N : Int) := by omega
          clear hk1 hk0 h1 h2 h3 h4 hall hcl
          go_wp2_with fail
          refine (HE1.out _).mono ?_
          rintro e w4 ⟨rfl, rfl⟩
          clear HE1
          cases q1
          · have HY := hide (HX.out (by simp))
            clear HX
            go_wp2
            go_roundw
            case rel => exact ⟨j + 1, by go_num, by omega, HBl, HY⟩
            case measure => simp [intOf]; omega
          · go_wp2_with fail
            refine (HE0.out _).mono ?_
            rintro e w5 ⟨rfl, rfl⟩
            clear HE0
            cases q0
            · clear HX
              go_wp2
              go_ret
              exact SaysB.no HBl.out
            · go_wp2_with fail
              refine (HEt.out _).mono ?_
              rintro e w6 ⟨rfl, rfl⟩
              clear HEt
              cases qt
              · clear HX
                go_wp2
                go_ret
                exact SaysB.no HBl.out
              · have HY := hide (HX.out (by simp))
                clear HX
                go_wp2
                go_roundw
                case rel => exact ⟨j + 1, by go_num, by omega, HBl, HY⟩
                case measure => simp [intOf]; omega
        · obtain rfl : j = M := by omega
          have HF := hide (show LinesOk s cs ts from ⟨HCut.out, HEb.out, fun i hi => hall.out i (by rw [← HM.out]; exact hi)⟩)
          clear hall
          go_wp2
          go_ret
          exact SaysB.yes HF.out HBl.out
end Go.Proofs.YtgegialfhkgggaaGreatDoor
