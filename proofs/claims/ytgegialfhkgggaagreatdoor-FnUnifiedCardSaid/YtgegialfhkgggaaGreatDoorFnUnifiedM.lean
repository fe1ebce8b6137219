/- Walk: laws.FnUnified. For every input; the table of powers of ten as it lies. -/
import Derived.Test.YtgegialfhkgggaaGreatDoorPt
import Derived.Test.YtgegialfhkgggaaGreatDoorTitleM
import Derived.Test.YtgegialfhkgggaaGreatDoorPb
set_option linter.unusedVariables false
set_option linter.unusedSimpArgs false
namespace Go.Proofs.YtgegialfhkgggaaGreatDoor
open Go.RowKit Go.Proofs.YtgegialfhkgggaaGreatDoor.Lines Mye
attribute [local go_sem ↓] Go.wp_at_zero Go.wp_at_succ

set_option maxHeartbeats 8000000 in
set_option maxRecDepth 100000 in
theorem fnUnified_near (s t nf nt : ByteArray) (hsh : shortB [s, t] = true) (hnf : nf.size ≤ 2147483647) (hnt : nt.size ≤ 2147483647) (w : World) (hT : Tab10 w.heap.size w) :
    Calls Tryz.prog 4 #[.string s, .string t, .string nf, .string nt] w fun e w' => e = .returned (.bool true) ∧ Below w.heap.size w w' := by
  have HF := hide hsh
  have HT := hide hT
  have hb := hsh
  unfold shortB at hb
  simp only [Bool.and_eq_true, decide_eq_true_eq, sumSz, sumLn, List.map_cons, List.map_nil, List.sum_cons, List.sum_nil] at hb
  have h3 := lines_nls s
  have h4 := lines_nls t
  have hs : s.size ≤ 100000 := by omega
  have ht : t.size ≤ 100000 := by omega
  have HL := hide (show (linesB s).length + (linesB t).length ≤ 1000 by omega)
  have t1 : decide ((2147483647 : Int) < (s.size : Int)) = false := decide_eq_false (by omega)
  have t2 : decide ((2147483647 : Int) < (t.size : Int)) = false := decide_eq_false (by omega)
  have t3 : decide ((2147483647 : Int) < (nf.size : Int)) = false := decide_eq_false (by omega)
  have t4 : decide ((2147483647 : Int) < (nt.size : Int)) = false := decide_eq_false (by omega)
  clear hsh hb h3 h4 hT
  by_cases hs0 : s.size = 0
  · have := string_empty hs0
    subst this
    clear hs hs0
    go_enter Tryz.func4, Tryz.ntmps4
    go_wp2_with fail
    refine (isShort_any _ _ [⟨#[]⟩, t] (by simp) (by have hz : (⟨#[]⟩ : ByteArray).size = 0 := rfl; simp; omega) _ (Strs.blk (Blk.newAt (by simp)) rfl)).mono ?_
    rintro e w1 ⟨rfl, rfl⟩
    rw [HF.out]
    go_wp2_with fail
    refine (works_any _).mono ?_
    rintro e w1 ⟨rfl, hb1⟩
    have hbl1 : Below w.heap.size w w1 := Below.trans (by go_grown) (hb1.mono (by simp))
    clear hb1
    go_wp2
    go_ret
    exact ⟨rfl, hbl1⟩
  have sne := str_ne hs0
  by_cases ht0 : t.size = 0
  · have := string_empty ht0
    subst this
    clear ht ht0 hs0
    go_enter Tryz.func4, Tryz.ntmps4
    go_wp2_with fail
    refine (isShort_any _ _ [s, ⟨#[]⟩] (by simp) (by have hz : (⟨#[]⟩ : ByteArray).size = 0 := rfl; simp; omega) _ (Strs.blk (Blk.newAt (by simp)) rfl)).mono ?_
    rintro e w1 ⟨rfl, rfl⟩
    rw [HF.out]
    go_wp2_with fail
    refine (works_any _).mono ?_
    rintro e w1 ⟨rfl, hb1⟩
    have hbl1 : Below w.heap.size w w1 := Below.trans (by go_grown) (hb1.mono (by simp))
    clear hb1
    go_wp2
    go_ret
    exact ⟨rfl, hbl1⟩
  have tne := str_ne ht0
  by_cases hst : s = t
  · subst hst
    have heq : (s.toList == s.toList) = true := by simp
    clear ht ht0 hs0
    go_enter Tryz.func4, Tryz.ntmps4
    go_wp2_with fail
    refine (isShort_any _ _ [s, s] (by simp) (by simp; omega) _ (Strs.blk (Blk.newAt (by simp)) rfl)).mono ?_
    rintro e w1 ⟨rfl, rfl⟩
    rw [HF.out]
    go_wp2_with fail
    refine (works_any _).mono ?_
    rintro e w1 ⟨rfl, hb1⟩
    have hbl1 : Below w.heap.size w w1 := Below.trans (by go_grown) (hb1.mono (by simp))
    clear hb1
    go_wp2
    go_ret
    exact ⟨rfl, hbl1⟩
  have hne : (s.toList == t.toList) = false := by rw [bytes_dec]; exact decide_eq_false hst
  have HE := hide (fun W => iEdits_any s t (by omega) (by omega) W)
  have HU := hide (fun (ops : List Opn) n1 n2 h1 h2 hscr hn => uni_ops (ops := ops) nf nt n1 n2 h1 h2 hscr hs ht hn hs0 ht0 hst)
  obtain ⟨M, hM⟩ : ∃ M, (linesB s).length = M := ⟨_, rfl⟩
  obtain ⟨N, hN⟩ : ∃ N, (linesB t).length = N := ⟨_, rfl⟩
  rw [hM, hN] at HL
  have HM := hide hM
  have HN := hide hN
  have hMN : M + N ≤ 1000 := HL.out
  clear hs0 ht0 hst hM hN HL
  go_enter Tryz.func4, Tryz.ntmps4
  go_wp2_with fail
  refine (isShort_any _ _ [s, t] (by simp) (by simp; omega) _ (Strs.blk (Blk.newAt (by simp)) rfl)).mono ?_
  rintro e w1 ⟨rfl, rfl⟩
  rw [HF.out]
  go_wp2_with fail
  refine (isTitle_any nf hnf _).mono ?_
  rintro e w1 ⟨b1, rfl, hb1, rfl⟩
  cases b1
  · clear hb1
    go_wp2_with fail
    refine (works_any _).mono ?_
    rintro e w1 ⟨rfl, hb1⟩
    have hbl1 : Below w.heap.size w w1 := Below.trans (by go_grown) (hb1.mono (by simp))
    clear hb1
    go_wp2
    go_ret
    exact ⟨rfl, hbl1⟩
  have HT1 := hide (hb1 rfl)
  clear hb1
  go_wp2_with fail
  refine (isTitle_any nt hnt _).mono ?_
  rintro e w1 ⟨b2, rfl, hb2, rfl⟩
  cases b2
  · clear hb2
    go_wp2_with fail
    refine (works_any _).mono ?_
    rintro e w1 ⟨rfl, hb1⟩
    have hbl1 : Below w.heap.size w w1 := Below.trans (by go_grown) (hb1.mono (by simp))
    clear hb1
    go_wp2
    go_ret
    exact ⟨rfl, hbl1⟩
  have HT2 := hide (hb2 rfl)
  clear hb2
  go_wp2_with fail
  refine (HE.out _).mono ?_
  rintro e w1 ⟨ops, D, A, c, hscr, hcost, hhit, hnh, rfl, hr, hlen, hb1⟩
  have hbl1 : Below w.heap.size w w1 := Below.trans (by go_grown) (hb1.mono (by simp))
  rw [HM.out, HN.out] at hlen
  have hn : ops.length ≤ 2000 := by omega
  obtain ⟨l, hks, hU, hR, hP⟩ := HU.out ops HT1.out.2.2 HT2.out.2.2 HT1.out.1 HT2.out.1 hscr hn
  have HUn := hide (hU A c w1 (tab10_on HT.out hbl1) hr)
  have HRd := hide hR
  have HPt := hide hP
  have HB1 := hide hbl1
  clear hscr hcost hhit hnh hr hlen hb1 hbl1 HE HU hU hR hP hn
  generalize ops.length = n at *
  obtain ⟨m, hm⟩ : ∃ m, hks.length = m := ⟨_, rfl⟩
  unfold RdRes at HRd
  rw [hm] at HRd HPt
  rw [show toB t.data.toList = t from toB_of t] at HPt
  clear hm
  have e1 : (t.toList == t.toList) = true := by simp
  have e2 : (nf.toList == nf.toList) = true := by simp
  have e3 : (nt.toList == nt.toList) = true := by simp
  go_wp2_with fail
  refine HUn.out.mono ?_
  rintro e w2 ⟨rfl, hb2⟩
  have HB2 := hide (HB1.out.trans (hb2.mono HB1.out.size))
  clear hb2 HUn HB1
  go_wp2_with fail
  refine (HRd.out _).mono ?_
  rintro e w3 ⟨A3, c3, rfl, hA3, hb3⟩
  have HB3 := hide (HB2.out.trans (hb3.mono HB2.out.size))
  have HA3 := hide hA3
  clear hb3 hA3 HRd HB2
  go_wp2_with fail
  refine (HPt.out _ _ _ HA3.out).mono ?_
  rintro e w4 ⟨rfl, hb4⟩
  have HB4 := hide (HB3.out.trans (hb4.mono HB3.out.size))
  clear hb4 HPt HA3 HB3
  go_wp2_with fail
  refine (works_any _).mono ?_
  rintro e w5 ⟨rfl, hb5⟩
  have HB5 := hide (HB4.out.trans (hb5.mono HB4.out.size))
  clear hb5 HB4
  go_wp2
  go_ret
  exact ⟨rfl, HB5.out⟩

set_option maxHeartbeats 4000000 in
set_option maxRecDepth 100000 in
theorem fnUnified_any (s t nf nt : ByteArray) (w : World) (hT : Tab10 w.heap.size w) :
    Calls Tryz.prog 4 #[.string s, .string t, .string nf, .string nt] w fun e w' => e = .returned (.bool true) ∧ Below w.heap.size w w' := by
  have HT := hide hT
  clear hT
  by_cases h1 : (2147483647 : Int) < (s.size : Int)
  · go_enter Tryz.func4, Tryz.ntmps4
    go_wp2
    go_ret
    exact ⟨rfl, by go_grown⟩
  by_cases h2 : (2147483647 : Int) < (t.size : Int)
  · go_enter Tryz.func4, Tryz.ntmps4
    go_wp2
    go_ret
    exact ⟨rfl, by go_grown⟩
  by_cases h3 : (2147483647 : Int) < (nf.size : Int)
  · go_enter Tryz.func4, Tryz.ntmps4
    go_wp2
    go_ret
    exact ⟨rfl, by go_grown⟩
  by_cases h4 : (2147483647 : Int) < (nt.size : Int)
  · go_enter Tryz.func4, Tryz.ntmps4
    go_wp2
    go_ret
    exact ⟨rfl, by go_grown⟩
  have hs : s.size ≤ 2147483647 := by omega
  have ht : t.size ≤ 2147483647 := by omega
  cases hsh : shortB [s, t]
  · have HF := hide hsh
    clear hsh HT
    go_enter Tryz.func4, Tryz.ntmps4
    go_wp2_with fail
    refine (isShort_any _ _ [s, t] (by simp) (by simp; omega) _ (Strs.blk (Blk.newAt (by simp)) rfl)).mono ?_
    rintro e w1 ⟨rfl, rfl⟩
    rw [HF.out]
    go_wp2_with fail
    refine (works_any _).mono ?_
    rintro e w1 ⟨rfl, hb1⟩
    have hbl1 : Below w.heap.size w w1 := Below.trans (by go_grown) (hb1.mono (by simp))
    go_wp2
    go_ret
    exact ⟨rfl, by go_grown⟩
  · exact fnUnified_near s t nf nt hsh (by omega) (by omega) w HT.out
end Go.Proofs.YtgegialfhkgggaaGreatDoor
