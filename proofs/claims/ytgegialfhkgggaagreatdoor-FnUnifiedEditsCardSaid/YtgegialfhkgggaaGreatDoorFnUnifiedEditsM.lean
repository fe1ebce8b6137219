/- Walk: laws.FnUnifiedEdits. For every input; the table of powers of ten as it lies. -/
import Derived.Test.YtgegialfhkgggaaGreatDoorUniCM
import Derived.Test.YtgegialfhkgggaaGreatDoorPb
set_option linter.unusedVariables false
set_option linter.unusedSimpArgs false
namespace Go.Proofs.YtgegialfhkgggaaGreatDoor
open Go.RowKit Stab Go.Proofs.YtgegialfhkgggaaGreatDoor.Lines Mye
attribute [local go_sem ↓] Go.wp_at_zero Go.wp_at_succ

set_option maxHeartbeats 8000000 in
set_option maxRecDepth 100000 in
theorem fnUnifiedEdits_any (s : ByteArray) (A : Option Addr) (ca : Nat) (cs : List Int) (B : Option Addr) (cb : Nat) (ts : List ByteArray) (w : World) (hT : Tab10 w.heap.size w) (hA : Ints w A cs) (hB : Strs w B ts) :
    Calls Tryz.prog 5 #[.string s, .slice A cs.length ca, .slice B ts.length cb] w fun e w' => e = .returned (.bool true) ∧ Below w.heap.size w w' := by
  by_cases h1 : (2147483647 : Int) < (s.size : Int)
  · have t1 : decide ((2147483647 : Int) < (s.size : Int)) = true := by simpa using h1
    clear h1
    go_enter Tryz.func5, Tryz.ntmps5
    go_wp2
    go_ret
    exact ⟨rfl, by go_grown⟩
  have t1 : decide ((2147483647 : Int) < (s.size : Int)) = false := by simpa using h1
  have hs : s.size ≤ 2147483647 := by omega
  obtain ⟨m, hm⟩ : ∃ m, cs.length = m := ⟨_, rfl⟩
  rw [hm]
  by_cases h2 : (2147483647 : Int) < (m : Int)
  · have t2 : decide ((2147483647 : Int) < (m : Int)) = true := by simpa using h2
    clear h1 h2
    go_enter Tryz.func5, Tryz.ntmps5
    go_wp2
    go_ret
    exact ⟨rfl, by go_grown⟩
  have t2 : decide ((2147483647 : Int) < (m : Int)) = false := by simpa using h2
  have HA := hide hA
  have HB := hide hB
  have HT := hide hT
  have HC := hide (fun (hf : Fits ts) W hA hB => areLines_any s A B ca cb cs ts hs (by omega) hf W hA hB)
  have HM := hide hm
  rw [hm] at HC
  have hm2 : m ≤ 2147483647 := by omega
  clear h1 h2 hA hB hm hT
  go_enter Tryz.func5, Tryz.ntmps5
  go_wp2_with fail
  refine (zzFits_any B cb ts _ HB.out).mono ?_
  rintro e w1 ⟨b, rfl, hf, rfl⟩
  cases b
  · go_wp2
    go_ret
    exact ⟨rfl, by go_grown⟩
  have HF := hide (hf rfl)
  clear hf
  go_wp2_with fail
  refine (HC.out HF.out _ HA.out HB.out).mono ?_
  rintro e w2 ⟨b, rfl, hcut, hb2⟩
  have HBl := hide hb2
  cases b
  · clear hb2
    go_wp2_with fail
    refine (works_any _).mono ?_
    rintro e w3 ⟨rfl, hb3⟩
    have HB3 := hide (HBl.out.trans (hb3.mono HBl.out.size))
    clear hb3
    go_wp2
    go_ret
    exact ⟨rfl, HB3.out⟩
  have hc := hcut rfl
  clear hcut
  have hA2 := hide (HA.out.kept hb2)
  have hB2 := hide (HB.out.kept hb2)
  have HT2 := hide (tab10_on HT.out hb2)
  have hN2 := hide (hc.1.nats hA2.out)
  have h50 := hc.1.2.1
  have hm3 : m = 2 * ts.length := by rw [← HM.out]; exact hc.1.1
  have HAf := hide (fun W hA hB => hc.1.after A B ca cb W hA hB)
  have HD := hide (fun W hA hB => editsOff_any s ts.length (nOf cs) (tOf ts) A B ca cb (by omega) W hA hB)
  have HU := hide (fun s0 t0 hne => uni_cuts hc s0 t0 hne)
  have HTx := hide hc.1.text
  have hT2 := hide (texts_at hB2.out)
  clear hb2 HC
  by_cases k0 : ts.length = 0
  · have t3 : ((ts.length : Int) == 0) = true := by simpa using k0
    clear hc k0 hm3 h50
    go_wp2_with fail
    refine (works_any _).mono ?_
    rintro e w3 ⟨rfl, hb3⟩
    have HB3 := hide (HBl.out.trans (hb3.mono HBl.out.size))
    clear hb3
    go_wp2
    go_ret
    exact ⟨rfl, HB3.out⟩
  have t3 : ((ts.length : Int) == 0) = false := by simpa using k0
  by_cases hs0 : s.size = 0
  · have hse : s.toList.isEmpty = true := by
      rw [ByteArray.toList_eq s, List.isEmpty_iff]
      exact List.eq_nil_of_length_eq_zero (by rw [size_list]; exact hs0)
    clear hc k0 hm3 h50 hs0
    go_wp2_with fail
    refine (works_any _).mono ?_
    rintro e w3 ⟨rfl, hb3⟩
    have HB3 := hide (HBl.out.trans (hb3.mono HBl.out.size))
    clear hb3
    go_wp2
    go_ret
    exact ⟨rfl, HB3.out⟩
  have sne := str_ne hs0
  obtain ⟨x, hx⟩ : ∃ x, aftS s cs ts = x := ⟨_, rfl⟩
  rw [hx] at HAf HU HTx
  obtain ⟨M, hM⟩ : ∃ M, ts.length = M := ⟨_, rfl⟩
  have hM50 : M ≤ 50 := by omega
  have HMt := hide hM
  rw [hM] at HD HAf h50 hN2 hT2 HU t3 ⊢
  rw [hM] at hm3
  rw [← hm3] at HAf HD hN2
  clear hc k0 hm3 h50 hx hM
  by_cases hx0 : x.size = 0
  · have := string_empty hx0
    subst this
    clear hx0 HU HTx HD
    go_wp2_with fail
    refine (HAf.out _ hA2.out hB2.out).mono ?_
    rintro e w3 ⟨rfl, rfl⟩
    go_wp2_with fail
    refine (works_any _).mono ?_
    rintro e w3 ⟨rfl, hb3⟩
    have HB3 := hide (HBl.out.trans (hb3.mono HBl.out.size))
    clear hb3
    go_wp2
    go_ret
    exact ⟨rfl, HB3.out⟩
  have xne := str_ne hx0
  by_cases hxs : x = s
  · subst hxs
    have heq : (x.toList == x.toList) = true := by simp
    clear hx0 HU HTx HD
    go_wp2_with fail
    refine (HAf.out _ hA2.out hB2.out).mono ?_
    rintro e w3 ⟨rfl, rfl⟩
    go_wp2_with fail
    refine (works_any _).mono ?_
    rintro e w3 ⟨rfl, hb3⟩
    have HB3 := hide (HBl.out.trans (hb3.mono HBl.out.size))
    clear hb3
    go_wp2
    go_ret
    exact ⟨rfl, HB3.out⟩
  have hne : (x.toList == s.toList) = false := by rw [bytes_dec]; exact decide_eq_false hxs
  obtain ⟨l, hks, hU, hR, hP⟩ := HU.out hs0 hx0 hxs
  rw [HTx.out] at hP
  have HUn := hide hU
  have HRd := hide hR
  have HPt := hide hP
  clear hs0 hx0 hxs HU HTx hU hR hP
  obtain ⟨mh, hmh⟩ : ∃ mh, hks.length = mh := ⟨_, rfl⟩
  unfold RdRes at HRd
  rw [hmh] at HRd HPt
  clear hmh
  have e1 : (x.toList == x.toList) = true := by simp
  go_wp2_with fail
  refine (HAf.out _ hA2.out hB2.out).mono ?_
  rintro e w3 ⟨rfl, rfl⟩
  clear HAf
  go_wp2_with fail
  refine (HD.out _ hN2.out hT2.out).mono ?_
  rintro e w4 ⟨A4, c4, rfl, hr4, hb4⟩
  have HR4 : Hid (RowsAt w4 A4 7 ((peL cs ts).map peCells)) := hide (by unfold peL; rw [List.map_map]; rw [HMt.out]; exact hr4)
  have HB4 := hide (HBl.out.trans (hb4.mono HBl.out.size))
  have HT4 := hide (tab10_on HT2.out hb4)
  clear hr4 hb4 HD HT2
  go_wp2_with fail
  refine (HUn.out _ _ _ HT4.out HR4.out).mono ?_
  rintro e w5 ⟨rfl, hb5⟩
  have HB5 := hide (HB4.out.trans (hb5.mono HB4.out.size))
  clear hb5 HUn HB4
  go_wp2_with fail
  refine (HRd.out _).mono ?_
  rintro e w6 ⟨A6, c6, rfl, hA6, hb6⟩
  have HB6 := hide (HB5.out.trans (hb6.mono HB5.out.size))
  have HA6 := hide hA6
  clear hb6 hA6 HRd HB5
  go_wp2_with fail
  refine (HPt.out _ _ _ HA6.out).mono ?_
  rintro e w7 ⟨rfl, hb7⟩
  have HB7 := hide (HB6.out.trans (hb7.mono HB6.out.size))
  clear hb7 HPt HA6 HB6
  go_wp2_with fail
  refine (works_any _).mono ?_
  rintro e w8 ⟨rfl, hb8⟩
  have HB8 := hide (HB7.out.trans (hb8.mono HB7.out.size))
  clear hb8 HB7
  go_wp2
  go_ret
  exact ⟨rfl, HB8.out⟩
end Go.Proofs.YtgegialfhkgggaaGreatDoor
