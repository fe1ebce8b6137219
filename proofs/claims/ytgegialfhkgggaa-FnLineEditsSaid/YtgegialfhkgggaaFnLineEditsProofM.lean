/- The statement FnLineEdits: edits of a text whose lines all end are expanded to edits of full lines that do the same. For every input. -/
import Derived.Test.YtgegialfhkgggaaRows
import Derived.Test.YtgegialfhkgggaaPq
import Derived.ProofKit
import Derived.OpenShut
import Derived.ShutString
import Derived.ChangeOld
import Derived.Lib.SmallJoins
set_option linter.unusedVariables false
set_option linter.unusedSimpArgs false
namespace Go.Proofs.Ytgegialfhkgggaa.FnLineEditsProof
open Go.ChangeShapes Go.WideShapes Go.ChangeAt Go.RowKit
open Go.ChangeMaps (open_string shut_string)
set_option linter.unusedVariables false
open Stab
attribute [local go_sem ↓] Go.wp_at_zero Go.wp_at_succ

set_option maxHeartbeats 4000000 in
set_option maxRecDepth 100000 in
theorem walk (s : ByteArray) (A : Option Addr) (ca : Nat) (cs : List Int) (B : Option Addr) (cb : Nat) (ts : List ByteArray) (by_ : Int) (ar : Bool) (w : World) (hA : Ints w A cs) (hB : Strs w B ts) :
    Calls Try.prog 10 #[.string s, .slice A cs.length ca, .slice B ts.length cb, .int .i64 by_, .bool ar] w fun e w' => e = .returned (.bool true) ∧ Below w.heap.size w w' := by
  by_cases h1 : (2147483647 : Int) < (s.size : Int)
  · have t1 : decide ((2147483647 : Int) < (s.size : Int)) = true := by simpa using h1
    clear h1
    go_enter Try.func10, Try.ntmps10
    go_wp2
    go_ret
    exact ⟨rfl, by go_grown⟩
  have t1 : decide ((2147483647 : Int) < (s.size : Int)) = false := by simpa using h1
  have hs : s.size ≤ 2147483647 := by omega
  obtain ⟨m, hm⟩ : ∃ m, cs.length = m := ⟨_, rfl⟩
  rw [hm]
  by_cases h2 : (2147483647 : Int) < (m : Int)
  · have t2 : decide ((2147483647 : Int) < (m : Int)) = true := by simpa using h2
    clear h1 h2
    go_enter Try.func10, Try.ntmps10
    go_wp2
    go_ret
    exact ⟨rfl, by go_grown⟩
  have t2 : decide ((2147483647 : Int) < (m : Int)) = false := by simpa using h2
  have HA := hide hA
  have HB := hide hB
  have HC := hide (fun (hf : Fits ts) W hA hB => areLines_any s A B ca cb cs ts hs (by omega) hf W hA hB)
  have HM := hide hm
  rw [hm] at HC
  have hm2 : m ≤ 2147483647 := by omega
  clear h1 h2 hA hB hm
  go_enter Try.func10, Try.ntmps10
  go_wp2_with fail
  refine (zzFits_any B cb ts _ HB.out).mono ?_
  rintro e w1 ⟨b, rfl, hf, rfl⟩
  cases b
  · go_wp2
    go_ret
    exact ⟨rfl, by go_grown⟩
  have HF := hide (hf rfl)
  clear hf
  go_wp2_with fail
  refine (HC.out HF.out _ HA.out HB.out).mono ?_
  rintro e w2 ⟨b, rfl, hcut, hb2⟩
  have HBl := hide hb2
  cases b
  · clear hb2
    go_wp2_with fail
    refine (works_any _).mono ?_
    rintro e w3 ⟨rfl, hb3⟩
    have HB3 := hide (HBl.out.trans (hb3.mono HBl.out.size))
    clear hb3
    go_wp2
    go_ret
    exact ⟨rfl, HB3.out⟩
  have hc := hcut rfl
  clear hcut
  by_cases q1 : by_ < 0
  · have t3 : decide (by_ < 0) = true := by simpa using q1
    clear hc hb2 q1
    go_wp2_with fail
    refine (works_any _).mono ?_
    rintro e w3 ⟨rfl, hb3⟩
    have HB3 := hide (HBl.out.trans (hb3.mono HBl.out.size))
    clear hb3
    go_wp2
    go_ret
    exact ⟨rfl, HB3.out⟩
  obtain ⟨q, rfl⟩ := Int.eq_ofNat_of_zero_le (show 0 ≤ by_ by omega)
  have t3 : decide ((q : Int) < 0) = false := by simp
  by_cases q2 : (1000 : Int) < (q : Int)
  · have t4 : decide ((1000 : Int) < (q : Int)) = true := by simpa using q2
    clear hc hb2 q1 q2
    go_wp2_with fail
    refine (works_any _).mono ?_
    rintro e w3 ⟨rfl, hb3⟩
    have HB3 := hide (HBl.out.trans (hb3.mono HBl.out.size))
    clear hb3
    go_wp2
    go_ret
    exact ⟨rfl, HB3.out⟩
  have t4 : decide ((1000 : Int) < (q : Int)) = false := by simpa using q2
  have hq : q ≤ 1000 := by omega
  have hA2 := hide (HA.out.kept hb2)
  have hB2 := hide (HB.out.kept hb2)
  have hN2 := hide (hc.1.nats hA2.out)
  obtain ⟨M, hM⟩ : ∃ M, ts.length = M := ⟨_, rfl⟩
  have h50 := hc.1.2.1
  have hm3 : m = 2 * M := by rw [← HM.out, ← hM]; exact hc.1.1
  have HD := hide (fun W hA hB => editsOff_any s ts.length (nOf cs) (tOf ts) A B ca cb (by omega) W hA hB)
  have HT := hide (fun A c W hR => turn_any ts.length q ar (peOff (nOf cs) (tOf ts)) A c (by omega) hq W hR)
  have HL := hide (fun A c W hR => hc.lineEds q ar A c W hR)
  have HAp := hide (fun A c W hR => hc.apply A c W hR)
  have HFu := hide (fun hp A c W hR => hc.full hp A c W hR)
  have HAf := hide (fun W hA hB => hc.1.after A B ca cb W hA hB)
  have HE := hide (fun k W => endsLine_any (s.extract 0 k) (by rw [ByteArray.size_extract]; omega) W)
  have HNat := hide (fun i (hi : i < m) => hc.1.nat (show i < cs.length by rw [HM.out]; exact hi))
  have HLe := hide (fun i (hi : i < m) => hc.1.le (show i < cs.length by rw [HM.out]; exact hi))
  have heq : ((aftS s cs ts).toList == (aftS s cs ts).toList) = true := by simp
  have HM3 := hide hm3
  have hT2 := hide (texts_at hB2.out)
  rw [hM] at HD HT HL HFu HAf h50 hN2 hT2 ⊢
  rw [← hm3] at HFu HAf HD hN2
  generalize aftS s cs ts = x at *
  unfold ofRes at HL
  rw [List.length_map] at HL
  obtain ⟨F, hF⟩ : ∃ F, lnL2 s cs ts = F := ⟨_, rfl⟩
  rw [hF] at HL HAp HFu
  obtain ⟨nf, hnf⟩ : ∃ nf, F.length = nf := ⟨_, rfl⟩
  rw [hnf] at HL HAp HFu
  clear hc hb2 HC q1 q2 t1 t2 hF hM hnf hm3
  --{3
  go_wp2_with fail
  refine (HD.out _ hN2.out hT2.out).mono ?_
  rintro e w3 ⟨A3, c3, rfl, hr3, hb3⟩
  have HR3 := hide hr3
  have HB3 := hide hb3
  clear hr3 hb3
  go_wp2_with fail
  refine (HT.out _ _ _ HR3.out).mono ?_
  rintro e w4 ⟨A4, c4, rfl, hr4, hb4⟩
  have HR4 := hide hr4
  have HB4 := hide (HB3.out.trans (hb4.mono HB3.out.size))
  clear hr4 hb4
  go_wp2_with fail
  refine (HL.out _ _ _ HR4.out).mono ?_
  rintro e w5 ⟨A5, c5, rfl, _, hr5, hb5⟩
  have HR5 := hide hr5
  have HB5 := hide (HB4.out.trans (hb5.mono HB4.out.size))
  clear hr5 hb5 HD HT HL HR3 HR4 HB3 HB4
  --{4
  go_wp2_with fail
  go_loopw [13, 54] (fun pv jv wr => ∃ j : Nat, jv = .int .i64 j ∧ j ≤ m ∧ pv = .bool (partK s cs j) ∧ Hid (Below w5.heap.size w5 wr)) (fun _ jv _ => m - (intOf jv).toNat)
  case atStart => exact ⟨0, rfl, Nat.zero_le _, rfl, hide (Below.refl _ _)⟩
  case round =>
    obtain ⟨j, rfl, hj, rfl, hr⟩ := hrel
    by_cases hlt : j < m
    · 
      --{1
      obtain ⟨b, o, rfl, d0⟩ := (hA2.out.kept (HB5.out.trans (hr.out.mono HB5.out.size))) j (by rw [HM.out]; exact hlt)
      rw [HNat.out j hlt] at d0
      have hle := HLe.out j hlt
      have HNx : Hid (partK s cs (j + 1) = (partK s cs j || !endsB (s.extract 0 (nOf cs j)))) := hide rfl
      have HEj := hide (fun W => HE.out (nOf cs j) W)
      generalize partK s cs j = pj at *
      generalize endsB (s.extract 0 (nOf cs j)) = ej at *
      generalize nOf cs j = k at *
      cases pj
      · go_wp2_with fail
        refine (HEj.out _).mono ?_
        rintro e w6 ⟨rfl, rfl⟩
        clear HEj
        go_wp2
        go_roundw
        case rel => exact ⟨j + 1, by go_num, by omega, by rw [HNx.out]; simp, hr⟩
        case measure => simp [intOf]; omega
      · clear HEj
        go_wp2
        go_roundw
        case rel => exact ⟨j + 1, by go_num, by omega, by rw [HNx.out]; simp, hr⟩
        case measure => simp [intOf]; omega
      --}1
    · 
      --{2
      obtain rfl : j = m := by omega
      have HRr := hide (HR5.out.kept hr.out)
      have HBr := hide (HB5.out.trans (hr.out.mono HB5.out.size))
      go_wp2_with fail
      refine (works_any _).mono ?_
      rintro e w6 ⟨rfl, hb6⟩
      have HR6 := hide (HRr.out.kept hb6)
      have HB6 := hide (HBr.out.trans (hb6.mono HBr.out.size))
      clear hb6 HRr HBr hr HR5
      go_wp2_with fail
      refine (HAp.out _ _ _ HR6.out).mono ?_
      rintro e w7 ⟨rfl, hb7⟩
      have HR7 := hide (HR6.out.kept hb7)
      have HB7 := hide (HB6.out.trans (hb7.mono HB6.out.size))
      clear hb7 HR6 HB6
      go_wp2_with fail
      refine (HAf.out _ (hA2.out.kept HB7.out) (hB2.out.kept HB7.out)).mono ?_
      rintro e w8 ⟨rfl, rfl⟩
      cases hp : partK s cs j
      · have HBf := hide (HBl.out.trans (HB7.out.mono HBl.out.size))
        go_wp2
        go_ret
        exact ⟨rfl, HBf.out⟩
      · have HFp := hide (HFu.out hp)
        clear hp
        go_wp2_with fail
        refine (HFp.out _ _ _ HR7.out).mono ?_
        rintro e w9 ⟨rfl, hb9⟩
        have HBf := hide (HBl.out.trans ((HB7.out.trans (hb9.mono HB7.out.size)).mono HBl.out.size))
        clear hb9
        go_wp2
        go_ret
        exact ⟨rfl, HBf.out⟩
      --}2
  --}4
  --}3

theorem own : ownKnob Try.prog.godebug = none := by kernel_rfl
theorem laidOut : laidOutB Try.prog = true := by kernel_rfl
set_option maxRecDepth 100000 in
set_option maxHeartbeats 1000000 in
theorem lifted (os : Os) (started : os.Started) (H : Type) (enc : TypeId × Value → H) :
    ReturnsInHanded {} Try.checked os 10 .any (Rows.fnLineEditsSpec.pre6 enc Try.prog Try.f10 Rows.fnLineEditsRow.domain false) (Rows.fnLineEditsSpec.post enc Try.prog Try.f10 false true false false) := by
  refine returnsInHanded_of_change (C := Try.checked) own started (by kernel_rfl) Try.func10
    (ChangeSpec.witness6 (enc := enc) (C := Try.checked) false ⟨#[], #[.string ⟨#[]⟩, .slice none 0 0, .slice none 0 0, .int .i64 0, .bool false], []⟩ 8 (by kernel_rfl) (by kernel_rfl) (by kernel_rfl) (by kernel_rfl)) ?_
  intro W base args ds gs before hval0 hW hcnd _
  have hval : ∀ (j : Nat) t v, Try.f10.params[j]? = some t → args[j]? = some v → Value.okWide Try.prog W .any base t v := hval0
  have hW' := hW
  obtain ⟨p, q, hA0, hV, rfl, hfz, hnd⟩ := hW
  have hA : DataW.TrodAll enc Try.prog W 0 (fun _ => true) true Try.f10.params.toList args.toList ds p := hA0
  rw [Try.params10] at hA hval
  obtain ⟨v0, vs0, d0, ds0, p0, q0, hargs, rfl, rfl, h0, r0⟩ := trodAll_cons hA
  obtain ⟨v1, vs1, d1, ds1, p1, q1, rfl, rfl, rfl, h1, r1⟩ := trodAll_cons r0
  obtain ⟨v2, vs2, d2, ds2, p2, q2, rfl, rfl, rfl, h2, r2⟩ := trodAll_cons r1
  obtain ⟨v3, vs3, d3, ds3, p3, q3, rfl, rfl, rfl, h3, r3⟩ := trodAll_cons r2
  obtain ⟨v4, vs4, d4, ds4, p4, q4, rfl, rfl, rfl, h4, r4⟩ := trodAll_cons r3
  obtain ⟨rfl, rfl, rfl⟩ := trodAll_nil r4
  obtain rfl : args = #[v0, v1, v2, v3, v4] := by cases args; simp_all
  obtain ⟨rfl, rfl⟩ := trodVars_none hV
  have k0 := h0
  have lt0 : ∀ x ∈ p0, x.block < W.heap.size := by obtain ⟨m, hm⟩ := k0; exact DataW.trod_lt m _ _ _ hm
  obtain ⟨s, rfl, rfl, rfl, w_s⟩ := open_string Try.underlying9 (hval 0 9 v0 rfl rfl) h0
  have k1 := h1
  have lt1 : ∀ x ∈ p1, x.block < W.heap.size := by obtain ⟨m, hm⟩ := k1; exact DataW.trod_lt m _ _ _ hm
  obtain ⟨cs_a, cs_n, cs_c, rfl⟩ := okWide_slice Try.underlying28 (hval 1 28 v1 rfl rfl)
  obtain ⟨cs, l_cs, w_cs⟩ := ints_opened Try.underlying28 Try.underlying3 (by kernel_rfl) h1
  subst l_cs
  have k2 := h2
  have lt2 : ∀ x ∈ p2, x.block < W.heap.size := by obtain ⟨m, hm⟩ := k2; exact DataW.trod_lt m _ _ _ hm
  obtain ⟨ts_a, ts_n, ts_c, rfl⟩ := okWide_slice Try.underlying29 (hval 2 29 v2 rfl rfl)
  obtain ⟨ts, l_ts, w_ts⟩ := strs_opened Try.underlying29 Try.underlying9 (by kernel_rfl) h2
  subst l_ts
  have k3 := h3
  have lt3 : ∀ x ∈ p3, x.block < W.heap.size := by obtain ⟨m, hm⟩ := k3; exact DataW.trod_lt m _ _ _ hm
  obtain ⟨by_, rfl, rfl, rfl, w_by_⟩ := open_int Try.underlying3 (hval 3 3 v3 rfl rfl) h3
  have k4 := h4
  have lt4 : ∀ x ∈ p4, x.block < W.heap.size := by obtain ⟨m, hm⟩ := k4; exact DataW.trod_lt m _ _ _ hm
  obtain ⟨ar, rfl, rfl, rfl⟩ := open_bool Try.underlying4 (hval 4 4 v4 rfl rfl) h4
  clear hA0 hval0
  refine (walk s cs_a cs_c cs ts_a ts_c ts by_ ar W w_cs w_ts).mono fun e W' ⟨he, bel⟩ => ?_
  subst he
  exact ⟨_, rfl, _, _, _, [], _, [], hW', trodAll_mk1 (shut_bool Try.underlying4 _), (trodAll_cons_mk (Below.trod laidOut (by kernel_rfl) (of_decide_eq_true (by kernel_rfl)) k0 bel lt0) (trodAll_cons_mk (Below.trod laidOut (by kernel_rfl) (of_decide_eq_true (by kernel_rfl)) k1 bel lt1) (trodAll_cons_mk (Below.trod laidOut (by kernel_rfl) (of_decide_eq_true (by kernel_rfl)) k2 bel lt2) (trodAll_cons_mk (Below.trod laidOut (by kernel_rfl) (of_decide_eq_true (by kernel_rfl)) k3 bel lt3) (trodAll_cons_mk (Below.trod laidOut (by kernel_rfl) (of_decide_eq_true (by kernel_rfl)) k4 bel lt4) trodAll_mk0))))), rfl, bel.frame _, fun h => by cases h⟩

theorem over : Rows.fnLineEditsRow.holds Try.pinned (OpenSpec.ofChange Rows.fnLineEditsSpec) :=
  OpenClaim.holds_of_wide 10 Try.f10 rfl rfl rfl rfl rfl rfl rfl ⟨rfl, rfl, rfl, rfl, rfl⟩ rfl rfl rfl rfl rfl (by kernel_rfl) Try.func10 (by kernel_rfl)
    (of_decide_eq_true (by kernel_rfl)) (by unfold Func.isWrapper; rw [if_neg (of_decide_eq_false (by kernel_rfl))]; exact ⟨rfl, rfl⟩)
    (fun os started H enc _ => lifted os started H enc)

/-- The statement. -/
theorem proved : Rows.FnLineEditsSaid := over
#print axioms proved
end Go.Proofs.Ytgegialfhkgggaa.FnLineEditsProof
