/- The statement FnSplitAfterLines: a text is split behind each of its newlines, and what is behind the last one is a part, too. For every input. -/
import Derived.Test.YtgegialfhkgggaaRows
import Derived.Test.YtgegialfhkgggaaFnSplitM
import Derived.Test.YtgegialfhkgggaaPb
import Derived.ProofKit
import Derived.OpenShut
import Derived.ShutString
import Derived.ChangeOld
import Derived.Lib.SmallJoins
set_option linter.unusedVariables false
set_option linter.unusedSimpArgs false
namespace Go.Proofs.Ytgegialfhkgggaa.FnSplitAfterLinesProof
open Go.ChangeShapes Go.WideShapes Go.ChangeAt Go.RowKit
open Go.ChangeMaps (open_string shut_string)
set_option linter.unusedVariables false
open Go.Proofs.Ytgegialfhkgggaa.Lines
attribute [local go_sem ↓] Go.wp_at_zero Go.wp_at_succ

set_option maxHeartbeats 4000000 in
theorem near (s : ByteArray) (hsh : shortB [s] = true) (w : World) :
    Calls Try.prog 7 #[.string s] w fun e w' => e = .returned (.bool true) ∧ Below w.heap.size w w' := by
  have HF := hide hsh
  have hb := hsh
  unfold shortB at hb
  simp only [Bool.and_eq_true, decide_eq_true_eq, sumSz, sumLn, List.map_cons, List.map_nil, List.sum_cons, List.sum_nil] at hb
  have hs : s.size ≤ 2147483647 := by omega
  have hc := splitB_count s
  have hle := splitB_le s
  have HS := hide (fun W => iSplit_any s (by omega) W)
  have HN := hide (fun W => newlines_any s (by omega) W)
  have HNl := hide (splitB_nl s)
  have HFl := hide (splitB_flat s)
  have HZ := hide (splitB_size s)
  have HJ := hide (fun b o c W (h : Strs W (some ⟨b, o, none⟩) (splitB s)) (h0 : 0 < (splitB s).length) (hcap : (splitB s).length ≤ c) => Try.strings_Join b o c (splitB s) ⟨#[]⟩ W (fun j x hx => by
      have hlt : j < (splitB s).length := by
        rcases Nat.lt_or_ge j (splitB s).length with h | h
        · exact h
        · rw [List.getElem?_eq_none h] at hx; cases hx
      obtain ⟨b', o', e, hc⟩ := h j hlt
      injection e with e
      injection e with e1 e2
      subst e1; subst e2
      rw [List.getD_eq_getElem?_getD, hx] at hc
      exact hc) (by obtain ⟨b', o', e, hc⟩ := h 0 h0; injection e with e; injection e with e1 e2; subst e1; exact lt_of_cell hc) (by omega) hcap (by
        have := congrArg ByteArray.size (splitB_flat s)
        rw [toB_size] at this
        show (Lib.join _ []).length ≤ _
        omega))
  have hne : (s.toList != s.toList) = false := by simp
  have hn0 : 0 < (splitB s).length := by omega
  unfold LinesRes at HS
  generalize hSp : splitB s = sp at *
  generalize hNn : nls s = m at *
  have hmb : m ≤ 1000000 := by omega
  have hcnt : ((sp.length : Int) != (m : Int) + 1) = false := by simp; omega
  clear hsh hb hSp hNn hc
  go_enter Try.func7, Try.ntmps7
  go_wp2_with fail
  refine (isShort_any _ _ [s] (by simp) (by simp; omega) _ (Strs.blk (Blk.newAt (by simp)) rfl)).mono ?_
  rintro e w1 ⟨rfl, rfl⟩
  rw [HF.out]
  go_wp2_with fail
  refine (HS.out _).mono ?_
  rintro e w1 ⟨A, cA, rfl, hcap, hA, hb1⟩
  have hbl1 : Below w.heap.size w w1 := Below.trans (by go_grown) (hb1.mono (by simp))
  obtain ⟨b, o, rfl, _⟩ := hA 0 hn0
  have HJ2 := hide (HJ.out b o cA w1 hA hn0 hcap)
  have HA := hide hA
  clear hA hb1
  go_wp2_with fail
  refine (HJ2.out).mono ?_
  rintro e w2 ⟨rfl, hb2⟩
  have hFl : (⟨(Lib.join (sp.map (·.data.toList)) []).toArray⟩ : ByteArray) = s := HFl.out
  rw [hFl]
  have hbl2 := hbl1.trans (hb2.mono hbl1.size)
  have HA2 := hide (HA.out.kept hb2)
  clear HJ HJ2 HFl hFl hb2 HA HS
  go_wp2_with fail
  refine (HN.out _).mono ?_
  rintro e w3 ⟨rfl, rfl⟩
  clear HN
  go_wp2_with fail
  go_loop [30] (fun jv => ∃ j : Nat, jv = .int .i64 j ∧ j ≤ sp.length) (fun jv => sp.length - (intOf jv).toNat)
  case atStart => exact ⟨0, rfl, Nat.zero_le _⟩
  case round =>
    obtain ⟨j, rfl, hj⟩ := hrel
    clear hcnt hne
    by_cases hlt : j < sp.length
    · obtain ⟨b', o', e, hc⟩ := HA2.out j hlt
      injection e with e
      injection e with e1 e2
      subst e1; subst e2
      have jn : (j : Int) < (sp.length : Int) := by omega
      by_cases hl : j + 1 < sp.length
      · have hnl := HNl.out j hl
        have hzx := HZ.out j hlt
        obtain ⟨x, hx⟩ : ∃ x, sp.getD j ByteArray.empty = x := ⟨_, rfl⟩
        rw [hx] at hc hnl hzx
        have hI := fun W => indexNl_any x W
        rw [if_pos (by omega)] at hI
        have HI := hide hI
        have d1 : (j : Int) < (sp.length : Int) - 1 := by omega
        have d2 : ((nlAt x.data.toList : Int) != (x.size : Int) - 1) = false := by simp; omega
        clear hx hnl hI
        go_wp2_with fail
        refine (HI.out _).mono ?_
        rintro e w4 ⟨rfl, rfl⟩
        clear HI
        go_wp2
        go_round
        case rel => exact ⟨j + 1, by go_num, by omega⟩
        case measure => simp [intOf]; omega
      · have d1 : ¬ (j : Int) < (sp.length : Int) - 1 := by omega
        have d2 : decide ((j : Int) < (sp.length : Int) - 1) = false := by simpa using d1
        generalize sp.getD j ByteArray.empty = x at *
        go_wp2
        go_round
        case rel => exact ⟨j + 1, by go_num, by omega⟩
        case measure => simp [intOf]; omega
    · go_wp2_with fail
      refine (works_any _).mono ?_
      rintro e w4 ⟨rfl, hb4⟩
      have hbl4 := hbl2.trans (hb4.mono hbl2.size)
      go_wp2
      go_ret
      exact ⟨rfl, hbl4⟩

set_option maxHeartbeats 2000000 in
theorem walk (s : ByteArray) (w : World) :
    Calls Try.prog 7 #[.string s] w fun e w' => e = .returned (.bool true) ∧ Below w.heap.size w w' := by
  by_cases h1 : (2147483647 : Int) < (s.size : Int)
  · go_enter Try.func7, Try.ntmps7
    go_wp2
    go_ret
    exact ⟨rfl, by go_grown⟩
  · have hs : s.size ≤ 2147483647 := by omega
    cases hsh : shortB [s]
    · have HF := hide hsh
      clear hsh
      go_enter Try.func7, Try.ntmps7
      go_wp2_with fail
      refine (isShort_any _ _ [s] (by simp) (by simp; omega) _ (Strs.blk (Blk.newAt (by simp)) rfl)).mono ?_
      rintro e w1 ⟨rfl, rfl⟩
      rw [HF.out]
      go_wp2_with fail
      refine (works_any _).mono ?_
      rintro e w1 ⟨rfl, hb1⟩
      have hbl1 : Below w.heap.size w w1 := Below.trans (by go_grown) (hb1.mono (by simp))
      go_wp2
      go_ret
      exact ⟨rfl, by go_grown⟩
    · exact near s hsh w

theorem own : ownKnob Try.prog.godebug = none := by kernel_rfl
theorem laidOut : laidOutB Try.prog = true := by kernel_rfl
set_option maxRecDepth 100000 in
set_option maxHeartbeats 1000000 in
theorem lifted (os : Os) (started : os.Started) (H : Type) (enc : TypeId × Value → H) :
    ReturnsInHanded {} Try.checked os 7 .any (Rows.fnSplitAfterLinesSpec.pre6 enc Try.prog Try.f7 Rows.fnSplitAfterLinesRow.domain false) (Rows.fnSplitAfterLinesSpec.post enc Try.prog Try.f7 false true false false) := by
  refine returnsInHanded_of_change (C := Try.checked) own started (by kernel_rfl) Try.func7
    (ChangeSpec.witness6 (enc := enc) (C := Try.checked) false ⟨#[], #[.string ⟨#[]⟩], []⟩ 8 (by kernel_rfl) (by kernel_rfl) (by kernel_rfl) (by kernel_rfl)) ?_
  intro W base args ds gs before hval0 hW hcnd _
  have hval : ∀ (j : Nat) t v, Try.f7.params[j]? = some t → args[j]? = some v → Value.okWide Try.prog W .any base t v := hval0
  have hW' := hW
  obtain ⟨p, q, hA0, hV, rfl, hfz, hnd⟩ := hW
  have hA : DataW.TrodAll enc Try.prog W 0 (fun _ => true) true Try.f7.params.toList args.toList ds p := hA0
  rw [Try.params7] at hA hval
  obtain ⟨v0, vs0, d0, ds0, p0, q0, hargs, rfl, rfl, h0, r0⟩ := trodAll_cons hA
  obtain ⟨rfl, rfl, rfl⟩ := trodAll_nil r0
  obtain rfl : args = #[v0] := by cases args; simp_all
  obtain ⟨rfl, rfl⟩ := trodVars_none hV
  have k0 := h0
  have lt0 : ∀ x ∈ p0, x.block < W.heap.size := by obtain ⟨m, hm⟩ := k0; exact DataW.trod_lt m _ _ _ hm
  obtain ⟨s, rfl, rfl, rfl, w_s⟩ := open_string Try.underlying9 (hval 0 9 v0 rfl rfl) h0
  clear hA0 hval0
  refine (walk s W).mono fun e W' ⟨he, bel⟩ => ?_
  subst he
  exact ⟨_, rfl, _, _, _, [], _, [], hW', trodAll_mk1 (shut_bool Try.underlying4 _), (trodAll_cons_mk (Below.trod laidOut (by kernel_rfl) (of_decide_eq_true (by kernel_rfl)) k0 bel lt0) trodAll_mk0), rfl, bel.frame _, fun h => by cases h⟩

theorem over : Rows.fnSplitAfterLinesRow.holds Try.pinned (OpenSpec.ofChange Rows.fnSplitAfterLinesSpec) :=
  OpenClaim.holds_of_wide 7 Try.f7 rfl rfl rfl rfl rfl rfl rfl ⟨rfl, rfl, rfl, rfl, rfl⟩ rfl rfl rfl rfl rfl (by kernel_rfl) Try.func7 (by kernel_rfl)
    (of_decide_eq_true (by kernel_rfl)) (by unfold Func.isWrapper; rw [if_neg (of_decide_eq_false (by kernel_rfl))]; exact ⟨rfl, rfl⟩)
    (fun os started H enc _ => lifted os started H enc)

/-- The statement. -/
theorem proved : Rows.FnSplitAfterLinesSaid := over
#print axioms proved
end Go.Proofs.Ytgegialfhkgggaa.FnSplitAfterLinesProof
