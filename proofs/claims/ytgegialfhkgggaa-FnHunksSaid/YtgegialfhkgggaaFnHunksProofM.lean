/- The statement FnHunks: the hunks, put into the first text, give the second. For every input. -/
import Derived.Test.YtgegialfhkgggaaRows
import Derived.Test.YtgegialfhkgggaaPp
import Derived.Test.YtgegialfhkgggaaPatchAM
import Derived.Test.YtgegialfhkgggaaPb
import Derived.ProofKit
import Derived.OpenShut
import Derived.ShutString
import Derived.ChangeOld
import Derived.Lib.SmallJoins
set_option linter.unusedVariables false
set_option linter.unusedSimpArgs false
namespace Go.Proofs.Ytgegialfhkgggaa.FnHunksProof
open Go.ChangeShapes Go.WideShapes Go.ChangeAt Go.RowKit
open Go.ChangeMaps (open_string shut_string)
set_option linter.unusedVariables false
open Go.Proofs.Ytgegialfhkgggaa.Lines Mye
attribute [local go_sem ↓] Go.wp_at_zero Go.wp_at_succ

set_option maxHeartbeats 8000000 in
set_option maxRecDepth 100000 in
theorem near (s t : ByteArray) (hsh : shortB [s, t] = true) (w : World) :
    Calls Try.prog 12 #[.string s, .string t] w fun e w' => e = .returned (.bool true) ∧ Below w.heap.size w w' := by
  have HF := hide hsh
  have hb := hsh
  unfold shortB at hb
  simp only [Bool.and_eq_true, decide_eq_true_eq, sumSz, sumLn, List.map_cons, List.map_nil, List.sum_cons, List.sum_nil] at hb
  have h3 := lines_nls s
  have h4 := lines_nls t
  have hs : s.size ≤ 100000 := by omega
  have ht : t.size ≤ 100000 := by omega
  have HE := hide (fun W => iEdits_any s t (by omega) (by omega) W)
  have HL := hide (show (linesB s).length + (linesB t).length ≤ 1000 by omega)
  obtain ⟨M, hM⟩ : ∃ M, (linesB s).length = M := ⟨_, rfl⟩
  obtain ⟨N, hN⟩ : ∃ N, (linesB t).length = N := ⟨_, rfl⟩
  rw [hM] at HL
  rw [hN] at HL
  have HM := hide hM
  have HN := hide hN
  have hMN : M + N ≤ 1000 := HL.out
  clear hsh hb h3 h4 hM hN HL
  go_enter Try.func12, Try.ntmps12
  go_wp2_with fail
  refine (isShort_any _ _ [s, t] (by simp) (by simp; omega) _ (Strs.blk (Blk.newAt (by simp)) rfl)).mono ?_
  rintro e w1 ⟨rfl, rfl⟩
  rw [HF.out]
  go_wp2_with fail
  refine (HE.out _).mono ?_
  rintro e w1 ⟨ops, D, A, c, hscr, hcost, hhit, hnh, rfl, hr, hlen, hb1⟩
  have hbl1 : Below w.heap.size w w1 := Below.trans (by go_grown) (hb1.mono (by simp))
  rw [HM.out, HN.out] at hlen
  have hn : ops.length ≤ 2000 := by omega
  have hX := hkFacts hscr hs ht hn
  have hH := hunks_ops hscr hs ht hn A c w1 hr
  have HBl := hide hbl1
  generalize hksOf s t ops = hks at *
  have HPt := hide (fun A2 c2 W (h : HksAt W A2 hks) => patch_any s hks A2 c2 (by omega) hX.pat (by have := hX.len; omega) hX.out (fun h hh => (hX.good h hh).2.2.2.2.2) (fun h hh => (hX.good h hh).1) (by rw [hX.text, size_list]; omega) W h)
  rw [hX.text, toB_of] at HPt
  have HH := hide hH
  obtain ⟨m, hm⟩ : ∃ m, hks.length = m := ⟨_, rfl⟩
  unfold IHRes at HH
  rw [hm] at HH HPt
  have hte : (t.toList == t.toList) = true := by simp
  clear hscr hcost hhit hnh hr hlen hb1 hH hX hbl1 HE hm
  go_wp2_with fail
  refine HH.out.mono ?_
  rintro e w2 ⟨A2, c2, rfl, hA2, hb2⟩
  have HA2 := hide hA2
  have HB2 := hide (HBl.out.trans (hb2.mono HBl.out.size))
  clear hA2 hb2 HH HBl
  go_wp2_with fail
  refine (HPt.out _ _ _ HA2.out).mono ?_
  rintro e w3 ⟨rfl, hb3⟩
  have HB3 := hide (HB2.out.trans (hb3.mono HB2.out.size))
  clear hb3 HB2 HPt
  go_wp2_with fail
  refine (works_any _).mono ?_
  rintro e w4 ⟨rfl, hb4⟩
  have HB4 := hide (HB3.out.trans (hb4.mono HB3.out.size))
  clear hb4 HB3
  go_wp2
  go_ret
  exact ⟨rfl, HB4.out⟩

set_option maxHeartbeats 2000000 in
theorem walk (s t : ByteArray) (w : World) :
    Calls Try.prog 12 #[.string s, .string t] w fun e w' => e = .returned (.bool true) ∧ Below w.heap.size w w' := by
  by_cases h1 : (2147483647 : Int) < (s.size : Int)
  · go_enter Try.func12, Try.ntmps12
    go_wp2
    go_ret
    exact ⟨rfl, by go_grown⟩
  · have hs : s.size ≤ 2147483647 := by omega
    by_cases h2 : (2147483647 : Int) < (t.size : Int)
    · go_enter Try.func12, Try.ntmps12
      go_wp2
      go_ret
      exact ⟨rfl, by go_grown⟩
    · have ht : t.size ≤ 2147483647 := by omega
      cases hsh : shortB [s, t]
      · have HF := hide hsh
        clear hsh
        go_enter Try.func12, Try.ntmps12
        go_wp2_with fail
        refine (isShort_any _ _ [s, t] (by simp) (by simp; omega) _ (Strs.blk (Blk.newAt (by simp)) rfl)).mono ?_
        rintro e w1 ⟨rfl, rfl⟩
        rw [HF.out]
        go_wp2_with fail
        refine (works_any _).mono ?_
        rintro e w1 ⟨rfl, hb1⟩
        have hbl1 : Below w.heap.size w w1 := Below.trans (by go_grown) (hb1.mono (by simp))
        go_wp2
        go_ret
        exact ⟨rfl, by go_grown⟩
      · exact near s t hsh w

theorem own : ownKnob Try.prog.godebug = none := by kernel_rfl
theorem laidOut : laidOutB Try.prog = true := by kernel_rfl
set_option maxRecDepth 100000 in
set_option maxHeartbeats 1000000 in
theorem lifted (os : Os) (started : os.Started) (H : Type) (enc : TypeId × Value → H) :
    ReturnsInHanded {} Try.checked os 12 .any (Rows.fnHunksSpec.pre6 enc Try.prog Try.f12 Rows.fnHunksRow.domain false) (Rows.fnHunksSpec.post enc Try.prog Try.f12 false true false false) := by
  refine returnsInHanded_of_change (C := Try.checked) own started (by kernel_rfl) Try.func12
    (ChangeSpec.witness6 (enc := enc) (C := Try.checked) false ⟨#[], #[.string ⟨#[]⟩, .string ⟨#[]⟩], []⟩ 8 (by kernel_rfl) (by kernel_rfl) (by kernel_rfl) (by kernel_rfl)) ?_
  intro W base args ds gs before hval0 hW hcnd _
  have hval : ∀ (j : Nat) t v, Try.f12.params[j]? = some t → args[j]? = some v → Value.okWide Try.prog W .any base t v := hval0
  have hW' := hW
  obtain ⟨p, q, hA0, hV, rfl, hfz, hnd⟩ := hW
  have hA : DataW.TrodAll enc Try.prog W 0 (fun _ => true) true Try.f12.params.toList args.toList ds p := hA0
  rw [Try.params12] at hA hval
  obtain ⟨v0, vs0, d0, ds0, p0, q0, hargs, rfl, rfl, h0, r0⟩ := trodAll_cons hA
  obtain ⟨v1, vs1, d1, ds1, p1, q1, rfl, rfl, rfl, h1, r1⟩ := trodAll_cons r0
  obtain ⟨rfl, rfl, rfl⟩ := trodAll_nil r1
  obtain rfl : args = #[v0, v1] := by cases args; simp_all
  obtain ⟨rfl, rfl⟩ := trodVars_none hV
  have k0 := h0
  have lt0 : ∀ x ∈ p0, x.block < W.heap.size := by obtain ⟨m, hm⟩ := k0; exact DataW.trod_lt m _ _ _ hm
  obtain ⟨s, rfl, rfl, rfl, w_s⟩ := open_string Try.underlying9 (hval 0 9 v0 rfl rfl) h0
  have k1 := h1
  have lt1 : ∀ x ∈ p1, x.block < W.heap.size := by obtain ⟨m, hm⟩ := k1; exact DataW.trod_lt m _ _ _ hm
  obtain ⟨t, rfl, rfl, rfl, w_t⟩ := open_string Try.underlying9 (hval 1 9 v1 rfl rfl) h1
  clear hA0 hval0
  refine (walk s t W).mono fun e W' ⟨he, bel⟩ => ?_
  subst he
  exact ⟨_, rfl, _, _, _, [], _, [], hW', trodAll_mk1 (shut_bool Try.underlying4 _), (trodAll_cons_mk (Below.trod laidOut (by kernel_rfl) (of_decide_eq_true (by kernel_rfl)) k0 bel lt0) (trodAll_cons_mk (Below.trod laidOut (by kernel_rfl) (of_decide_eq_true (by kernel_rfl)) k1 bel lt1) trodAll_mk0)), rfl, bel.frame _, fun h => by cases h⟩

theorem over : Rows.fnHunksRow.holds Try.pinned (OpenSpec.ofChange Rows.fnHunksSpec) :=
  OpenClaim.holds_of_wide 12 Try.f12 rfl rfl rfl rfl rfl rfl rfl ⟨rfl, rfl, rfl, rfl, rfl⟩ rfl rfl rfl rfl rfl (by kernel_rfl) Try.func12 (by kernel_rfl)
    (of_decide_eq_true (by kernel_rfl)) (by unfold Func.isWrapper; rw [if_neg (of_decide_eq_false (by kernel_rfl))]; exact ⟨rfl, rfl⟩)
    (fun os started H enc _ => lifted os started H enc)

/-- The statement. -/
theorem proved : Rows.FnHunksSaid := over
#print axioms proved
end Go.Proofs.Ytgegialfhkgggaa.FnHunksProof
