/- The statement FnNoEdits: a text has no edits to itself; without edits it stays, and has no hunks and an empty unified text. For every input; the listed variables as the program's text lays them. -/
import Derived.Test.YtgegialfhkgggaaGreatDoorRows
import Derived.Test.YtgegialfhkgggaaGreatDoorCards
import Derived.Test.YtgegialfhkgggaaGreatDoorTie
import Derived.Test.YtgegialfhkgggaaGreatDoorNoEdM
import Derived.Test.YtgegialfhkgggaaGreatDoorPb
import Derived.ProofKit
import Derived.OpenShut
import Derived.ShutString
import Derived.ChangeOld
import Derived.Lib.SmallJoins
import Derived.LaidMore
import Derived.Stop.Joined
set_option linter.unusedVariables false
set_option linter.unusedSimpArgs false
namespace Go.Proofs.YtgegialfhkgggaaGreatDoor.FnNoEditsProof
open Go.ChangeShapes Go.WideShapes Go.ChangeAt Go.RowKit
open Go.ChangeMaps (open_string shut_string)
set_option linter.unusedVariables false
open Go.Proofs.YtgegialfhkgggaaGreatDoor.Lines Mye
attribute [local go_sem ↓] Go.wp_at_zero Go.wp_at_succ

set_option maxHeartbeats 8000000 in
set_option maxRecDepth 100000 in
theorem near (s : ByteArray) (hsh : shortB [s] = true) (w : World) :
    Calls Tryz.prog 3 #[.string s] w fun e w' => e = .returned (.bool true) ∧ Below w.heap.size w w' := by
  have HF := hide hsh
  have hb := hsh
  unfold shortB at hb
  simp only [Bool.and_eq_true, decide_eq_true_eq, sumSz, sumLn, List.map_cons, List.map_nil, List.sum_cons, List.sum_nil] at hb
  have hs : s.size ≤ 2147483647 := by omega
  have HE := hide (fun W => iEdits_any s s (by omega) (by omega) W)
  have HA := hide (fun W => iApply_none s W)
  have heq : (s.toList == s.toList) = true := by simp
  clear hsh hb
  go_enter Tryz.func3, Tryz.ntmps3
  go_wp2_with fail
  refine (isShort_any _ _ [s] (by simp) (by simp; omega) _ (Strs.blk (Blk.newAt (by simp)) rfl)).mono ?_
  rintro e w1 ⟨rfl, rfl⟩
  rw [HF.out]
  go_wp2_with fail
  refine (works_any _).mono ?_
  rintro e w1 ⟨rfl, hb1⟩
  have HB1 : Hid (Below w.heap.size w w1) := hide (Below.trans (by go_grown) (hb1.mono (by simp)))
  clear hb1
  go_wp2_with fail
  refine (HE.out _).mono ?_
  rintro e w2 ⟨ops, D, A, c, hscr, hcost, hhit, hnh, rfl, hr, hlen, hb2⟩
  have HB2 := hide (HB1.out.trans (hb2.mono HB1.out.size))
  have h0 : ops = [] := ops_same hscr hcost hhit hnh
  subst h0
  clear hscr hcost hhit hnh hr hlen hb2 HB1 HE
  simp only [List.length_nil]
  go_wp2_with fail
  refine (HA.out _).mono ?_
  rintro e w3 ⟨rfl, hb3⟩
  have HB3 := hide (HB2.out.trans (hb3.mono HB2.out.size))
  clear hb3 HB2
  go_wp2_with fail
  refine (iHunks_none s _).mono ?_
  rintro e w4 ⟨A4, c4, rfl, hb4⟩
  have HB4 := hide (HB3.out.trans (hb4.mono HB3.out.size))
  clear hb4 HB3
  go_wp2_with fail
  refine (unified_none _ _ s _).mono ?_
  rintro e w5 ⟨rfl, hb5⟩
  have HB5 := hide (HB4.out.trans (hb5.mono HB4.out.size))
  clear hb5 HB4
  go_wp2_with fail
  refine (iLineEd_none s _).mono ?_
  rintro e w6 ⟨A6, c6, rfl, hb6⟩
  have HB6 := hide (HB5.out.trans (hb6.mono HB5.out.size))
  clear hb6 HB5
  go_wp2
  go_ret
  exact ⟨rfl, HB6.out⟩

set_option maxHeartbeats 4000000 in
set_option maxRecDepth 100000 in
theorem walk (s : ByteArray) (w : World) :
    Calls Tryz.prog 3 #[.string s] w fun e w' => e = .returned (.bool true) ∧ Below w.heap.size w w' := by
  by_cases h1 : (2147483647 : Int) < (s.size : Int)
  · go_enter Tryz.func3, Tryz.ntmps3
    go_wp2
    go_ret
    exact ⟨rfl, by go_grown⟩
  · have hs : s.size ≤ 2147483647 := by omega
    cases hsh : shortB [s]
    · have HF := hide hsh
      clear hsh
      go_enter Tryz.func3, Tryz.ntmps3
      go_wp2_with fail
      refine (isShort_any _ _ [s] (by simp) (by simp; omega) _ (Strs.blk (Blk.newAt (by simp)) rfl)).mono ?_
      rintro e w1 ⟨rfl, rfl⟩
      rw [HF.out]
      go_wp2_with fail
      refine (works_any _).mono ?_
      rintro e w1 ⟨rfl, hb1⟩
      have hbl1 : Below w.heap.size w w1 := Below.trans (by go_grown) (hb1.mono (by simp))
      go_wp2
      go_ret
      exact ⟨rfl, by go_grown⟩
    · exact near s hsh w

theorem own : ownKnob Tryz.prog.godebug = none := by kernel_rfl
theorem laidOut : laidOutB Tryz.prog = true := by kernel_rfl
theorem door_met (os : Os) (args : Array Value) : laidMetH Tryz.prog Rows.fnNoEditsRow.laid ((World.doorLaid Tryz.prog 24 os).forCall (fun _ _ => 0) ⟨#[], args, []⟩).memory :=
  laidMetH_of_parts3 (fuel := 8) (laidMet_of_run' 8 (by kernel_rfl) (by kernel_rfl)) (by kernel_rfl) (by kernel_rfl)
set_option maxRecDepth 100000 in
set_option maxHeartbeats 1000000 in
theorem lifted (os : Os) (started : os.Started) (H : Type) (enc : TypeId × Value → H) :
    ReturnsInHanded {} Tryz.checked os 3 .any (fun w args => (Rows.fnNoEditsSpec.pre enc Tryz.prog Tryz.f3 [] false w args ∧ laidMetH Tryz.prog Rows.fnNoEditsRow.laid w) ∧ sizedMet enc Tryz.prog Tryz.f3 (OpenSpec.ofChange Rows.fnNoEditsSpec) false w args)
      (Rows.fnNoEditsSpec.post enc Tryz.prog Tryz.f3 false true false false) := by
  refine returnsInHanded_of_change_and (C := Tryz.checked) (X := fun w _ => laidMetH Tryz.prog Rows.fnNoEditsRow.laid w) (fun _ _ _ hh h => h.of_heap hh) own started (by kernel_rfl) Tryz.func3
    (ChangeSpec.witness_shaped (enc := enc) (C := Tryz.checked) (os := os) (X := fun w _ => laidMetH Tryz.prog Rows.fnNoEditsRow.laid w) false (World.doorLaid Tryz.prog 24 os) #[.string ⟨#[]⟩] 8 rfl (World.shaped_of_RefB (by kernel_rfl) (by kernel_rfl)) (by kernel_rfl) (by kernel_rfl) (by kernel_rfl) (door_met os _)) ?_
  intro W base args ds gs before hval0 hW _ _ hL _
  have hval : ∀ (j : Nat) t v, Tryz.f3.params[j]? = some t → args[j]? = some v → Value.okWide Tryz.prog W .any base t v := hval0
  have hW' := hW
  obtain ⟨p, q, hA0, hV, rfl, hfz, hnd⟩ := hW
  have hA : DataW.TrodAll enc Tryz.prog W 0 (fun _ => true) true Tryz.f3.params.toList args.toList ds p := hA0
  rw [Tryz.params3] at hA hval
  obtain ⟨v0, vs0, d0, ds0, p0, q0, hargs, rfl, rfl, h0, r0⟩ := trodAll_cons hA
  obtain ⟨rfl, rfl, rfl⟩ := trodAll_nil r0
  obtain rfl : args = #[v0] := by cases args; simp_all
  obtain ⟨rfl, rfl⟩ := trodVars_none hV
  have k0 := h0
  have lt0 : ∀ x ∈ p0, x.block < W.heap.size := by obtain ⟨m, hm⟩ := k0; exact DataW.trod_lt m _ _ _ hm
  obtain ⟨s, rfl, rfl, rfl, w_s⟩ := open_string Tryz.underlying9 (hval 0 9 v0 rfl rfl) h0
  clear hA0 hval0
  refine (walk s W).mono fun e W' ⟨he, bel⟩ => ?_
  subst he
  exact ⟨_, rfl, _, _, _, [], _, [], hW', trodAll_mk1 (shut_bool Tryz.underlying4 _), (trodAll_cons_mk (Below.trod laidOut (by kernel_rfl) (of_decide_eq_true (by kernel_rfl)) k0 bel lt0) trodAll_mk0), rfl, bel.frame _, fun h => by cases h⟩

theorem over : Rows.fnNoEditsRow.holds Tryz.pinned (OpenSpec.ofChange Rows.fnNoEditsSpec) :=
  OpenClaim.holds_of_wide 3 Tryz.f3 rfl rfl rfl rfl rfl rfl rfl ⟨rfl, rfl, rfl, rfl, rfl⟩ rfl rfl rfl rfl rfl (by kernel_rfl) Tryz.func3 (by kernel_rfl)
    (of_decide_eq_true (by kernel_rfl)) (by unfold Func.isWrapper; rw [if_neg (of_decide_eq_false (by kernel_rfl))]; exact ⟨rfl, rfl⟩)
    (fun os started H enc _ => lifted os started H enc)

/-- The statement: the tied card. -/
theorem proved : Rows.FnNoEditsCardSaid :=
  Claim7.holds_tied_plain_at .later [] [.data, .data, .data] true (true, "8d92a013be069464f1b1976b1e50444c83f91a9fd74a1201433a8ae977e26416") false
    over (fun _ h => by cases h) (by kernel_rfl) (fun _ h => by cases h) fnNoEdits_row_tie rfl ⟨rfl, rfl⟩ (by kernel_rfl) rfl
    (fun f fn hf hfn => by
      obtain rfl : f = 3 := Option.some.inj ((show Tryz.prog.funcNamed "loop.example/pub-g01515/laws.FnNoEdits" = some 3 by kernel_rfl).symm.trans hf) |>.symm
      obtain rfl : fn = Tryz.f3 := (Option.some.inj (Tryz.func3.symm.trans hfn)).symm
      exact ⟨by kernel_rfl, fun j t ht => by
        rw [Tryz.params3] at ht
        have hm : t ∈ [9] := by simpa using Array.mem_of_getElem? ht
        have hall : ([9].all fun u => !Tryz.prog.wantsStandIn u) = true := by kernel_rfl
        exact (show Tryz.prog.wantsStandIn t = false by simpa using List.all_eq_true.1 hall t hm)⟩)
    (by kernel_rfl)
#print axioms proved
end Go.Proofs.YtgegialfhkgggaaGreatDoor.FnNoEditsProof
