/- The statement FnParseBare: the texts of spans that have lines and columns alone, or offsets alone, are read to their names, and to their points. For every input; the listed variables as the program's text lays them. -/
import Derived.Test.YtckgdkjgllopmaaDoorRows
import Derived.Test.YtckgdkjgllopmaaDoorCards
import Derived.Test.YtckgdkjgllopmaaDoorTie
import Derived.Test.YtckgdkjgllopmaaDoorFnParseBareM
import Derived.Test.YtckgdkjgllopmaaDoorTabsM
import Derived.ProofKit
import Derived.OpenShut
import Derived.ShutString
import Derived.ChangeOld
import Derived.Lib.SmallJoins
import Derived.LaidMore
import Derived.Lay
import Derived.Stop.Joined
import Derived.MakeChecks
set_option linter.unusedVariables false
set_option linter.unusedSimpArgs false
namespace Go.Proofs.YtckgdkjgllopmaaDoor.FnParseBareProof
open Go.ChangeShapes Go.WideShapes Go.ChangeAt Go.RowKit
open Go.ChangeMaps (open_string shut_string)
set_option linter.unusedVariables false

/-- What the condition gives the walk. -/
theorem tabs_of {W : World} (h : laidMetH Tryd.prog Rows.fnParseBareRow.laid W) : Tab10 W.heap.size W := by
  rw [MakeChecks.laidMetH_plain _ _ _ (by kernel_rfl)] at h
  exact tab_of h (by simp [Rows.fnParseBareRow])

set_option maxHeartbeats 4000000 in
set_option maxRecDepth 100000 in
theorem far (u : ByteArray) (l c o l2 c2 o2 : Int) (f : Bool) (hs : u.size ≤ 2147483647) (HF : Hid (near 2 [l, c, o, l2, c2, o2] = false)) (w : World) :
    Calls Tryd.prog 5 #[.string u, ptV l c o, ptV l2 c2 o2, .bool f] w fun e w' => e = .returned (.bool true) ∧ Below w.heap.size w w' := by
  go_enter Tryd.func5, Tryd.ntmps5
  go_wp2_with fail
  refine (isLetters_any u hs _).mono ?_
  rintro e w1 ⟨b, rfl, hL, rfl⟩
  clear hL
  cases b
  · go_wp2_with fail
    refine (spans_any _).mono ?_
    rintro e w1 ⟨rfl, hb1⟩
    have hbl1 : Below w.heap.size w w1 := Below.trans (by go_grown) (hb1.mono (by simp; omega))
    go_wp2
    go_ret
    exact ⟨rfl, by go_grown⟩
  · go_wp2_with fail
    refine (isNear_any 2 _ _ [l, c, o, l2, c2, o2] (by simp) _ (Ints.blk (Blk.newAt (by simp)) rfl)).mono ?_
    rintro e w1 ⟨rfl, rfl⟩
    rw [HF.out]
    go_wp2_with fail
    refine (spans_any _).mono ?_
    rintro e w1 ⟨rfl, hb1⟩
    have hbl1 : Below w.heap.size w w1 := Below.trans (by go_grown) (hb1.mono (by simp; omega))
    go_wp2
    go_ret
    exact ⟨rfl, by go_grown⟩

set_option maxHeartbeats 4000000 in
theorem walk (u : ByteArray) (l c o l2 c2 o2 : Int) (f : Bool) (w : World) (hT : Tab10 w.heap.size w) :
    Calls Tryd.prog 5 #[.string u, ptV l c o, ptV l2 c2 o2, .bool f] w fun e w' => e = .returned (.bool true) ∧ Below w.heap.size w w' := by
  have HT := hide hT
  clear hT
  by_cases h1 : (2147483647 : Int) < (u.size : Int)
  · go_enter Tryd.func5, Tryd.ntmps5
    go_wp2
    go_ret
    exact ⟨rfl, by go_grown⟩
  · have hs : u.size ≤ 2147483647 := by omega
    cases hn : near 2 [l, c, o, l2, c2, o2]
    · exact far u l c o l2 c2 o2 f hs (hide hn) w
    · have hb := near_bound hn
      simp only [List.mem_cons, List.not_mem_nil, or_false, forall_eq_or_imp, forall_eq] at hb
      obtain ⟨⟨p1, r1⟩, ⟨p2, r2⟩, ⟨p3, r3⟩, ⟨p4, r4⟩, ⟨p5, r5⟩, ⟨p6, r6⟩⟩ := hb
      obtain ⟨L, rfl⟩ := Int.eq_ofNat_of_zero_le (show 0 ≤ l by omega)
      obtain ⟨C, rfl⟩ := Int.eq_ofNat_of_zero_le (show 0 ≤ c by omega)
      obtain ⟨O, rfl⟩ := Int.eq_ofNat_of_zero_le (show 0 ≤ o by omega)
      obtain ⟨L2, rfl⟩ := Int.eq_ofNat_of_zero_le (show 0 ≤ l2 by omega)
      obtain ⟨C2, rfl⟩ := Int.eq_ofNat_of_zero_le (show 0 ≤ c2 by omega)
      obtain ⟨O2, rfl⟩ := Int.eq_ofNat_of_zero_le (show 0 ≤ o2 by omega)
      have HF := hide hn
      exact fnParseBare_near u L C O L2 C2 O2 f hs HF (hide (fun _ hL a1 a2 ha => tp_bare u L C L2 C2 (-1) (-1) a1 a2 (Or.inr ⟨rfl, rfl⟩) ⟨by omega, by omega⟩ ⟨by omega, by omega⟩ ⟨by omega, by omega⟩ ⟨by omega, by omega⟩ (by omega)))
        (hide (fun _ hL a1 a2 => tp_off u 0 0 0 0 O O2 a1 a2 hL (Or.inr ⟨rfl, rfl, rfl, rfl⟩) ⟨by omega, by omega⟩ ⟨by omega, by omega⟩)) w HT

theorem own : ownKnob Tryd.prog.godebug = none := by kernel_rfl
theorem laidOut : laidOutB Tryd.prog = true := by kernel_rfl
set_option maxRecDepth 100000 in
set_option maxHeartbeats 1000000 in
theorem lifted (os : Os) (started : os.Started) (H : Type) (enc : TypeId × Value → H) :
    ReturnsInHanded {} Tryd.checked os 5 .any (fun w args => (Rows.fnParseBareSpec.pre enc Tryd.prog Tryd.f5 [] false w args ∧ laidMetH Tryd.prog Rows.fnParseBareRow.laid w) ∧ sizedMet enc Tryd.prog Tryd.f5 (OpenSpec.ofChange Rows.fnParseBareSpec) false w args)
      (Rows.fnParseBareSpec.post enc Tryd.prog Tryd.f5 false true false false) := by
  refine returnsInHanded_of_change_and (C := Tryd.checked) (X := fun w _ => laidMetH Tryd.prog Rows.fnParseBareRow.laid w) (fun _ _ _ hh h => h.of_heap hh) own started (by kernel_rfl) Tryd.func5
    (ChangeSpec.witness_shaped (enc := enc) (C := Tryd.checked) (os := os) (X := fun w _ => laidMetH Tryd.prog Rows.fnParseBareRow.laid w) false (World.laidAll Tryd.prog os Rows.fnParseBareRow.laid) #[.string ⟨#[]⟩, .agg #[.int .i64 0, .int .i64 0, .int .i64 0], .agg #[.int .i64 0, .int .i64 0, .int .i64 0], .bool false] 8 (World.laidAll_os _ _ _)
      (World.shaped_of_ZipB (by kernel_rfl) (by kernel_rfl)) (by kernel_rfl) (by kernel_rfl) (by kernel_rfl) (by rw [MakeChecks.laidMetH_plain _ _ _ (by kernel_rfl)]; exact laidMet_laidAll _ (by kernel_rfl) (by kernel_rfl))) ?_
  intro W base args ds gs before hval0 hW _ _ hL _
  have hval : ∀ (j : Nat) t v, Tryd.f5.params[j]? = some t → args[j]? = some v → Value.okWide Tryd.prog W .any base t v := hval0
  have hW' := hW
  obtain ⟨p, q, hA0, hV, rfl, hfz, hnd⟩ := hW
  have hA : DataW.TrodAll enc Tryd.prog W 0 (fun _ => true) true Tryd.f5.params.toList args.toList ds p := hA0
  rw [Tryd.params5] at hA hval
  obtain ⟨v0, vs0, d0, ds0, p0, q0, hargs, rfl, rfl, h0, r0⟩ := trodAll_cons hA
  obtain ⟨v1, vs1, d1, ds1, p1, q1, rfl, rfl, rfl, h1, r1⟩ := trodAll_cons r0
  obtain ⟨v2, vs2, d2, ds2, p2, q2, rfl, rfl, rfl, h2, r2⟩ := trodAll_cons r1
  obtain ⟨v3, vs3, d3, ds3, p3, q3, rfl, rfl, rfl, h3, r3⟩ := trodAll_cons r2
  obtain ⟨rfl, rfl, rfl⟩ := trodAll_nil r3
  obtain rfl : args = #[v0, v1, v2, v3] := by cases args; simp_all
  obtain ⟨rfl, rfl⟩ := trodVars_none hV
  have k0 := h0
  have lt0 : ∀ x ∈ p0, x.block < W.heap.size := by obtain ⟨m, hm⟩ := k0; exact DataW.trod_lt m _ _ _ hm
  obtain ⟨u, rfl, rfl, rfl, w_u⟩ := open_string Tryd.underlying9 (hval 0 9 v0 rfl rfl) h0
  have k1 := h1
  have lt1 : ∀ x ∈ p1, x.block < W.heap.size := by obtain ⟨m, hm⟩ := k1; exact DataW.trod_lt m _ _ _ hm
  obtain ⟨a1, b1, c1, x1, y1, z1, m1, rfl, _, _, hx1, hy1, hz1⟩ := Joins.open_agg3 Tryd.underlying25 (by kernel_rfl) (by kernel_rfl) (hval 1 25 v1 rfl rfl) h1
  obtain ⟨p_l, e_l1, _, w_p_l⟩ := DataW.trod_int Tryd.underlying3 hx1
  simp only [List.cons.injEq, and_true] at e_l1
  subst e_l1
  obtain ⟨p_c, e_c1, _, w_p_c⟩ := DataW.trod_int Tryd.underlying3 hy1
  simp only [List.cons.injEq, and_true] at e_c1
  subst e_c1
  obtain ⟨p_o, e_o1, _, w_p_o⟩ := DataW.trod_int Tryd.underlying3 hz1
  simp only [List.cons.injEq, and_true] at e_o1
  subst e_o1
  have k2 := h2
  have lt2 : ∀ x ∈ p2, x.block < W.heap.size := by obtain ⟨m, hm⟩ := k2; exact DataW.trod_lt m _ _ _ hm
  obtain ⟨a2, b2, c2, x2, y2, z2, m2, rfl, _, _, hx2, hy2, hz2⟩ := Joins.open_agg3 Tryd.underlying25 (by kernel_rfl) (by kernel_rfl) (hval 2 25 v2 rfl rfl) h2
  obtain ⟨q_l, e_l2, _, w_q_l⟩ := DataW.trod_int Tryd.underlying3 hx2
  simp only [List.cons.injEq, and_true] at e_l2
  subst e_l2
  obtain ⟨q_c, e_c2, _, w_q_c⟩ := DataW.trod_int Tryd.underlying3 hy2
  simp only [List.cons.injEq, and_true] at e_c2
  subst e_c2
  obtain ⟨q_o, e_o2, _, w_q_o⟩ := DataW.trod_int Tryd.underlying3 hz2
  simp only [List.cons.injEq, and_true] at e_o2
  subst e_o2
  have k3 := h3
  have lt3 : ∀ x ∈ p3, x.block < W.heap.size := by obtain ⟨m, hm⟩ := k3; exact DataW.trod_lt m _ _ _ hm
  obtain ⟨g, rfl, rfl, rfl⟩ := open_bool Tryd.underlying4 (hval 3 4 v3 rfl rfl) h3
  clear hA0 hval0
  have hTab := tabs_of hL
  refine (walk u p_l p_c p_o q_l q_c q_o g W hTab).mono fun e W' ⟨he, bel⟩ => ?_
  subst he
  exact ⟨_, rfl, _, _, _, [], _, [], hW', trodAll_mk1 (shut_bool Tryd.underlying4 _), (trodAll_cons_mk (Below.trod laidOut (by kernel_rfl) (of_decide_eq_true (by kernel_rfl)) k0 bel lt0) (trodAll_cons_mk (Below.trod laidOut (by kernel_rfl) (of_decide_eq_true (by kernel_rfl)) k1 bel lt1) (trodAll_cons_mk (Below.trod laidOut (by kernel_rfl) (of_decide_eq_true (by kernel_rfl)) k2 bel lt2) (trodAll_cons_mk (Below.trod laidOut (by kernel_rfl) (of_decide_eq_true (by kernel_rfl)) k3 bel lt3) trodAll_mk0)))), rfl, bel.frame _, fun h => by cases h⟩

theorem over : Rows.fnParseBareRow.holds Tryd.pinned (OpenSpec.ofChange Rows.fnParseBareSpec) :=
  OpenClaim.holds_of_wide 5 Tryd.f5 rfl rfl rfl rfl rfl rfl rfl ⟨rfl, rfl, rfl, rfl, rfl⟩ rfl rfl rfl rfl rfl (by kernel_rfl) Tryd.func5 (by kernel_rfl)
    (of_decide_eq_true (by kernel_rfl)) (by unfold Func.isWrapper; rw [if_neg (of_decide_eq_false (by kernel_rfl))]; exact ⟨rfl, rfl⟩)
    (fun os started H enc _ => lifted os started H enc)

/-- The statement: the tied card. -/
theorem proved : Rows.FnParseBareCardSaid :=
  Claim7.holds_tied_plain_at .later [] [.data, .data, .data, .data, .sentinel, .sentinel, .pinned] true (true, "6c553b78f8d02cc3e90515a8fed863709320e21563e5aea04ba736ad04c5ee09") true
    over (fun _ h => by cases h) (by kernel_rfl) (fun _ h => by cases h) fnParseBare_row_tie rfl ⟨rfl, rfl⟩ (by kernel_rfl) rfl
    (fun f fn hf hfn => by
      obtain rfl : f = 5 := Option.some.inj ((show Tryd.prog.funcNamed "loop.example/pub-g01515/laws.FnParseBare" = some 5 by kernel_rfl).symm.trans hf) |>.symm
      obtain rfl : fn = Tryd.f5 := (Option.some.inj (Tryd.func5.symm.trans hfn)).symm
      exact ⟨by kernel_rfl, fun j t ht => by
        rw [Tryd.params5] at ht
        have hm : t ∈ [9, 25, 25, 4] := by simpa using Array.mem_of_getElem? ht
        have hall : ([9, 25, 25, 4].all fun u => !Tryd.prog.wantsStandIn u) = true := by kernel_rfl
        exact (show Tryd.prog.wantsStandIn t = false by simpa using List.all_eq_true.1 hall t hm)⟩)
    (by kernel_rfl)
#print axioms proved
end Go.Proofs.YtckgdkjgllopmaaDoor.FnParseBareProof
