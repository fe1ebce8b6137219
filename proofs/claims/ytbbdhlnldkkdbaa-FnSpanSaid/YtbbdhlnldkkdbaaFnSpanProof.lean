/- The statement FnSpan: a span of two points with lines, columns and offsets from 1 to a million tells its name and its points, is valid, and is a point just where they are one. For every input. -/
import Derived.Test.YtbbdhlnldkkdbaaRows
import Derived.Test.YtbbdhlnldkkdbaaFnSpan
import Derived.ProofKit
import Derived.OpenShut
import Derived.ShutString
import Derived.ChangeOld
import Derived.Lib.SmallJoins
namespace Go.Proofs.Ytbbdhlnldkkdbaa.FnSpanProof
open Go.ChangeShapes Go.WideShapes Go.ChangeAt Go.RowKit
open Go.ChangeMaps (open_string shut_string)
set_option linter.unusedVariables false

set_option maxHeartbeats 2000000 in
theorem walk (u : ByteArray) (l c o l2 c2 o2 : Int) (w : World) :
    Calls Try.prog 3 #[.string u, .agg #[.int .i64 l, .int .i64 c, .int .i64 o], .agg #[.int .i64 l2, .int .i64 c2, .int .i64 o2]] w fun e w' => e = .returned (.bool true) ∧ Below w.heap.size w w' := by
  by_cases h1 : (2147483647 : Int) < (u.size : Int)
  · go_enter Try.func3, Try.ntmps3
    go_wp2
    go_ret
    exact ⟨rfl, by go_grown⟩
  · by_cases h2 : (1000 : Int) < (u.size : Int) ∨ near 1 [l, c, o, l2, c2, o2] = false
    · exact fnSpan_walk_far u l c o l2 c2 o2 w h1 h2
    · simp only [not_or] at h2
      exact fnSpan_walk_near u l c o l2 c2 o2 w h2.1 (by simpa using h2.2)

theorem own : ownKnob Try.prog.godebug = none := by kernel_rfl
theorem laidOut : laidOutB Try.prog = true := by kernel_rfl
set_option maxRecDepth 100000 in
set_option maxHeartbeats 1000000 in
theorem lifted (os : Os) (started : os.Started) (H : Type) (enc : TypeId × Value → H) :
    ReturnsInHanded {} Try.checked os 3 .any (Rows.fnSpanSpec.pre6 enc Try.prog Try.f3 Rows.fnSpanRow.domain false) (Rows.fnSpanSpec.post enc Try.prog Try.f3 false true false false) := by
  refine returnsInHanded_of_change (C := Try.checked) own started (by kernel_rfl) Try.func3
    (ChangeSpec.witness6 (enc := enc) (C := Try.checked) false ⟨#[], #[.string ⟨#[]⟩, .agg #[.int .i64 0, .int .i64 0, .int .i64 0], .agg #[.int .i64 0, .int .i64 0, .int .i64 0]], []⟩ 8 (by kernel_rfl) (by kernel_rfl) (by kernel_rfl) (by kernel_rfl)) ?_
  intro W base args ds gs before hval0 hW hcnd _
  have hval : ∀ (j : Nat) t v, Try.f3.params[j]? = some t → args[j]? = some v → Value.okWide Try.prog W .any base t v := hval0
  have hW' := hW
  obtain ⟨p, q, hA0, hV, rfl, hfz, hnd⟩ := hW
  have hA : DataW.TrodAll enc Try.prog W 0 (fun _ => true) true Try.f3.params.toList args.toList ds p := hA0
  rw [Try.params3] at hA hval
  obtain ⟨v0, vs0, d0, ds0, p0, q0, hargs, rfl, rfl, h0, r0⟩ := trodAll_cons hA
  obtain ⟨v1, vs1, d1, ds1, p1, q1, rfl, rfl, rfl, h1, r1⟩ := trodAll_cons r0
  obtain ⟨v2, vs2, d2, ds2, p2, q2, rfl, rfl, rfl, h2, r2⟩ := trodAll_cons r1
  obtain ⟨rfl, rfl, rfl⟩ := trodAll_nil r2
  obtain rfl : args = #[v0, v1, v2] := by cases args; simp_all
  obtain ⟨rfl, rfl⟩ := trodVars_none hV
  have k0 := h0
  have lt0 : ∀ x ∈ p0, x.block < W.heap.size := by obtain ⟨m, hm⟩ := k0; exact DataW.trod_lt m _ _ _ hm
  obtain ⟨u, rfl, rfl, rfl, w_u⟩ := open_string Try.underlying9 (hval 0 9 v0 rfl rfl) h0
  have k1 := h1
  have lt1 : ∀ x ∈ p1, x.block < W.heap.size := by obtain ⟨m, hm⟩ := k1; exact DataW.trod_lt m _ _ _ hm
  obtain ⟨a1, b1, c1, x1, y1, z1, m1, rfl, _, _, hx1, hy1, hz1⟩ := Joins.open_agg3 Try.underlying23 (by kernel_rfl) (by kernel_rfl) (hval 1 23 v1 rfl rfl) h1
  obtain ⟨p_l, e_l1, _, w_p_l⟩ := DataW.trod_int Try.underlying3 hx1
  simp only [List.cons.injEq, and_true] at e_l1
  subst e_l1
  obtain ⟨p_c, e_c1, _, w_p_c⟩ := DataW.trod_int Try.underlying3 hy1
  simp only [List.cons.injEq, and_true] at e_c1
  subst e_c1
  obtain ⟨p_o, e_o1, _, w_p_o⟩ := DataW.trod_int Try.underlying3 hz1
  simp only [List.cons.injEq, and_true] at e_o1
  subst e_o1
  have k2 := h2
  have lt2 : ∀ x ∈ p2, x.block < W.heap.size := by obtain ⟨m, hm⟩ := k2; exact DataW.trod_lt m _ _ _ hm
  obtain ⟨a2, b2, c2, x2, y2, z2, m2, rfl, _, _, hx2, hy2, hz2⟩ := Joins.open_agg3 Try.underlying23 (by kernel_rfl) (by kernel_rfl) (hval 2 23 v2 rfl rfl) h2
  obtain ⟨q_l, e_l2, _, w_q_l⟩ := DataW.trod_int Try.underlying3 hx2
  simp only [List.cons.injEq, and_true] at e_l2
  subst e_l2
  obtain ⟨q_c, e_c2, _, w_q_c⟩ := DataW.trod_int Try.underlying3 hy2
  simp only [List.cons.injEq, and_true] at e_c2
  subst e_c2
  obtain ⟨q_o, e_o2, _, w_q_o⟩ := DataW.trod_int Try.underlying3 hz2
  simp only [List.cons.injEq, and_true] at e_o2
  subst e_o2
  clear hA0 hval0
  refine (walk u p_l p_c p_o q_l q_c q_o W).mono fun e W' ⟨he, bel⟩ => ?_
  subst he
  exact ⟨_, rfl, _, _, _, [], _, [], hW', trodAll_mk1 (shut_bool Try.underlying4 _), (trodAll_cons_mk (Below.trod laidOut (by kernel_rfl) (of_decide_eq_true (by kernel_rfl)) k0 bel lt0) (trodAll_cons_mk (Below.trod laidOut (by kernel_rfl) (of_decide_eq_true (by kernel_rfl)) k1 bel lt1) (trodAll_cons_mk (Below.trod laidOut (by kernel_rfl) (of_decide_eq_true (by kernel_rfl)) k2 bel lt2) trodAll_mk0))), rfl, bel.frame _, fun h => by cases h⟩

theorem over : Rows.fnSpanRow.holds Try.pinned (OpenSpec.ofChange Rows.fnSpanSpec) :=
  OpenClaim.holds_of_wide 3 Try.f3 rfl rfl rfl rfl rfl rfl rfl ⟨rfl, rfl, rfl, rfl, rfl⟩ rfl rfl rfl rfl rfl (by kernel_rfl) Try.func3 (by kernel_rfl)
    (of_decide_eq_true (by kernel_rfl)) (by unfold Func.isWrapper; rw [if_neg (of_decide_eq_false (by kernel_rfl))]; exact ⟨rfl, rfl⟩)
    (fun os started H enc _ => lifted os started H enc)

/-- The statement. -/
theorem proved : Rows.FnSpanSaid := over
#print axioms proved
end Go.Proofs.Ytbbdhlnldkkdbaa.FnSpanProof
