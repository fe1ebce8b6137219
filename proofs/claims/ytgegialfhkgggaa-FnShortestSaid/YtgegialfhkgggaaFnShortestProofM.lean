/- The statement FnShortest: the edits leave out and put in as few lines as can be. For every input. -/
import Derived.Test.YtgegialfhkgggaaRows
import Derived.Test.YtgegialfhkgggaaCommonM
import Derived.Test.YtgegialfhkgggaaPb
import Derived.ProofKit
import Derived.OpenShut
import Derived.ShutString
import Derived.ChangeOld
import Derived.Lib.SmallJoins
set_option linter.unusedVariables false
set_option linter.unusedSimpArgs false
namespace Go.Proofs.Ytgegialfhkgggaa.FnShortestProof
open Go.ChangeShapes Go.WideShapes Go.ChangeAt Go.RowKit
open Go.ChangeMaps (open_string shut_string)
set_option linter.unusedVariables false
open Go.Proofs.Ytgegialfhkgggaa.Lines Mye
attribute [local go_sem ↓] Go.wp_at_zero Go.wp_at_succ

/-- How many lines an operation leaves out and puts in. -/
def opC : Opn → Nat
  | .del a b _ => b - a
  | .ins _ a b => b - a
theorem cost_take (ops : List Opn) (j : Nat) (h : j < ops.length) : cost (ops.take (j + 1)) = cost (ops.take j) + opC ops[j] := by
  rw [List.take_succ_eq_append_getElem h, cost_append]
  cases ops[j] <;> simp [cost, opC]
theorem cost_take_le (ops : List Opn) (j : Nat) : cost (ops.take j) ≤ cost ops := by
  have : cost ops = cost (ops.take j) + cost (ops.drop j) := by rw [← cost_append, List.take_append_drop]
  omega
theorem linesB_empty : linesB ⟨#[]⟩ = [] := rfl
theorem op_lines {t : ByteArray} {x : Nat} {op : Opn} (h : oOk x (linesB t).length op) : (oE op - oS op) + (linesB (opText (linesB t) op)).length = opC op := by
  cases op with
  | del a b j => simp only [oE, oS, opC, opText, linesB_empty, List.length_nil, Nat.add_zero]
  | ins i j k =>
    obtain ⟨h1, h2, h3⟩ := h
    simp only [oE, oS, opC, Nat.sub_self, Nat.zero_add]
    rw [linesB_len]
    unfold lnL
    rw [opText_data]
    unfold lnL
    rw [lines_cut]
    rw [linesB_len] at h3
    unfold lnL at h3
    rw [List.length_take, List.length_drop]
    omega
theorem cost_lcs {s t : ByteArray} {D : Nat} (h1 : hit (linesB s).length (linesB t).length (eqL (linesB s) (linesB t)) D) (h2 : ∀ d, d < D → ¬ hit (linesB s).length (linesB t).length (eqL (linesB s) (linesB t)) d) :
    D + 2 * lcs (eqL (linesB s) (linesB t)) (linesB s).length (linesB t).length = (linesB s).length + (linesB t).length := by
  obtain ⟨D', q1, q2, q3, q4, q5⟩ := least_hit (M := (linesB s).length) (N := (linesB t).length) (eq := eqL (linesB s) (linesB t))
  have : D = D' := by
    rcases Nat.lt_trichotomy D D' with h | h | h
    · exact absurd h1 (q3 D h)
    · exact h
    · exact absurd q2 (h2 D' h)
  subst this
  exact hit_lcs q4 q5

set_option maxHeartbeats 8000000 in
set_option maxRecDepth 100000 in
theorem near (s t : ByteArray) (hsh : shortB [s, t] = true) (w : World) :
    Calls Try.prog 6 #[.string s, .string t] w fun e w' => e = .returned (.bool true) ∧ Below w.heap.size w w' := by
  have HF := hide hsh
  have hb := hsh
  unfold shortB at hb
  simp only [Bool.and_eq_true, decide_eq_true_eq, sumSz, sumLn, List.map_cons, List.map_nil, List.sum_cons, List.sum_nil] at hb
  have h1 := linesB_length s
  have h2 := linesB_length t
  have h3 := lines_nls s
  have h4 := lines_nls t
  have hs : s.size ≤ 2147483647 := by omega
  have ht : t.size ≤ 2147483647 := by omega
  have HE := hide (fun W => iEdits_any s t (by omega) (by omega) W)
  have HL := hide (show (linesB s).length + (linesB t).length ≤ 1000 by omega)
  have ht2 : t.size ≤ 100000 := by omega
  have HS := hide (fun W => lines_any s hs W)
  have HT := hide (fun W => lines_any t ht W)
  unfold LinesRes at HS HT
  obtain ⟨M, hM⟩ : ∃ M, (linesB s).length = M := ⟨_, rfl⟩
  obtain ⟨N, hN⟩ : ∃ N, (linesB t).length = N := ⟨_, rfl⟩
  rw [hM] at HS HL
  rw [hN] at HT HL
  have HM := hide hM
  have HN := hide hN
  have hMN : M + N ≤ 1000 := HL.out
  clear hsh hb h1 h2 h3 h4 hM hN HL
  go_enter Try.func6, Try.ntmps6
  go_wp2_with fail
  refine (isShort_any _ _ [s, t] (by simp) (by simp; omega) _ (Strs.blk (Blk.newAt (by simp)) rfl)).mono ?_
  rintro e w1 ⟨rfl, rfl⟩
  rw [HF.out]
  go_wp2_with fail
  refine (HS.out _).mono ?_
  rintro e w1 ⟨A1, c1, rfl, _, hA1, hb1⟩
  have hbl1 : Below w.heap.size w w1 := Below.trans (by go_grown) (hb1.mono (by simp))
  go_wp2_with fail
  refine (HT.out _).mono ?_
  rintro e w2 ⟨A2, c2, rfl, _, hA2, hb2⟩
  have hbl2 := hbl1.trans (hb2.mono hbl1.size)
  have HA1 := hide (hA1.kept hb2)
  have HA2 := hide hA2
  clear hA1 hA2 hb1 hb2 HS HT
  go_wp2_with fail
  refine (HE.out _).mono ?_
  rintro e w3 ⟨ops, D, A, c, hscr, hcost, hhit, hnh, rfl, hr, hlen, hb3⟩
  have hbl3 := hbl2.trans (hb3.mono hbl2.size)
  have HA1' := hide (HA1.out.kept hb3)
  have HA2' := hide (HA2.out.kept hb3)
  have HD := hide (cost_lcs hhit hnh)
  have hasc := script_asc hscr
  rw [HM.out, HN.out] at hlen hasc HD
  have HAsc := hide hasc
  have HR := hide hr
  have HC := hide hcost
  have hD : D ≤ 1000 := by have := HD.out; omega
  clear hscr hcost hhit hnh hr hb3 hasc HE HA1 HA2
  go_wp2_with fail
  go_loopw [7, 32] (fun mv jv wr => ∃ j : Nat, jv = .int .i64 j ∧ mv = .int .i64 (cost (ops.take j) : Nat) ∧ j ≤ ops.length ∧ Hid (Below w3.heap.size w3 wr)) (fun _ jv _ => ops.length - (intOf jv).toNat)
  case atStart => exact ⟨0, rfl, rfl, Nat.zero_le _, hide (Below.refl _ _)⟩
  case round =>
    obtain ⟨j, rfl, rfl, hj, hcr⟩ := hrel
    by_cases hlt : j < ops.length
    · have hrows := HR.out.kept hcr.out
      have hjl : j < ((ops.map (peOf (linesB t))).map peCells).length := by simpa using hlt
      obtain ⟨b, o, rfl, h0⟩ := hrows j 0 hjl (by omega)
      have hcl : ∀ i, i < 7 → wr.cell? ⟨b, o + j * 7 + i, none⟩ = some ((peCells (peOf (linesB t) ops[j])).getD i undef) := by
        intro i hi
        obtain ⟨b', o', e, h⟩ := hrows j i hjl hi
        injection e with e
        injection e with e1 e2
        subst e1; subst e2
        rw [Nat.add_assoc, h]
        simp [List.getD_eq_getElem?_getD, List.getElem?_eq_getElem hlt]
      have hok := (HAsc.out j hlt).1
      have hend := hok.end_le
      have hsz := opText_size (t := t) (x := M) (by rw [HN.out]; exact hok)
      have hlin := op_lines (t := t) (x := M) (by rw [HN.out]; exact hok)
      have hct := cost_take ops j hlt
      have hcl2 := cost_take_le ops (j + 1)
      rw [HC.out] at hcl2
      obtain ⟨op, hop⟩ : ∃ op, ops[j] = op := ⟨_, rfl⟩
      rw [hop] at hcl hend hsz hlin hct
      unfold peOf peCells at hcl
      dsimp only at hcl
      obtain ⟨x, hx⟩ : ∃ x, opText (linesB t) op = x := ⟨_, rfl⟩
      rw [hx] at hcl hsz hlin
      have HLn := hide (fun W => (lines_any x (by omega) W).mono (R' := fun e w' => ∃ A c, e = .returned (.slice A (linesB x).length c) ∧ Below W.heap.size W w') (by rintro e w' ⟨A, c, q1, _, _, q2⟩; exact ⟨A, c, q1, q2⟩))
      generalize hq : (linesB x).length = q at *
      generalize ha : oS op = a at *
      generalize ha2 : oE op = a2 at *
      generalize hco : opC op = co at *
      obtain ⟨d, hd⟩ : ∃ d, d = a2 - a := ⟨_, rfl⟩
      obtain ⟨m, hm⟩ : ∃ m, cost (ops.take j) = m := ⟨_, rfl⟩
      obtain ⟨m2, hm2⟩ : ∃ m2, cost (ops.take (j + 1)) = m2 := ⟨_, rfl⟩
      rw [hm, hm2] at hct
      rw [hm2] at hcl2
      rw [hm]
      have d0 := hcl 0 (by omega)
      have d1 := hcl 1 (by omega)
      have d2 := hcl 2 (by omega)
      have d3 := hcl 3 (by omega)
      have d4 := hcl 4 (by omega)
      have d5 := hcl 5 (by omega)
      have d6 := hcl 6 (by omega)
      simp at d0 d1 d2 d3 d4 d5 d6
      have s1 : IntKind.i64.wrap ((a2 : Int) + 1 - ((a : Int) + 1)) = (d : Int) := by rw [IntWalk.i64_in _ (by omega)]; omega
      have s2 : IntKind.i64.wrap ((d : Int) + (q : Int)) = (co : Int) := by rw [IntWalk.i64_in _ (by omega)]; omega
      have s3 : IntKind.i64.wrap ((m : Int) + (co : Int)) = (m2 : Int) := by rw [IntWalk.i64_in _ (by omega)]; omega
      have HM2 := hide hm2
      have HB := hide hcr.out
      have jn : (j : Int) < (ops.length : Int) := by omega
      clear hcl h0 hrows hcr hok hend hsz hlin hct hcl2 hop hx hq ha ha2 hco hd hm hm2 hjl
      go_upto_region 10 with fail
      refine wp_gen ?_
      intro W hW
      have hbW : Below wr.heap.size wr W := by rw [hW]; go_grown
      have k7 : Blk W wr.heap.size 38 #[.int .i64 ((a : Int) + 1), .int .i64 1, .int .i64 (co1 a), .int .i64 ((a2 : Int) + 1), .int .i64 1, .int .i64 (co1 a2), .string x] := by rw [hW]; exact Blk.new _ _ _
      have lt7 := k7.lt
      have f7 := k7.seven
      clear hW k7 d0 d1 d2 d3 d4 d5 d6
      go_region_held3 (fun w' => (∀ b o, b < W.heap.size → w'.cell? ⟨b, o, none⟩ = W.cell? ⟨b, o, none⟩) ∧ W.heap.size ≤ w'.heap.size ∧ Below (W.heap.size) W w')
    (first
      | (with_reducible exact SB.start (by omega))
      | (go_split_ands; (with_reducible refine SB.call ?_ hb); exact ⟨by assumption, by assumption, by assumption⟩))
    (first
      | (go_at_call 21; refine (HLn.out _).mono ?_; rintro e w1 ⟨A5, c5, rfl, hb⟩))
      have hbw : Below W.heap.size W w1 := by (go_split_ands; assumption)
      clear hb f7
      have HB2 := hide ((HB.out.trans (hbW.mono HB.out.size)).trans (hbw.mono (Nat.le_trans HB.out.size hbW.size)))
      go_wp2
      go_roundw
      case rel => exact ⟨j + 1, by go_num, by rw [HM2.out], by omega, HB2⟩
      case measure => simp [intOf]; omega
    · have : j = ops.length := by omega
      subst this
      have hm : cost (ops.take ops.length) = D := by rw [List.take_length]; exact HC.out
      rw [hm]
      have hblr := hbl3.trans (hcr.out.mono hbl3.size)
      have HA1r := hide (HA1'.out.kept hcr.out)
      have HA2r := hide (HA2'.out.kept hcr.out)
      obtain ⟨K, hK⟩ : ∃ K, lcs (eqL (linesB s) (linesB t)) M N = K := ⟨_, rfl⟩
      have hDK := HD.out
      rw [hK] at hDK
      have HCm := hide (fun W h1 h2 => common_any (linesB s) (linesB t) A1 A2 c1 c2 M N HM.out HN.out (by omega) (by omega) W h1 h2)
      rw [hK] at HCm
      have hfin : ((D : Int) == (M : Int) + (N : Int) - 2 * (K : Int)) = true := by simp; omega
      have hKb : K ≤ 1000 := by omega
      clear hm hcr hK hDK HA1' HA2' HD HAsc HR
      go_wp2_with fail
      refine (works_any _).mono ?_
      rintro e w4 ⟨rfl, hb4⟩
      have hbl4 := hblr.trans (hb4.mono hblr.size)
      go_wp2_with fail
      refine (HCm.out _ (HA1r.out.kept hb4) (HA2r.out.kept hb4)).mono ?_
      rintro e w5 ⟨rfl, hb5⟩
      have hbl5 := hbl4.trans (hb5.mono hbl4.size)
      clear hb4 hb5 HCm
      go_wp2
      go_ret
      exact ⟨rfl, hbl5⟩

set_option maxHeartbeats 2000000 in
theorem walk (s t : ByteArray) (w : World) :
    Calls Try.prog 6 #[.string s, .string t] w fun e w' => e = .returned (.bool true) ∧ Below w.heap.size w w' := by
  by_cases h1 : (2147483647 : Int) < (s.size : Int)
  · go_enter Try.func6, Try.ntmps6
    go_wp2
    go_ret
    exact ⟨rfl, by go_grown⟩
  · have hs : s.size ≤ 2147483647 := by omega
    by_cases h2 : (2147483647 : Int) < (t.size : Int)
    · go_enter Try.func6, Try.ntmps6
      go_wp2
      go_ret
      exact ⟨rfl, by go_grown⟩
    · have ht : t.size ≤ 2147483647 := by omega
      cases hsh : shortB [s, t]
      · have HF := hide hsh
        clear hsh
        go_enter Try.func6, Try.ntmps6
        go_wp2_with fail
        refine (isShort_any _ _ [s, t] (by simp) (by simp; omega) _ (Strs.blk (Blk.newAt (by simp)) rfl)).mono ?_
        rintro e w1 ⟨rfl, rfl⟩
        rw [HF.out]
        go_wp2_with fail
        refine (works_any _).mono ?_
        rintro e w1 ⟨rfl, hb1⟩
        have hbl1 : Below w.heap.size w w1 := Below.trans (by go_grown) (hb1.mono (by simp))
        go_wp2
        go_ret
        exact ⟨rfl, by go_grown⟩
      · exact near s t hsh w

theorem own : ownKnob Try.prog.godebug = none := by kernel_rfl
theorem laidOut : laidOutB Try.prog = true := by kernel_rfl
set_option maxRecDepth 100000 in
set_option maxHeartbeats 1000000 in
theorem lifted (os : Os) (started : os.Started) (H : Type) (enc : TypeId × Value → H) :
    ReturnsInHanded {} Try.checked os 6 .any (Rows.fnShortestSpec.pre6 enc Try.prog Try.f6 Rows.fnShortestRow.domain false) (Rows.fnShortestSpec.post enc Try.prog Try.f6 false true false false) := by
  refine returnsInHanded_of_change (C := Try.checked) own started (by kernel_rfl) Try.func6
    (ChangeSpec.witness6 (enc := enc) (C := Try.checked) false ⟨#[], #[.string ⟨#[]⟩, .string ⟨#[]⟩], []⟩ 8 (by kernel_rfl) (by kernel_rfl) (by kernel_rfl) (by kernel_rfl)) ?_
  intro W base args ds gs before hval0 hW hcnd _
  have hval : ∀ (j : Nat) t v, Try.f6.params[j]? = some t → args[j]? = some v → Value.okWide Try.prog W .any base t v := hval0
  have hW' := hW
  obtain ⟨p, q, hA0, hV, rfl, hfz, hnd⟩ := hW
  have hA : DataW.TrodAll enc Try.prog W 0 (fun _ => true) true Try.f6.params.toList args.toList ds p := hA0
  rw [Try.params6] at hA hval
  obtain ⟨v0, vs0, d0, ds0, p0, q0, hargs, rfl, rfl, h0, r0⟩ := trodAll_cons hA
  obtain ⟨v1, vs1, d1, ds1, p1, q1, rfl, rfl, rfl, h1, r1⟩ := trodAll_cons r0
  obtain ⟨rfl, rfl, rfl⟩ := trodAll_nil r1
  obtain rfl : args = #[v0, v1] := by cases args; simp_all
  obtain ⟨rfl, rfl⟩ := trodVars_none hV
  have k0 := h0
  have lt0 : ∀ x ∈ p0, x.block < W.heap.size := by obtain ⟨m, hm⟩ := k0; exact DataW.trod_lt m _ _ _ hm
  obtain ⟨s, rfl, rfl, rfl, w_s⟩ := open_string Try.underlying9 (hval 0 9 v0 rfl rfl) h0
  have k1 := h1
  have lt1 : ∀ x ∈ p1, x.block < W.heap.size := by obtain ⟨m, hm⟩ := k1; exact DataW.trod_lt m _ _ _ hm
  obtain ⟨t, rfl, rfl, rfl, w_t⟩ := open_string Try.underlying9 (hval 1 9 v1 rfl rfl) h1
  clear hA0 hval0
  refine (walk s t W).mono fun e W' ⟨he, bel⟩ => ?_
  subst he
  exact ⟨_, rfl, _, _, _, [], _, [], hW', trodAll_mk1 (shut_bool Try.underlying4 _), (trodAll_cons_mk (Below.trod laidOut (by kernel_rfl) (of_decide_eq_true (by kernel_rfl)) k0 bel lt0) (trodAll_cons_mk (Below.trod laidOut (by kernel_rfl) (of_decide_eq_true (by kernel_rfl)) k1 bel lt1) trodAll_mk0)), rfl, bel.frame _, fun h => by cases h⟩

theorem over : Rows.fnShortestRow.holds Try.pinned (OpenSpec.ofChange Rows.fnShortestSpec) :=
  OpenClaim.holds_of_wide 6 Try.f6 rfl rfl rfl rfl rfl rfl rfl ⟨rfl, rfl, rfl, rfl, rfl⟩ rfl rfl rfl rfl rfl (by kernel_rfl) Try.func6 (by kernel_rfl)
    (of_decide_eq_true (by kernel_rfl)) (by unfold Func.isWrapper; rw [if_neg (of_decide_eq_false (by kernel_rfl))]; exact ⟨rfl, rfl⟩)
    (fun os started H enc _ => lifted os started H enc)

/-- The statement. -/
theorem proved : Rows.FnShortestSaid := over
#print axioms proved
end Go.Proofs.Ytgegialfhkgggaa.FnShortestProof
