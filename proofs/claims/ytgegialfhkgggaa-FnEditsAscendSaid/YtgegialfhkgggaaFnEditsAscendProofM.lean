/- The statement FnEditsAscend: the edits are of full lines, each behind the one before, and each leaves something out or puts something in. For every input. -/
import Derived.Test.YtgegialfhkgggaaRows
import Derived.Test.YtgegialfhkgggaaPi
import Derived.Test.YtgegialfhkgggaaPb
import Derived.ProofKit
import Derived.OpenShut
import Derived.ShutString
import Derived.ChangeOld
import Derived.Lib.SmallJoins
set_option linter.unusedVariables false
set_option linter.unusedSimpArgs false
namespace Go.Proofs.Ytgegialfhkgggaa.FnEditsAscendProof
open Go.ChangeShapes Go.WideShapes Go.ChangeAt Go.RowKit
open Go.ChangeMaps (open_string shut_string)
set_option linter.unusedVariables false
open Go.Proofs.Ytgegialfhkgggaa.Lines Mye
attribute [local go_sem ↓] Go.wp_at_zero Go.wp_at_succ

theorem below_drew_of {W w1 : World} (hb : Below W.drew.heap.size W.drew w1) : Below W.heap.size W w1 := ⟨hb.os, hb.tape, hb.output, hb.size, hb.block⟩
/-- Where the edit before ends. -/
def lastE (ops : List Opn) : Nat → Nat
  | 0 => 0
  | j + 1 => (ops[j]?.map oE).getD 0
theorem lastE_succ {ops : List Opn} {j : Nat} (h : j < ops.length) : lastE ops (j + 1) = oE ops[j] := by
  show (ops[j]?.map oE).getD 0 = _; rw [List.getElem?_eq_getElem h]; rfl
theorem lastE_le {ops : List Opn} {x y : Nat} (h : Asc ops x y) {j : Nat} (hj : j < ops.length) : lastE ops j ≤ oS ops[j] := by
  cases j with
  | zero => exact Nat.zero_le _
  | succ j => rw [lastE_succ (by omega)]; exact (h j (by omega)).2 hj

set_option maxHeartbeats 8000000 in
set_option maxRecDepth 100000 in
theorem near (s t : ByteArray) (hsh : shortB [s, t] = true) (w : World) :
    Calls Try.prog 5 #[.string s, .string t] w fun e w' => e = .returned (.bool true) ∧ Below w.heap.size w w' := by
  have HF := hide hsh
  have hb := hsh
  unfold shortB at hb
  simp only [Bool.and_eq_true, decide_eq_true_eq, sumSz, sumLn, List.map_cons, List.map_nil, List.sum_cons, List.sum_nil] at hb
  have h1 := linesB_length s
  have h2 := linesB_length t
  have h3 := lines_nls s
  have h4 := lines_nls t
  have hs : s.size ≤ 2147483647 := by omega
  have ht : t.size ≤ 2147483647 := by omega
  have HE := hide (fun W => iEdits_any s t (by omega) (by omega) W)
  have HL := hide (show (linesB s).length + (linesB t).length ≤ 1000 by omega)
  have ht2 : t.size ≤ 100000 := by omega
  have HS := hide (fun W => lines_any s hs W)
  unfold LinesRes at HS
  obtain ⟨M, hM⟩ : ∃ M, (linesB s).length = M := ⟨_, rfl⟩
  obtain ⟨N, hN⟩ : ∃ N, (linesB t).length = N := ⟨_, rfl⟩
  rw [hM] at HS HL
  rw [hN] at HL
  have HM := hide hM
  have HN := hide hN
  have hMN : M + N ≤ 1000 := HL.out
  clear hsh hb h1 h2 h3 h4 hM hN HL
  go_enter Try.func5, Try.ntmps5
  go_wp2_with fail
  refine (isShort_any _ _ [s, t] (by simp) (by simp; omega) _ (Strs.blk (Blk.newAt (by simp)) rfl)).mono ?_
  rintro e w1 ⟨rfl, rfl⟩
  rw [HF.out]
  go_wp2_with fail
  refine (HE.out _).mono ?_
  rintro e w3 ⟨ops, D, A, c, hscr, _, _, _, rfl, hr, hlen, hb3⟩
  have hbl3 : Below w.heap.size w w3 := Below.trans (by go_grown) (hb3.mono (by simp))
  have hasc := script_asc hscr
  rw [HM.out, HN.out] at hlen hasc
  have HAsc := hide hasc
  have HR := hide hr
  have HLn := hide (fun W => (HS.out W).mono (R' := fun e w' => ∃ A c, e = .returned (.slice A M c) ∧ Below W.heap.size W w') (by rintro e w' ⟨A, c, q1, _, _, q2⟩; exact ⟨A, c, q1, q2⟩))
  clear hscr hr hb3 hasc HE HS
  go_wp2_with fail
  go_loopw [5, 26] (fun mv jv wr => ∃ j : Nat, jv = .int .i64 j ∧ mv = .int .i64 ((lastE ops j : Nat) + 1 : Int) ∧ j ≤ ops.length ∧ Hid (Below w3.heap.size w3 wr)) (fun _ jv _ => ops.length - (intOf jv).toNat)
  case atStart => exact ⟨0, rfl, rfl, Nat.zero_le _, hide (Below.refl _ _)⟩
  case round =>
    obtain ⟨j, rfl, rfl, hj, hcr⟩ := hrel
    by_cases hlt : j < ops.length
    · have hrows := HR.out.kept hcr.out
      have hjl : j < ((ops.map (peOf (linesB t))).map peCells).length := by simpa using hlt
      obtain ⟨b, o, rfl, h0⟩ := hrows j 0 hjl (by omega)
      have hcl : ∀ i, i < 7 → wr.cell? ⟨b, o + j * 7 + i, none⟩ = some ((peCells (peOf (linesB t) ops[j])).getD i undef) := by
        intro i hi
        obtain ⟨b', o', e, h⟩ := hrows j i hjl hi
        injection e with e
        injection e with e1 e2
        subst e1; subst e2
        rw [Nat.add_assoc, h]
        simp [List.getD_eq_getElem?_getD, List.getElem?_eq_getElem hlt]
      have hok := (HAsc.out j hlt).1
      have hend := hok.end_le
      have hls := lastE_le HAsc.out hlt
      have hsu := lastE_succ hlt
      have hct := (HAsc.out j hlt).1
      obtain ⟨op, hop⟩ : ∃ op, ops[j] = op := ⟨_, rfl⟩
      rw [hop] at hcl hend hls hsu hct hok
      unfold peOf peCells at hcl
      dsimp only at hcl
      obtain ⟨m, hm⟩ : ∃ m, lastE ops j = m := ⟨_, rfl⟩
      rw [hm] at hls
      rw [hm]
      have HSu := hide hsu
      have HB := hide hcr.out
      have jn : (j : Int) < (ops.length : Int) := by omega
      cases op with
      | del a a2 y =>
        simp only [oS, oE] at hcl hend hls HSu
        obtain ⟨q1, q2, q3⟩ := hct
        obtain ⟨x, hx⟩ : ∃ x, opText (linesB t) (Opn.del a a2 y) = x := ⟨_, rfl⟩
        rw [hx] at hcl
        clear hx
        have d0 := hcl 0 (by omega)
        have d1 := hcl 1 (by omega)
        have d2 := hcl 2 (by omega)
        have d3 := hcl 3 (by omega)
        have d4 := hcl 4 (by omega)
        have d5 := hcl 5 (by omega)
        have d6 := hcl 6 (by omega)
        simp at d0 d1 d2 d3 d4 d5 d6
        obtain ⟨La, hLa⟩ : ∃ v, v = (a : Int) + 1 := ⟨_, rfl⟩
        obtain ⟨Lb, hLb⟩ : ∃ v, v = (a2 : Int) + 1 := ⟨_, rfl⟩
        obtain ⟨Lm, hLm⟩ : ∃ v, v = (m : Int) + 1 := ⟨_, rfl⟩
        rw [← hLa] at d0
        rw [← hLb] at d3
        rw [← hLm]
        have t1 : decide (La < Lm) = false := by simp; omega
        have t2 : decide (Lb < La) = false := by simp; omega
        obtain ⟨Mp, hMp⟩ : ∃ v, v = (M : Int) + 1 := ⟨_, rfl⟩
        have s1 : IntKind.i64.wrap ((M : Int) + 1) = Mp := by rw [IntWalk.i64_in _ (by omega)]; omega
        have t3 : decide (Mp < Lb) = false := by simp; omega
        have t4 : (La == Lb) = false := by simp; omega
        have HLb := hide hLb
        clear hcl h0 hrows hcr hok hend hop hls hsu hm q1 q2 q3 hjl hLa hLb hLm hMp
        go_upto_region 9 with fail
        refine wp_gen ?_
        intro W hW
        have hbW : Below wr.heap.size wr W := by rw [hW]; go_grown
        have k7 : Blk W wr.heap.size 38 #[.int .i64 La, .int .i64 1, .int .i64 (co1 a), .int .i64 Lb, .int .i64 1, .int .i64 (co1 a2), .string x] := by rw [hW]; exact Blk.new _ _ _
        have lt7 := k7.lt
        have f7 := k7.seven
        have K7 := hide k7
        clear hW k7 d0 d1 d2 d3 d4 d5 d6
        refine wp_region_held_drew (S := fun w' => (∀ b o, b < W.heap.size → w'.cell? ⟨b, o, none⟩ = W.cell? ⟨b, o, none⟩) ∧ W.heap.size ≤ w'.heap.size ∧ Below W.heap.size W w') (by kernel_rfl) (by with_reducible exact SB.start (by omega)) (fun hHeld => ?_)
        refine wpAnyH_take (i := 0) (oi := ?o0) (v := ?v0) ?hi0 (by kernel_rfl) (by kernel_rfl) (by kernel_rfl) ?hq0 ?hy0 (by assumption) ?rest0
        case hi0 => (simp only [List.getElem?_toArray, List.getElem?_cons_zero, List.getElem?_cons_succ]; rfl)
        case hq0 => exact fun _ _ _ h => h
        case hy0 => (refine Or.inl ⟨rfl, ?_⟩; intro w hSw; (try dsimp only at hSw); go_split_ands; (first | (go_simp; done) | (go_simp; with_reducible rfl)))
        simp only [Act.put, List.setIfInBounds_toArray, List.set_cons_zero, List.set_cons_succ]
        refine wpAnyH_take (i := 1) (oi := ?o1) (v := ?v1) ?hi1 (by kernel_rfl) (by kernel_rfl) (by kernel_rfl) ?hq1 ?hy1 (by assumption) ?rest1
        case hi1 => (simp only [List.getElem?_toArray, List.getElem?_cons_zero, List.getElem?_cons_succ]; rfl)
        case hq1 => exact fun _ _ _ h => h
        case hy1 => (refine Or.inl ⟨rfl, ?_⟩; intro w hSw; (try dsimp only at hSw); go_split_ands; (first | (go_simp; done) | (go_simp; with_reducible rfl)))
        simp only [Act.put, List.setIfInBounds_toArray, List.set_cons_zero, List.set_cons_succ]
        refine wpAnyH_take (i := 2) (oi := ?o2) (v := ?v2) ?hi2 (by kernel_rfl) (by kernel_rfl) (by kernel_rfl) ?hq2 ?hy2 (by assumption) ?rest2
        case hi2 => (simp only [List.getElem?_toArray, List.getElem?_cons_zero, List.getElem?_cons_succ]; rfl)
        case hq2 => exact fun _ _ _ h => h
        case hy2 => (refine Or.inl ⟨rfl, ?_⟩; intro w hSw; (try dsimp only at hSw); go_split_ands; (first | (go_simp; done) | (go_simp; with_reducible rfl)))
        simp only [Act.put, List.setIfInBounds_toArray, List.set_cons_zero, List.set_cons_succ]
        refine wpAnyH_take (i := 3) (oi := ?o3) (v := ?v3) ?hi3 (by kernel_rfl) (by kernel_rfl) (by kernel_rfl) ?hq3 ?hy3 (by assumption) ?rest3
        case hi3 => (simp only [List.getElem?_toArray, List.getElem?_cons_zero, List.getElem?_cons_succ]; rfl)
        case hq3 => exact fun _ _ _ h => h
        case hy3 => (refine Or.inl ⟨rfl, ?_⟩; intro w hSw; (try dsimp only at hSw); go_split_ands; (first | (go_simp; done) | (go_simp; with_reducible rfl)))
        simp only [Act.put, List.setIfInBounds_toArray, List.set_cons_zero, List.set_cons_succ]
        refine wpAnyH_take (i := 4) (oi := ?o4) (v := ?v4) ?hi4 (by kernel_rfl) (by kernel_rfl) (by kernel_rfl) ?hq4 ?hy4 (by assumption) ?rest4
        case hi4 => (simp only [List.getElem?_toArray, List.getElem?_cons_zero, List.getElem?_cons_succ]; rfl)
        case hq4 => exact fun _ _ _ h => h
        case hy4 => (refine Or.inl ⟨rfl, ?_⟩; intro w hSw; (try dsimp only at hSw); go_split_ands; (first | (go_simp; done) | (go_simp; with_reducible rfl)))
        simp only [Act.put, List.setIfInBounds_toArray, List.set_cons_zero, List.set_cons_succ]
        refine wpAnyH_take (i := 5) (oi := ?o5) (v := ?v5) ?hi5 (by kernel_rfl) (by kernel_rfl) (by kernel_rfl) ?hq5 ?hy5 (by assumption) ?rest5
        case hi5 => (simp only [List.getElem?_toArray, List.getElem?_cons_zero, List.getElem?_cons_succ]; rfl)
        case hq5 => exact fun _ _ _ h => h
        case hy5 => (refine Or.inl ⟨rfl, ?_⟩; intro w hSw; (try dsimp only at hSw); go_split_ands; (first | (go_simp; done) | (go_simp; with_reducible rfl)))
        simp only [Act.put, List.setIfInBounds_toArray, List.set_cons_zero, List.set_cons_succ]
        refine wpAnyH_take (i := 6) (oi := ?o6) (v := ?v6) ?hi6 (by kernel_rfl) (by kernel_rfl) (by kernel_rfl) ?hq6 ?hy6 (by assumption) ?rest6
        case hi6 => (simp only [List.getElem?_toArray, List.getElem?_cons_zero, List.getElem?_cons_succ]; rfl)
        case hq6 => exact fun _ _ _ h => h
        case hy6 => (refine Or.inl ⟨rfl, ?_⟩; intro w hSw; (try dsimp only at hSw); go_split_ands; (first | (go_simp; done) | (go_simp; with_reducible rfl)))
        simp only [Act.put, List.setIfInBounds_toArray, List.set_cons_zero, List.set_cons_succ]
        refine wpAnyH_take (i := 7) (oi := ?o7) (v := ?v7) ?hi7 (by kernel_rfl) (by kernel_rfl) (by kernel_rfl) ?hq7 ?hy7 (by assumption) ?rest7
        case hi7 => (simp only [List.getElem?_toArray, List.getElem?_cons_zero, List.getElem?_cons_succ]; rfl)
        case hq7 => exact fun _ _ _ h => h
        case hy7 => (refine Or.inl ⟨rfl, ?_⟩; intro w hSw; (try dsimp only at hSw); go_split_ands; (first | (go_simp; done) | (go_simp; with_reducible rfl)))
        simp only [Act.put, List.setIfInBounds_toArray, List.set_cons_zero, List.set_cons_succ]
        refine wpAnyH_take (i := 8) (oi := ?o8) (v := ?v8) ?hi8 (by kernel_rfl) (by kernel_rfl) (by kernel_rfl) ?hq8 ?hy8 (by assumption) ?rest8
        case hi8 => (simp only [List.getElem?_toArray, List.getElem?_cons_zero, List.getElem?_cons_succ]; rfl)
        case hq8 => exact fun _ _ _ h => h
        case hy8 => (refine Or.inl ⟨rfl, ?_⟩; intro w hSw; (try dsimp only at hSw); go_split_ands; (first | (go_simp; done) | (go_simp; with_reducible rfl)))
        simp only [Act.put, List.setIfInBounds_toArray, List.set_cons_zero, List.set_cons_succ]
        refine wpAnyH_take (i := 9) (oi := ?o9) (v := ?v9) ?hi9 (by kernel_rfl) (by kernel_rfl) (by kernel_rfl) ?hq9 ?hy9 (by assumption) ?rest9
        case hi9 => (simp only [List.getElem?_toArray, List.getElem?_cons_zero, List.getElem?_cons_succ]; rfl)
        case hq9 => exact fun _ _ _ h => h
        case hy9 => (refine Or.inl ⟨rfl, ?_⟩; intro w hSw; (try dsimp only at hSw); go_split_ands; (first | (go_simp; done) | (go_simp; with_reducible rfl)))
        simp only [Act.put, List.setIfInBounds_toArray, List.set_cons_zero, List.set_cons_succ]
        refine wpAnyH_take (i := 10) (oi := ?o10) (v := ?v10) ?hi10 (by kernel_rfl) (by kernel_rfl) (by kernel_rfl) ?hq10 ?hy10 (by assumption) ?rest10
        case hi10 => (simp only [List.getElem?_toArray, List.getElem?_cons_zero, List.getElem?_cons_succ]; rfl)
        case hq10 => exact fun _ _ _ h => h
        case hy10 => (refine Or.inl ⟨rfl, ?_⟩; intro w hSw; (try dsimp only at hSw); go_split_ands; (first | (go_simp; done) | (go_simp; with_reducible rfl)))
        simp only [Act.put, List.setIfInBounds_toArray, List.set_cons_zero, List.set_cons_succ]
        refine wpAnyH_take (i := 11) (oi := ?o11) (v := ?v11) ?hi11 (by kernel_rfl) (by kernel_rfl) (by kernel_rfl) ?hq11 ?hy11 (by assumption) ?rest11
        case hi11 => (simp only [List.getElem?_toArray, List.getElem?_cons_zero, List.getElem?_cons_succ]; rfl)
        case hq11 => exact fun _ _ _ h => h
        case hy11 => (refine Or.inl ⟨rfl, ?_⟩; intro w hSw; (try dsimp only at hSw); go_split_ands; (first | (go_simp; done) | (go_simp; with_reducible rfl)))
        simp only [Act.put, List.setIfInBounds_toArray, List.set_cons_zero, List.set_cons_succ]
        refine wpAnyH_take (i := 12) (oi := ?o12) (v := ?v12) ?hi12 (by kernel_rfl) (by kernel_rfl) (by kernel_rfl) ?hq12 ?hy12 (by assumption) ?rest12
        case hi12 => (simp only [List.getElem?_toArray, List.getElem?_cons_zero, List.getElem?_cons_succ]; rfl)
        case hq12 => exact fun _ _ _ h => h
        case hy12 => (refine Or.inl ⟨rfl, ?_⟩; intro w hSw; (try dsimp only at hSw); go_split_ands; (first | (go_simp; done) | (go_simp; with_reducible rfl)))
        simp only [Act.put, List.setIfInBounds_toArray, List.set_cons_zero, List.set_cons_succ]
        refine wpAnyH_take (i := 13) (oi := ?o13) (v := ?v13) ?hi13 (by kernel_rfl) (by kernel_rfl) (by kernel_rfl) ?hq13 ?hy13 (by assumption) ?rest13
        case hi13 => (simp only [List.getElem?_toArray, List.getElem?_cons_zero, List.getElem?_cons_succ]; rfl)
        case hq13 => exact fun _ _ _ h => h
        case hy13 => (refine Or.inl ⟨rfl, ?_⟩; intro w hSw; (try dsimp only at hSw); go_split_ands; (first | (go_simp; done) | (go_simp; with_reducible rfl)))
        simp only [Act.put, List.setIfInBounds_toArray, List.set_cons_zero, List.set_cons_succ]
        refine wpAnyH_take (i := 14) (oi := ?o14) (v := ?v14) ?hi14 (by kernel_rfl) (by kernel_rfl) (by kernel_rfl) ?hq14 ?hy14 (by assumption) ?rest14
        case hi14 => (simp only [List.getElem?_toArray, List.getElem?_cons_zero, List.getElem?_cons_succ]; rfl)
        case hq14 => exact fun _ _ _ h => h
        case hy14 => (refine Or.inl ⟨rfl, ?_⟩; intro w hSw; (try dsimp only at hSw); go_split_ands; (first | (go_simp; done) | (go_simp; with_reducible rfl)))
        simp only [Act.put, List.setIfInBounds_toArray, List.set_cons_zero, List.set_cons_succ]
        refine wpAnyH_take (i := 15) (oi := ?o15) (v := ?v15) ?hi15 (by kernel_rfl) (by kernel_rfl) (by kernel_rfl) ?hq15 ?hy15 (by assumption) ?rest15
        case hi15 => (simp only [List.getElem?_toArray, List.getElem?_cons_zero, List.getElem?_cons_succ]; rfl)
        case hq15 => exact fun _ _ _ h => h
        case hy15 => (refine Or.inl ⟨rfl, ?_⟩; intro w hSw; (try dsimp only at hSw); go_split_ands; (first | (go_simp; done) | (go_simp; with_reducible rfl)))
        simp only [Act.put, List.setIfInBounds_toArray, List.set_cons_zero, List.set_cons_succ]
        refine wpAnyH_take (i := 16) (oi := ?o16) (v := ?v16) ?hi16 (by kernel_rfl) (by kernel_rfl) (by kernel_rfl) ?hq16 ?hy16 (by assumption) ?rest16
        case hi16 => (simp only [List.getElem?_toArray, List.getElem?_cons_zero, List.getElem?_cons_succ]; rfl)
        case hq16 => exact fun _ _ _ h => h
        case hy16 => (refine Or.inl ⟨rfl, ?_⟩; intro w hSw; (try dsimp only at hSw); go_split_ands; (first | (go_simp; done) | (go_simp; with_reducible rfl)))
        simp only [Act.put, List.setIfInBounds_toArray, List.set_cons_zero, List.set_cons_succ]
        refine wpAnyH_take (i := 17) (oi := ?o17) (v := ?v17) ?hi17 (by kernel_rfl) (by kernel_rfl) (by kernel_rfl) ?hq17 ?hy17 (by assumption) ?rest17
        case hi17 => (simp only [List.getElem?_toArray, List.getElem?_cons_zero, List.getElem?_cons_succ]; rfl)
        case hq17 => exact fun _ _ _ h => h
        case hy17 => (refine Or.inl ⟨rfl, ?_⟩; intro w hSw; (try dsimp only at hSw); go_split_ands; (first | (go_simp; done) | (go_simp; with_reducible rfl)))
        simp only [Act.put, List.setIfInBounds_toArray, List.set_cons_zero, List.set_cons_succ]
        refine wpAnyH_take (i := 18) (oi := ?o18) (v := ?v18) ?hi18 (by kernel_rfl) (by kernel_rfl) (by kernel_rfl) ?hq18 ?hy18 (by assumption) ?rest18
        case hi18 => (simp only [List.getElem?_toArray, List.getElem?_cons_zero, List.getElem?_cons_succ]; rfl)
        case hq18 => exact fun _ _ _ h => h
        case hy18 => (refine Or.inl ⟨rfl, ?_⟩; intro w hSw; (try dsimp only at hSw); go_split_ands; (first | (go_simp; done) | (go_simp; with_reducible rfl)))
        simp only [Act.put, List.setIfInBounds_toArray, List.set_cons_zero, List.set_cons_succ]
        refine wpAnyH_take (i := 19) (oi := ?o19) (v := ?v19) ?hi19 (by kernel_rfl) (by kernel_rfl) (by kernel_rfl) ?hq19 ?hy19 (by assumption) ?rest19
        case hi19 => (simp only [List.getElem?_toArray, List.getElem?_cons_zero, List.getElem?_cons_succ]; rfl)
        case hq19 => exact fun _ _ _ h => h
        case hy19 => (refine Or.inl ⟨rfl, ?_⟩; intro w hSw; (try dsimp only at hSw); go_split_ands; (first | (go_simp; done) | (go_simp; with_reducible rfl)))
        simp only [Act.put, List.setIfInBounds_toArray, List.set_cons_zero, List.set_cons_succ]
        refine wpAnyH_take (i := 20) (oi := ?o20) (v := ?v20) ?hi20 (by kernel_rfl) (by kernel_rfl) (by kernel_rfl) ?hq20 ?hy20 (by assumption) ?rest20
        case hi20 => (simp only [List.getElem?_toArray, List.getElem?_cons_zero, List.getElem?_cons_succ]; rfl)
        case hq20 => exact fun _ _ _ h => h
        case hy20 => (refine Or.inl ⟨rfl, ?_⟩; intro w hSw; (try dsimp only at hSw); go_split_ands; (first | (go_simp; done) | (go_simp; with_reducible rfl)))
        simp only [Act.put, List.setIfInBounds_toArray, List.set_cons_zero, List.set_cons_succ]
        refine wpAnyH_take (i := 21) (oi := ?o21) (v := ?v21) ?hi21 (by kernel_rfl) (by kernel_rfl) (by kernel_rfl) ?hq21 ?hy21 (by assumption) ?rest21
        case hi21 => (simp only [List.getElem?_toArray, List.getElem?_cons_zero, List.getElem?_cons_succ]; rfl)
        case hq21 => exact fun _ _ _ h => h
        case hy21 => (refine Or.inl ⟨rfl, ?_⟩; intro w hSw; (try dsimp only at hSw); go_split_ands; (first | (go_simp; done) | (go_simp; with_reducible rfl)))
        simp only [Act.put, List.setIfInBounds_toArray, List.set_cons_zero, List.set_cons_succ]
        refine wpAnyH_take (i := 22) (oi := ?o22) (v := ?v22) ?hi22 (by kernel_rfl) (by kernel_rfl) (by kernel_rfl) ?hq22 ?hy22 (by assumption) ?rest22
        case hi22 => (simp only [List.getElem?_toArray, List.getElem?_cons_zero, List.getElem?_cons_succ]; rfl)
        case hq22 => exact fun _ _ _ h => h
        case hy22 => (refine Or.inl ⟨rfl, ?_⟩; intro w hSw; (try dsimp only at hSw); go_split_ands; (first | (go_simp; done) | (go_simp; with_reducible rfl)))
        simp only [Act.put, List.setIfInBounds_toArray, List.set_cons_zero, List.set_cons_succ]
        refine wpAnyH_take (i := 23) (oi := ?o23) (v := ?v23) ?hi23 (by kernel_rfl) (by kernel_rfl) (by kernel_rfl) ?hq23 ?hy23 (by assumption) ?rest23
        case hi23 => (simp only [List.getElem?_toArray, List.getElem?_cons_zero, List.getElem?_cons_succ]; rfl)
        case hq23 => exact fun _ _ _ h => h
        case hy23 => (refine Or.inl ⟨rfl, ?_⟩; intro w hSw; (try dsimp only at hSw); go_split_ands; (first | (go_simp; done) | (go_simp; with_reducible rfl)))
        simp only [Act.put, List.setIfInBounds_toArray, List.set_cons_zero, List.set_cons_succ]
        refine wpAnyH_take (i := 24) (oi := ?o24) (v := ?v24) ?hi24 (by kernel_rfl) (by kernel_rfl) (by kernel_rfl) ?hq24 ?hy24 (by assumption) ?rest24
        case hi24 => (simp only [List.getElem?_toArray, List.getElem?_cons_zero, List.getElem?_cons_succ]; rfl)
        case hq24 => exact fun _ _ _ h => h
        case hy24 => (refine Or.inl ⟨rfl, ?_⟩; intro w hSw; (try dsimp only at hSw); go_split_ands; (first | (go_simp; done) | (go_simp; with_reducible rfl)))
        simp only [Act.put, List.setIfInBounds_toArray, List.set_cons_zero, List.set_cons_succ]
        refine wpAnyH_take (i := 25) (oi := ?o25) (v := ?v25) ?hi25 (by kernel_rfl) (by kernel_rfl) (by kernel_rfl) ?hq25 ?hy25 (by assumption) ?rest25
        case hi25 => (simp only [List.getElem?_toArray, List.getElem?_cons_zero, List.getElem?_cons_succ]; rfl)
        case hq25 => exact fun _ _ _ h => h
        case hy25 => (refine Or.inl ⟨rfl, ?_⟩; intro w hSw; (try dsimp only at hSw); go_split_ands; (first | (go_simp; done) | (go_simp; with_reducible rfl)))
        simp only [Act.put, List.setIfInBounds_toArray, List.set_cons_zero, List.set_cons_succ]
        refine wpAnyH_take (i := 26) (oi := ?o26) (v := ?v26) ?hi26 (by kernel_rfl) (by kernel_rfl) (by kernel_rfl) ?hq26 ?hy26 (by assumption) ?rest26
        case hi26 => (simp only [List.getElem?_toArray, List.getElem?_cons_zero, List.getElem?_cons_succ]; rfl)
        case hq26 => exact fun _ _ _ h => h
        case hy26 => (refine Or.inl ⟨rfl, ?_⟩; intro w hSw; (try dsimp only at hSw); go_split_ands; (first | (go_simp; done) | (go_simp; with_reducible rfl)))
        simp only [Act.put, List.setIfInBounds_toArray, List.set_cons_zero, List.set_cons_succ]
        refine wpAnyH_take (i := 27) (oi := ?o27) (v := ?v27) ?hi27 (by kernel_rfl) (by kernel_rfl) (by kernel_rfl) ?hq27 ?hy27 (by assumption) ?rest27
        case hi27 => (simp only [List.getElem?_toArray, List.getElem?_cons_zero, List.getElem?_cons_succ]; rfl)
        case hq27 => exact fun _ _ _ h => h
        case hy27 => (refine Or.inl ⟨rfl, ?_⟩; intro w hSw; (try dsimp only at hSw); go_split_ands; (first | (go_simp; done) | (go_simp; with_reducible rfl)))
        simp only [Act.put, List.setIfInBounds_toArray, List.set_cons_zero, List.set_cons_succ]
        refine wpAnyH_take (i := 28) (oi := ?o28) (v := ?v28) ?hi28 (by kernel_rfl) (by kernel_rfl) (by kernel_rfl) ?hq28 ?hy28 (by assumption) ?rest28
        case hi28 => (simp only [List.getElem?_toArray, List.getElem?_cons_zero, List.getElem?_cons_succ]; rfl)
        case hq28 => exact fun _ _ _ h => h
        case hy28 => (refine Or.inl ⟨rfl, ?_⟩; intro w hSw; (try dsimp only at hSw); go_split_ands; (first | (go_simp; done) | (go_simp; with_reducible rfl)))
        simp only [Act.put, List.setIfInBounds_toArray, List.set_cons_zero, List.set_cons_succ]
        refine wpAnyH_take (i := 29) (oi := ?o29) (v := ?v29) ?hi29 (by kernel_rfl) (by kernel_rfl) (by kernel_rfl) ?hq29 ?hy29 (by assumption) ?rest29
        case hi29 => (simp only [List.getElem?_toArray, List.getElem?_cons_zero, List.getElem?_cons_succ]; rfl)
        case hq29 => exact fun _ _ _ h => h
        case hy29 => (refine Or.inl ⟨rfl, ?_⟩; intro w hSw; (try dsimp only at hSw); go_split_ands; (first | (go_simp; done) | (go_simp; with_reducible rfl)))
        simp only [Act.put, List.setIfInBounds_toArray, List.set_cons_zero, List.set_cons_succ]
        refine wpAnyH_take (i := 30) (oi := ?o30) (v := ?v30) ?hi30 (by kernel_rfl) (by kernel_rfl) (by kernel_rfl) ?hq30 ?hy30 (by assumption) ?rest30
        case hi30 => (simp only [List.getElem?_toArray, List.getElem?_cons_zero, List.getElem?_cons_succ]; rfl)
        case hq30 => exact fun _ _ _ h => h
        case hy30 => (refine Or.inl ⟨rfl, ?_⟩; intro w hSw; (try dsimp only at hSw); go_split_ands; (first | (go_simp; done) | (go_simp; with_reducible rfl)))
        simp only [Act.put, List.setIfInBounds_toArray, List.set_cons_zero, List.set_cons_succ]
        refine wpAnyH_ready (rs := [31]) (by kernel_rfl) (by simp) ?_
        refine AllReadyH.cons rfl (fun K hK => ?_) AllReadyH.nil
        go_simp
        go_at_call 21
        refine (HLn.out _).mono ?_
        rintro e w1 ⟨A5, c5, rfl, hb⟩
        go_wp2_with fail
        have hbw : Below W.heap.size W w1 := below_drew_of hb
        have f8 := (K7.out.kept hbw).seven
        refine hK.out _ _ (SB.of hbw.size hbw) (fun hHeld2 => ?_)
        clear hK K hHeld
        refine wpAnyH_take (i := 32) (oi := ?o32) (v := ?v32) ?hi32 (by kernel_rfl) (by kernel_rfl) (by kernel_rfl) ?hq32 ?hy32 (by assumption) ?rest32
        case hi32 => (simp only [List.getElem?_toArray, List.getElem?_cons_zero, List.getElem?_cons_succ]; rfl)
        case hq32 => exact fun _ _ _ h => h
        case hy32 => (refine Or.inl ⟨rfl, ?_⟩; intro w hSw; (try dsimp only at hSw); go_split_ands; (first | (go_simp; done) | (go_simp; with_reducible rfl)))
        simp only [Act.put, List.setIfInBounds_toArray, List.set_cons_zero, List.set_cons_succ]
        refine wpAnyH_take (i := 33) (oi := ?o33) (v := ?v33) ?hi33 (by kernel_rfl) (by kernel_rfl) (by kernel_rfl) ?hq33 ?hy33 (by assumption) ?rest33
        case hi33 => (simp only [List.getElem?_toArray, List.getElem?_cons_zero, List.getElem?_cons_succ]; rfl)
        case hq33 => exact fun _ _ _ h => h
        case hy33 => (refine Or.inl ⟨rfl, ?_⟩; intro w hSw; (try dsimp only at hSw); go_split_ands; (first | (go_simp; done) | (go_simp; with_reducible rfl)))
        simp only [Act.put, List.setIfInBounds_toArray, List.set_cons_zero, List.set_cons_succ]
        refine wpAnyH_take (i := 34) (oi := ?o34) (v := ?v34) ?hi34 (by kernel_rfl) (by kernel_rfl) (by kernel_rfl) ?hq34 ?hy34 (by assumption) ?rest34
        case hi34 => (simp only [List.getElem?_toArray, List.getElem?_cons_zero, List.getElem?_cons_succ]; rfl)
        case hq34 => exact fun _ _ _ h => h
        case hy34 => (refine Or.inl ⟨rfl, ?_⟩; intro w hSw; (try dsimp only at hSw); go_split_ands; (first | (go_simp; done) | (go_simp; with_reducible rfl)))
        simp only [Act.put, List.setIfInBounds_toArray, List.set_cons_zero, List.set_cons_succ]
        refine wpAnyH_take (i := 35) (oi := ?o35) (v := ?v35) ?hi35 (by kernel_rfl) (by kernel_rfl) (by kernel_rfl) ?hq35 ?hy35 (by assumption) ?rest35
        case hi35 => (simp only [List.getElem?_toArray, List.getElem?_cons_zero, List.getElem?_cons_succ]; rfl)
        case hq35 => exact fun _ _ _ h => h
        case hy35 => (refine Or.inl ⟨rfl, ?_⟩; intro w hSw; (try dsimp only at hSw); go_split_ands; (first | (go_simp; done) | (go_simp; with_reducible rfl)))
        simp only [Act.put, List.setIfInBounds_toArray, List.set_cons_zero, List.set_cons_succ]
        refine wpAnyH_take (i := 36) (oi := ?o36) (v := ?v36) ?hi36 (by kernel_rfl) (by kernel_rfl) (by kernel_rfl) ?hq36 ?hy36 (by assumption) ?rest36
        case hi36 => (simp only [List.getElem?_toArray, List.getElem?_cons_zero, List.getElem?_cons_succ]; rfl)
        case hq36 => exact fun _ _ _ h => h
        case hy36 => (refine Or.inl ⟨rfl, ?_⟩; intro w hSw; (try dsimp only at hSw); go_split_ands; (first | (go_simp; done) | (go_simp; with_reducible rfl)))
        simp only [Act.put, List.setIfInBounds_toArray, List.set_cons_zero, List.set_cons_succ]
        refine wpAnyH_take (i := 37) (oi := ?o37) (v := ?v37) ?hi37 (by kernel_rfl) (by kernel_rfl) (by kernel_rfl) ?hq37 ?hy37 (by assumption) ?rest37
        case hi37 => (simp only [List.getElem?_toArray, List.getElem?_cons_zero, List.getElem?_cons_succ]; rfl)
        case hq37 => exact fun _ _ _ h => h
        case hy37 => (refine Or.inl ⟨rfl, ?_⟩; intro w hSw; (try dsimp only at hSw); go_split_ands; (first | (go_simp; done) | (go_simp; with_reducible rfl)))
        simp only [Act.put, List.setIfInBounds_toArray, List.set_cons_zero, List.set_cons_succ]
        refine wpAnyH_take (i := 38) (oi := ?o38) (v := ?v38) ?hi38 (by kernel_rfl) (by kernel_rfl) (by kernel_rfl) ?hq38 ?hy38 (by assumption) ?rest38
        case hi38 => (simp only [List.getElem?_toArray, List.getElem?_cons_zero, List.getElem?_cons_succ]; rfl)
        case hq38 => exact fun _ _ _ h => h
        case hy38 => (refine Or.inl ⟨rfl, ?_⟩; intro w hSw; (try dsimp only at hSw); go_split_ands; (first | (go_simp; done) | (go_simp; with_reducible rfl)))
        simp only [Act.put, List.setIfInBounds_toArray, List.set_cons_zero, List.set_cons_succ]
        refine wpAnyH_take (i := 39) (oi := ?o39) (v := ?v39) ?hi39 (by kernel_rfl) (by kernel_rfl) (by kernel_rfl) ?hq39 ?hy39 (by assumption) ?rest39
        case hi39 => (simp only [List.getElem?_toArray, List.getElem?_cons_zero, List.getElem?_cons_succ]; rfl)
        case hq39 => exact fun _ _ _ h => h
        case hy39 => (refine Or.inl ⟨rfl, ?_⟩; intro w hSw; (try dsimp only at hSw); go_split_ands; (first | (go_simp; done) | (go_simp; with_reducible rfl)))
        simp only [Act.put, List.setIfInBounds_toArray, List.set_cons_zero, List.set_cons_succ]
        refine wpAnyH_take (i := 40) (oi := ?o40) (v := ?v40) ?hi40 (by kernel_rfl) (by kernel_rfl) (by kernel_rfl) ?hq40 ?hy40 (by assumption) ?rest40
        case hi40 => (simp only [List.getElem?_toArray, List.getElem?_cons_zero, List.getElem?_cons_succ]; rfl)
        case hq40 => exact fun _ _ _ h => h
        case hy40 => (refine Or.inl ⟨rfl, ?_⟩; intro w hSw; (try dsimp only at hSw); go_split_ands; (first | (go_simp; done) | (go_simp; with_reducible rfl)))
        simp only [Act.put, List.setIfInBounds_toArray, List.set_cons_zero, List.set_cons_succ]
        refine wpAnyH_take (i := 41) (oi := ?o41) (v := ?v41) ?hi41 (by kernel_rfl) (by kernel_rfl) (by kernel_rfl) ?hq41 ?hy41 (by assumption) ?rest41
        case hi41 => (simp only [List.getElem?_toArray, List.getElem?_cons_zero, List.getElem?_cons_succ]; rfl)
        case hq41 => exact fun _ _ _ h => h
        case hy41 => (refine Or.inl ⟨rfl, ?_⟩; intro w hSw; (try dsimp only at hSw); go_split_ands; (first | (go_simp; done) | (go_simp; with_reducible rfl)))
        simp only [Act.put, List.setIfInBounds_toArray, List.set_cons_zero, List.set_cons_succ]
        refine wpAnyH_take (i := 42) (oi := ?o42) (v := ?v42) ?hi42 (by kernel_rfl) (by kernel_rfl) (by kernel_rfl) ?hq42 ?hy42 (by assumption) ?rest42
        case hi42 => (simp only [List.getElem?_toArray, List.getElem?_cons_zero, List.getElem?_cons_succ]; rfl)
        case hq42 => exact fun _ _ _ h => h
        case hy42 => (refine Or.inl ⟨rfl, ?_⟩; intro w hSw; (try dsimp only at hSw); go_split_ands; (first | (go_simp; done) | (go_simp; with_reducible rfl)))
        simp only [Act.put, List.setIfInBounds_toArray, List.set_cons_zero, List.set_cons_succ]
        refine wpAnyH_take (i := 43) (oi := ?o43) (v := undef) ?hi43 (by kernel_rfl) (by kernel_rfl) (by kernel_rfl) ?hq43 ?hy43 (by assumption) ?rest43
        case hi43 => (simp only [List.getElem?_toArray, List.getElem?_cons_zero, List.getElem?_cons_succ]; rfl)
        case hq43 => exact fun _ _ _ h => h
        case hy43 => exact Or.inr ⟨rfl, rfl⟩
        simp only [Act.put, List.setIfInBounds_toArray, List.set_cons_zero, List.set_cons_succ]
        refine wpAnyH_take (i := 44) (oi := ?o44) (v := undef) ?hi44 (by kernel_rfl) (by kernel_rfl) (by kernel_rfl) ?hq44 ?hy44 (by assumption) ?rest44
        case hi44 => (simp only [List.getElem?_toArray, List.getElem?_cons_zero, List.getElem?_cons_succ]; rfl)
        case hq44 => exact fun _ _ _ h => h
        case hy44 => exact Or.inr ⟨rfl, rfl⟩
        simp only [Act.put, List.setIfInBounds_toArray, List.set_cons_zero, List.set_cons_succ]
        refine wpAnyH_take (i := 45) (oi := ?o45) (v := undef) ?hi45 (by kernel_rfl) (by kernel_rfl) (by kernel_rfl) ?hq45 ?hy45 (by assumption) ?rest45
        case hi45 => (simp only [List.getElem?_toArray, List.getElem?_cons_zero, List.getElem?_cons_succ]; rfl)
        case hq45 => exact fun _ _ _ h => h
        case hy45 => exact Or.inr ⟨rfl, rfl⟩
        simp only [Act.put, List.setIfInBounds_toArray, List.set_cons_zero, List.set_cons_succ]
        refine wpAnyH_take (i := 46) (oi := ?o46) (v := ?v46) ?hi46 (by kernel_rfl) (by kernel_rfl) (by kernel_rfl) ?hq46 ?hy46 (by assumption) ?rest46
        case hi46 => (simp only [List.getElem?_toArray, List.getElem?_cons_zero, List.getElem?_cons_succ]; rfl)
        case hq46 => exact fun _ _ _ h => h
        case hy46 => (refine Or.inl ⟨rfl, ?_⟩; intro w hSw; (try dsimp only at hSw); go_split_ands; (first | (go_simp; done) | (go_simp; with_reducible rfl)))
        simp only [Act.put, List.setIfInBounds_toArray, List.set_cons_zero, List.set_cons_succ]
        refine wpAnyH_take (i := 47) (oi := ?o47) (v := ?v47) ?hi47 (by kernel_rfl) (by kernel_rfl) (by kernel_rfl) ?hq47 ?hy47 (by assumption) ?rest47
        case hi47 => (simp only [List.getElem?_toArray, List.getElem?_cons_zero, List.getElem?_cons_succ]; rfl)
        case hq47 => exact fun _ _ _ h => h
        case hy47 => (refine Or.inl ⟨rfl, ?_⟩; intro w hSw; (try dsimp only at hSw); go_split_ands; (first | (go_simp; done) | (go_simp; with_reducible rfl)))
        simp only [Act.put, List.setIfInBounds_toArray, List.set_cons_zero, List.set_cons_succ]
        refine wpAnyH_done (by kernel_rfl) ?_ _
        clear hb
        have HB2 := hide ((HB.out.trans (hbW.mono HB.out.size)).trans (hbw.mono (Nat.le_trans HB.out.size hbW.size)))
        go_wp2
        go_roundw
        case rel => exact ⟨j + 1, by go_num, by rw [HSu.out, HLb.out], by omega, HB2⟩
        case measure => simp [intOf]; omega
      | ins a y z =>
        simp only [oS, oE] at hcl hend hls HSu
        obtain ⟨q1, q2, q3⟩ := hct
        obtain ⟨x, hx⟩ : ∃ x, opText (linesB t) (Opn.ins a y z) = x := ⟨_, rfl⟩
        have hne := (opText_facts t y z q1 (by rw [HN.out]; exact q3)).2.2
        rw [show opText (linesB t) (Opn.ins 0 y z) = opText (linesB t) (Opn.ins a y z) from rfl, hx] at hne
        rw [hx] at hcl
        clear hx
        have d0 := hcl 0 (by omega)
        have d1 := hcl 1 (by omega)
        have d2 := hcl 2 (by omega)
        have d3 := hcl 3 (by omega)
        have d4 := hcl 4 (by omega)
        have d5 := hcl 5 (by omega)
        have d6 := hcl 6 (by omega)
        simp at d0 d1 d2 d3 d4 d5 d6
        obtain ⟨La, hLa⟩ : ∃ v, v = (a : Int) + 1 := ⟨_, rfl⟩
        obtain ⟨Lb, hLb⟩ : ∃ v, v = (a : Int) + 1 := ⟨_, rfl⟩
        obtain ⟨Lm, hLm⟩ : ∃ v, v = (m : Int) + 1 := ⟨_, rfl⟩
        rw [← hLa] at d0
        rw [← hLb] at d3
        rw [← hLm]
        have t1 : decide (La < Lm) = false := by simp; omega
        have t2 : decide (Lb < La) = false := by simp; omega
        obtain ⟨Mp, hMp⟩ : ∃ v, v = (M : Int) + 1 := ⟨_, rfl⟩
        have s1 : IntKind.i64.wrap ((M : Int) + 1) = Mp := by rw [IntWalk.i64_in _ (by omega)]; omega
        have t3 : decide (Mp < Lb) = false := by simp; omega
        obtain rfl : La = Lb := by omega
        have HLb := hide hLb
        have t5 : (x.toList == []) = false := by cases h : x.toList with
          | nil => rw [h] at hne; cases hne
          | cons c r => rfl
        have t5' : x.toList.isEmpty = false := hne
        have t6 : (!x.toList.isEmpty) = true := by rw [hne]; rfl
        clear hcl h0 hrows hcr hok hend hop hls hsu hm q1 q2 q3 hjl hLa hLb hLm hMp
        go_upto_region 9 with fail
        refine wp_gen ?_
        intro W hW
        have hbW : Below wr.heap.size wr W := by rw [hW]; go_grown
        have k7 : Blk W wr.heap.size 38 #[.int .i64 La, .int .i64 1, .int .i64 (co1 a), .int .i64 La, .int .i64 1, .int .i64 (co1 a), .string x] := by rw [hW]; exact Blk.new _ _ _
        have lt7 := k7.lt
        have f7 := k7.seven
        have K7 := hide k7
        clear hW k7 d0 d1 d2 d3 d4 d5 d6
        first
          | (go_region_held3 (fun w' => (∀ b o, b < W.heap.size → w'.cell? ⟨b, o, none⟩ = W.cell? ⟨b, o, none⟩) ∧ W.heap.size ≤ w'.heap.size ∧ Below (W.heap.size) W w')
    (first
      | (with_reducible exact SB.start (by omega))
                 | (go_split_ands; with_reducible exact ⟨by assumption, by assumption, by assumption⟩)
      | (go_split_ands; (with_reducible refine SB.call ?_ hb); exact ⟨by assumption, by assumption, by assumption⟩))
    (first
      | (go_at_call 21; refine (HLn.out _).mono ?_; rintro e w1 ⟨A5, c5, rfl, hb⟩)))
          | fail "held"
        have hbw : Below W.heap.size W w1 := by (go_split_ands; assumption)
        clear hb
        have f8 := (K7.out.kept hbw).seven
        have HB2 := hide ((HB.out.trans (hbW.mono HB.out.size)).trans (hbw.mono (Nat.le_trans HB.out.size hbW.size)))
        go_wp2
        go_roundw
        case rel => exact ⟨j + 1, by go_num, by rw [HSu.out, HLb.out], by omega, HB2⟩
        case measure => simp [intOf]; omega
    · have : j = ops.length := by omega
      subst this
      have hblr := hbl3.trans (hcr.out.mono hbl3.size)
      clear hcr HAsc HR
      go_wp2_with fail
      refine (works_any _).mono ?_
      rintro e w4 ⟨rfl, hb4⟩
      have hbl4 := hblr.trans (hb4.mono hblr.size)
      clear hb4
      go_wp2
      go_ret
      exact ⟨rfl, hbl4⟩

set_option maxHeartbeats 2000000 in
theorem walk (s t : ByteArray) (w : World) :
    Calls Try.prog 5 #[.string s, .string t] w fun e w' => e = .returned (.bool true) ∧ Below w.heap.size w w' := by
  by_cases h1 : (2147483647 : Int) < (s.size : Int)
  · go_enter Try.func5, Try.ntmps5
    go_wp2
    go_ret
    exact ⟨rfl, by go_grown⟩
  · have hs : s.size ≤ 2147483647 := by omega
    by_cases h2 : (2147483647 : Int) < (t.size : Int)
    · go_enter Try.func5, Try.ntmps5
      go_wp2
      go_ret
      exact ⟨rfl, by go_grown⟩
    · have ht : t.size ≤ 2147483647 := by omega
      cases hsh : shortB [s, t]
      · have HF := hide hsh
        clear hsh
        go_enter Try.func5, Try.ntmps5
        go_wp2_with fail
        refine (isShort_any _ _ [s, t] (by simp) (by simp; omega) _ (Strs.blk (Blk.newAt (by simp)) rfl)).mono ?_
        rintro e w1 ⟨rfl, rfl⟩
        rw [HF.out]
        go_wp2_with fail
        refine (works_any _).mono ?_
        rintro e w1 ⟨rfl, hb1⟩
        have hbl1 : Below w.heap.size w w1 := Below.trans (by go_grown) (hb1.mono (by simp))
        go_wp2
        go_ret
        exact ⟨rfl, by go_grown⟩
      · exact near s t hsh w

theorem own : ownKnob Try.prog.godebug = none := by kernel_rfl
theorem laidOut : laidOutB Try.prog = true := by kernel_rfl
set_option maxRecDepth 100000 in
set_option maxHeartbeats 1000000 in
theorem lifted (os : Os) (started : os.Started) (H : Type) (enc : TypeId × Value → H) :
    ReturnsInHanded {} Try.checked os 5 .any (Rows.fnEditsAscendSpec.pre6 enc Try.prog Try.f5 Rows.fnEditsAscendRow.domain false) (Rows.fnEditsAscendSpec.post enc Try.prog Try.f5 false true false false) := by
  refine returnsInHanded_of_change (C := Try.checked) own started (by kernel_rfl) Try.func5
    (ChangeSpec.witness6 (enc := enc) (C := Try.checked) false ⟨#[], #[.string ⟨#[]⟩, .string ⟨#[]⟩], []⟩ 8 (by kernel_rfl) (by kernel_rfl) (by kernel_rfl) (by kernel_rfl)) ?_
  intro W base args ds gs before hval0 hW hcnd _
  have hval : ∀ (j : Nat) t v, Try.f5.params[j]? = some t → args[j]? = some v → Value.okWide Try.prog W .any base t v := hval0
  have hW' := hW
  obtain ⟨p, q, hA0, hV, rfl, hfz, hnd⟩ := hW
  have hA : DataW.TrodAll enc Try.prog W 0 (fun _ => true) true Try.f5.params.toList args.toList ds p := hA0
  rw [Try.params5] at hA hval
  obtain ⟨v0, vs0, d0, ds0, p0, q0, hargs, rfl, rfl, h0, r0⟩ := trodAll_cons hA
  obtain ⟨v1, vs1, d1, ds1, p1, q1, rfl, rfl, rfl, h1, r1⟩ := trodAll_cons r0
  obtain ⟨rfl, rfl, rfl⟩ := trodAll_nil r1
  obtain rfl : args = #[v0, v1] := by cases args; simp_all
  obtain ⟨rfl, rfl⟩ := trodVars_none hV
  have k0 := h0
  have lt0 : ∀ x ∈ p0, x.block < W.heap.size := by obtain ⟨m, hm⟩ := k0; exact DataW.trod_lt m _ _ _ hm
  obtain ⟨s, rfl, rfl, rfl, w_s⟩ := open_string Try.underlying9 (hval 0 9 v0 rfl rfl) h0
  have k1 := h1
  have lt1 : ∀ x ∈ p1, x.block < W.heap.size := by obtain ⟨m, hm⟩ := k1; exact DataW.trod_lt m _ _ _ hm
  obtain ⟨t, rfl, rfl, rfl, w_t⟩ := open_string Try.underlying9 (hval 1 9 v1 rfl rfl) h1
  clear hA0 hval0
  refine (walk s t W).mono fun e W' ⟨he, bel⟩ => ?_
  subst he
  exact ⟨_, rfl, _, _, _, [], _, [], hW', trodAll_mk1 (shut_bool Try.underlying4 _), (trodAll_cons_mk (Below.trod laidOut (by kernel_rfl) (of_decide_eq_true (by kernel_rfl)) k0 bel lt0) (trodAll_cons_mk (Below.trod laidOut (by kernel_rfl) (of_decide_eq_true (by kernel_rfl)) k1 bel lt1) trodAll_mk0)), rfl, bel.frame _, fun h => by cases h⟩

theorem over : Rows.fnEditsAscendRow.holds Try.pinned (OpenSpec.ofChange Rows.fnEditsAscendSpec) :=
  OpenClaim.holds_of_wide 5 Try.f5 rfl rfl rfl rfl rfl rfl rfl ⟨rfl, rfl, rfl, rfl, rfl⟩ rfl rfl rfl rfl rfl (by kernel_rfl) Try.func5 (by kernel_rfl)
    (of_decide_eq_true (by kernel_rfl)) (by unfold Func.isWrapper; rw [if_neg (of_decide_eq_false (by kernel_rfl))]; exact ⟨rfl, rfl⟩)
    (fun os started H enc _ => lifted os started H enc)

/-- The statement. -/
theorem proved : Rows.FnEditsAscendSaid := over
#print axioms proved
end Go.Proofs.Ytgegialfhkgggaa.FnEditsAscendProof
