/- The statement FnFirstHunk: the first hunk begins in both texts at the same line. For every input. -/
import Derived.Test.YtgegialfhkgggaaRows
import Derived.Test.YtgegialfhkgggaaPp
import Derived.ProofKit
import Derived.OpenShut
import Derived.ShutString
import Derived.ChangeOld
import Derived.Lib.SmallJoins
set_option linter.unusedVariables false
set_option linter.unusedSimpArgs false
namespace Go.Proofs.Ytgegialfhkgggaa.FnFirstHunkProof
open Go.ChangeShapes Go.WideShapes Go.ChangeAt Go.RowKit
open Go.ChangeMaps (open_string shut_string)
set_option linter.unusedVariables false
open Go.Proofs.Ytgegialfhkgggaa.Lines Mye
attribute [local go_sem ↓] Go.wp_at_zero Go.wp_at_succ

theorem empty_of {x : ByteArray} (h : x.size = 0) : x = ⟨#[]⟩ := eq_of_list (List.length_eq_zero_iff.1 (by rw [size_list]; exact h))

set_option maxHeartbeats 8000000 in
set_option maxRecDepth 100000 in
theorem near (s t : ByteArray) (hsh : shortB [s, t] = true) (w : World) :
    Calls Try.prog 11 #[.string s, .string t] w fun e w' => e = .returned (.bool true) ∧ Below w.heap.size w w' := by
  have HF := hide hsh
  have hb := hsh
  unfold shortB at hb
  simp only [Bool.and_eq_true, decide_eq_true_eq, sumSz, sumLn, List.map_cons, List.map_nil, List.sum_cons, List.sum_nil] at hb
  have h3 := lines_nls s
  have h4 := lines_nls t
  have hs : s.size ≤ 100000 := by omega
  have ht : t.size ≤ 100000 := by omega
  have HL := hide (show (linesB s).length + (linesB t).length ≤ 1000 by omega)
  clear hsh hb h3 h4
  by_cases hs0 : s.size = 0
  · have := empty_of hs0
    subst this
    clear hs hs0
    go_enter Try.func11, Try.ntmps11
    go_wp2_with fail
    refine (isShort_any _ _ [⟨#[]⟩, t] (by simp) (by have hz : (⟨#[]⟩ : ByteArray).size = 0 := rfl; simp; omega) _ (Strs.blk (Blk.newAt (by simp)) rfl)).mono ?_
    rintro e w1 ⟨rfl, rfl⟩
    rw [HF.out]
    go_wp2_with fail
    refine (works_any _).mono ?_
    rintro e w1 ⟨rfl, hb1⟩
    have hbl1 : Below w.heap.size w w1 := Below.trans (by go_grown) (hb1.mono (by simp))
    clear hb1
    go_wp2
    go_ret
    exact ⟨rfl, hbl1⟩
  have sne := str_ne hs0
  by_cases ht0 : t.size = 0
  · have := empty_of ht0
    subst this
    clear ht ht0 hs0
    go_enter Try.func11, Try.ntmps11
    go_wp2_with fail
    refine (isShort_any _ _ [s, ⟨#[]⟩] (by simp) (by have hz : (⟨#[]⟩ : ByteArray).size = 0 := rfl; simp; omega) _ (Strs.blk (Blk.newAt (by simp)) rfl)).mono ?_
    rintro e w1 ⟨rfl, rfl⟩
    rw [HF.out]
    go_wp2_with fail
    refine (works_any _).mono ?_
    rintro e w1 ⟨rfl, hb1⟩
    have hbl1 : Below w.heap.size w w1 := Below.trans (by go_grown) (hb1.mono (by simp))
    clear hb1
    go_wp2
    go_ret
    exact ⟨rfl, hbl1⟩
  have tne := str_ne ht0
  have HE := hide (fun W => iEdits_any s t (by omega) (by omega) W)
  clear hs0 ht0
  go_enter Try.func11, Try.ntmps11
  go_wp2_with fail
  refine (isShort_any _ _ [s, t] (by simp) (by simp; omega) _ (Strs.blk (Blk.newAt (by simp)) rfl)).mono ?_
  rintro e w1 ⟨rfl, rfl⟩
  rw [HF.out]
  go_wp2_with fail
  refine (HE.out _).mono ?_
  rintro e w1 ⟨ops, D, A, c, hscr, hcost, hhit, hnh, rfl, hr, hlen, hb1⟩
  have hbl1 : Below w.heap.size w w1 := Below.trans (by go_grown) (hb1.mono (by simp))
  have hn : ops.length ≤ 2000 := by have := HL.out; omega
  have hX := hkFacts hscr hs ht hn
  have hH := hunks_ops hscr hs ht hn A c w1 hr
  have hnil : ops = [] → s = t := by
    rintro rfl
    have := app_ops hscr
    rw [List.length_nil, appF_zero] at this
    exact eq_of_list this
  generalize hksOf s t ops = hks at *
  have HH := hide hH
  have HX := hide hX
  have HNil := hide hnil
  have HBl := hide hbl1
  have h1 := hX.none_
  have h2 := hX.first
  clear hscr hcost hhit hnh hr hlen hb1 hH hX hnil hbl1 HE HL
  go_wp2_with fail
  refine HH.out.mono ?_
  rintro e w2 ⟨A2, c2, rfl, hA2, hb2⟩
  have HB2 := hide (HBl.out.trans (hb2.mono HBl.out.size))
  by_cases h0 : ops = []
  · have e1 := h1 h0
    have e2 := HNil.out h0
    subst e2
    subst e1
    have heq : (s.toList == s.toList) = true := by simp
    clear h0 h1 h2 hA2 hb2 HH HX HNil HBl
    simp only [List.length_nil]
    go_upto_region 6 with fail
    refine wp_region_held_drew (S := fun wS => (∀ b o, b < w2.heap.size → wS.cell? ⟨b, o, none⟩ = w2.cell? ⟨b, o, none⟩) ∧ w2.heap.size ≤ wS.heap.size ∧ Below (w2.heap.size) w2 wS) (by kernel_rfl) (by with_reducible exact SB.start (by omega)) (fun hHeldH10 => ?_)
    refine anyH_one (i := 0) (o := ?oH1_0) (by kernel_rfl) ?hiH1_0 (fun K hK => ?restH1_0)
    case hiH1_0 => (simp only [List.getElem?_toArray, List.getElem?_cons_zero, List.getElem?_cons_succ]; rfl)
    go_simp
    go_at_call 15; refine (works_any _).mono ?_; rintro e wH11 ⟨rfl, hb⟩
    have hbwH11 : Below w2.heap.size w2 wH11 := SB.below0 hb hHeldH10
    have hHeldH11 : (∀ b o, b < w2.heap.size → wH11.cell? ⟨b, o, none⟩ = w2.cell? ⟨b, o, none⟩) ∧ w2.heap.size ≤ wH11.heap.size ∧ Below (w2.heap.size) w2 wH11 := SB.of (Nat.le_trans hHeldH10.2.1 hb.size) hbwH11
    clear hb hHeldH10
    go_wp2_with fail
    refine hK.out _ _ hHeldH11 (fun _ => ?_)
    clear hK K
    refine wpAnyH_take (i := 1) (oi := ?oH1_1) (v := ?vH1_1) ?hiH1_1 (by kernel_rfl) (by kernel_rfl) (by kernel_rfl) ?hqH1_1 ?hyH1_1 (by assumption) ?restH1_1
    case hiH1_1 => (simp only [List.getElem?_toArray, List.getElem?_cons_zero, List.getElem?_cons_succ]; rfl)
    case hqH1_1 => exact fun _ _ _ h => h
    case hyH1_1 => (refine Or.inl ⟨rfl, ?_⟩; intro w hSw; (try dsimp only at hSw); go_split_ands; (first | (go_simp; done) | (go_simp; with_reducible rfl)))
    simp only [Act.put, List.setIfInBounds_toArray, List.set_cons_zero, List.set_cons_succ]
    refine wpAnyH_take (i := 2) (oi := ?oH1_2) (v := ?vH1_2) ?hiH1_2 (by kernel_rfl) (by kernel_rfl) (by kernel_rfl) ?hqH1_2 ?hyH1_2 (by assumption) ?restH1_2
    case hiH1_2 => (simp only [List.getElem?_toArray, List.getElem?_cons_zero, List.getElem?_cons_succ]; rfl)
    case hqH1_2 => exact fun _ _ _ h => h
    case hyH1_2 => (refine Or.inl ⟨rfl, ?_⟩; intro w hSw; (try dsimp only at hSw); go_split_ands; (first | (go_simp; done) | (go_simp; with_reducible rfl)))
    simp only [Act.put, List.setIfInBounds_toArray, List.set_cons_zero, List.set_cons_succ]
    refine wpAnyH_take (i := 3) (oi := ?oH1_3) (v := ?vH1_3) ?hiH1_3 (by kernel_rfl) (by kernel_rfl) (by kernel_rfl) ?hqH1_3 ?hyH1_3 (by assumption) ?restH1_3
    case hiH1_3 => (simp only [List.getElem?_toArray, List.getElem?_cons_zero, List.getElem?_cons_succ]; rfl)
    case hqH1_3 => exact fun _ _ _ h => h
    case hyH1_3 => (refine Or.inl ⟨rfl, ?_⟩; intro w hSw; (try dsimp only at hSw); go_split_ands; (first | (go_simp; done) | (go_simp; with_reducible rfl)))
    simp only [Act.put, List.setIfInBounds_toArray, List.set_cons_zero, List.set_cons_succ]
    refine wpAnyH_take (i := 4) (oi := ?oH1_4) (v := ?vH1_4) ?hiH1_4 (by kernel_rfl) (by kernel_rfl) (by kernel_rfl) ?hqH1_4 ?hyH1_4 (by assumption) ?restH1_4
    case hiH1_4 => (simp only [List.getElem?_toArray, List.getElem?_cons_zero, List.getElem?_cons_succ]; rfl)
    case hqH1_4 => exact fun _ _ _ h => h
    case hyH1_4 => (refine Or.inl ⟨rfl, ?_⟩; intro w hSw; (try dsimp only at hSw); go_split_ands; (first | (go_simp; done) | (go_simp; with_reducible rfl)))
    simp only [Act.put, List.setIfInBounds_toArray, List.set_cons_zero, List.set_cons_succ]
    refine wpAnyH_take (i := 5) (oi := ?oH1_5) (v := ?vH1_5) ?hiH1_5 (by kernel_rfl) (by kernel_rfl) (by kernel_rfl) ?hqH1_5 ?hyH1_5 (by assumption) ?restH1_5
    case hiH1_5 => (simp only [List.getElem?_toArray, List.getElem?_cons_zero, List.getElem?_cons_succ]; rfl)
    case hqH1_5 => exact fun _ _ _ h => h
    case hyH1_5 => (refine Or.inl ⟨rfl, ?_⟩; intro w hSw; (try dsimp only at hSw); go_split_ands; (first | (go_simp; done) | (go_simp; with_reducible rfl)))
    simp only [Act.put, List.setIfInBounds_toArray, List.set_cons_zero, List.set_cons_succ]
    refine wpAnyH_take (i := 6) (oi := ?oH1_6) (v := ?vH1_6) ?hiH1_6 (by kernel_rfl) (by kernel_rfl) (by kernel_rfl) ?hqH1_6 ?hyH1_6 (by assumption) ?restH1_6
    case hiH1_6 => (simp only [List.getElem?_toArray, List.getElem?_cons_zero, List.getElem?_cons_succ]; rfl)
    case hqH1_6 => exact fun _ _ _ h => h
    case hyH1_6 => (refine Or.inl ⟨rfl, ?_⟩; intro w hSw; (try dsimp only at hSw); go_split_ands; (first | (go_simp; done) | (go_simp; with_reducible rfl)))
    simp only [Act.put, List.setIfInBounds_toArray, List.set_cons_zero, List.set_cons_succ]
    refine wpAnyH_take (i := 7) (oi := ?oH1_7) (v := ?vH1_7) ?hiH1_7 (by kernel_rfl) (by kernel_rfl) (by kernel_rfl) ?hqH1_7 ?hyH1_7 (by assumption) ?restH1_7
    case hiH1_7 => (simp only [List.getElem?_toArray, List.getElem?_cons_zero, List.getElem?_cons_succ]; rfl)
    case hqH1_7 => exact fun _ _ _ h => h
    case hyH1_7 => (refine Or.inl ⟨rfl, ?_⟩; intro w hSw; (try dsimp only at hSw); go_split_ands; (first | (go_simp; done) | (go_simp; with_reducible rfl)))
    simp only [Act.put, List.setIfInBounds_toArray, List.set_cons_zero, List.set_cons_succ]
    refine wpAnyH_take (i := 8) (oi := ?oH1_8) (v := ?vH1_8) ?hiH1_8 (by kernel_rfl) (by kernel_rfl) (by kernel_rfl) ?hqH1_8 ?hyH1_8 (by assumption) ?restH1_8
    case hiH1_8 => (simp only [List.getElem?_toArray, List.getElem?_cons_zero, List.getElem?_cons_succ]; rfl)
    case hqH1_8 => exact fun _ _ _ h => h
    case hyH1_8 => (refine Or.inl ⟨rfl, ?_⟩; intro w hSw; (try dsimp only at hSw); go_split_ands; (first | (go_simp; done) | (go_simp; with_reducible rfl)))
    simp only [Act.put, List.setIfInBounds_toArray, List.set_cons_zero, List.set_cons_succ]
    refine wpAnyH_take (i := 9) (oi := ?oH1_9) (v := ?vH1_9) ?hiH1_9 (by kernel_rfl) (by kernel_rfl) (by kernel_rfl) ?hqH1_9 ?hyH1_9 (by assumption) ?restH1_9
    case hiH1_9 => (simp only [List.getElem?_toArray, List.getElem?_cons_zero, List.getElem?_cons_succ]; rfl)
    case hqH1_9 => exact fun _ _ _ h => h
    case hyH1_9 => (refine Or.inl ⟨rfl, ?_⟩; intro w hSw; (try dsimp only at hSw); go_split_ands; (first | (go_simp; done) | (go_simp; with_reducible rfl)))
    simp only [Act.put, List.setIfInBounds_toArray, List.set_cons_zero, List.set_cons_succ]
    refine wpAnyH_take (i := 10) (oi := ?oH1_10) (v := ?vH1_10) ?hiH1_10 (by kernel_rfl) (by kernel_rfl) (by kernel_rfl) ?hqH1_10 ?hyH1_10 (by assumption) ?restH1_10
    case hiH1_10 => (simp only [List.getElem?_toArray, List.getElem?_cons_zero, List.getElem?_cons_succ]; rfl)
    case hqH1_10 => exact fun _ _ _ h => h
    case hyH1_10 => (refine Or.inl ⟨rfl, ?_⟩; intro w hSw; (try dsimp only at hSw); go_split_ands; (first | (go_simp; done) | (go_simp; with_reducible rfl)))
    simp only [Act.put, List.setIfInBounds_toArray, List.set_cons_zero, List.set_cons_succ]
    refine wpAnyH_take (i := 11) (oi := ?oH1_11) (v := undef) ?hiH1_11 (by kernel_rfl) (by kernel_rfl) (by kernel_rfl) ?hqH1_11 ?hyH1_11 (by assumption) ?restH1_11
    case hiH1_11 => (simp only [List.getElem?_toArray, List.getElem?_cons_zero, List.getElem?_cons_succ]; rfl)
    case hqH1_11 => exact fun _ _ _ h => h
    case hyH1_11 => exact Or.inr ⟨rfl, rfl⟩
    simp only [Act.put, List.setIfInBounds_toArray, List.set_cons_zero, List.set_cons_succ]
    refine wpAnyH_take (i := 12) (oi := ?oH1_12) (v := undef) ?hiH1_12 (by kernel_rfl) (by kernel_rfl) (by kernel_rfl) ?hqH1_12 ?hyH1_12 (by assumption) ?restH1_12
    case hiH1_12 => (simp only [List.getElem?_toArray, List.getElem?_cons_zero, List.getElem?_cons_succ]; rfl)
    case hqH1_12 => exact fun _ _ _ h => h
    case hyH1_12 => exact Or.inr ⟨rfl, rfl⟩
    simp only [Act.put, List.setIfInBounds_toArray, List.set_cons_zero, List.set_cons_succ]
    refine wpAnyH_take (i := 13) (oi := ?oH1_13) (v := undef) ?hiH1_13 (by kernel_rfl) (by kernel_rfl) (by kernel_rfl) ?hqH1_13 ?hyH1_13 (by assumption) ?restH1_13
    case hiH1_13 => (simp only [List.getElem?_toArray, List.getElem?_cons_zero, List.getElem?_cons_succ]; rfl)
    case hqH1_13 => exact fun _ _ _ h => h
    case hyH1_13 => exact Or.inr ⟨rfl, rfl⟩
    simp only [Act.put, List.setIfInBounds_toArray, List.set_cons_zero, List.set_cons_succ]
    refine wpAnyH_take (i := 14) (oi := ?oH1_14) (v := undef) ?hiH1_14 (by kernel_rfl) (by kernel_rfl) (by kernel_rfl) ?hqH1_14 ?hyH1_14 (by assumption) ?restH1_14
    case hiH1_14 => (simp only [List.getElem?_toArray, List.getElem?_cons_zero, List.getElem?_cons_succ]; rfl)
    case hqH1_14 => exact fun _ _ _ h => h
    case hyH1_14 => exact Or.inr ⟨rfl, rfl⟩
    simp only [Act.put, List.setIfInBounds_toArray, List.set_cons_zero, List.set_cons_succ]
    refine wpAnyH_take (i := 15) (oi := ?oH1_15) (v := undef) ?hiH1_15 (by kernel_rfl) (by kernel_rfl) (by kernel_rfl) ?hqH1_15 ?hyH1_15 (by assumption) ?restH1_15
    case hiH1_15 => (simp only [List.getElem?_toArray, List.getElem?_cons_zero, List.getElem?_cons_succ]; rfl)
    case hqH1_15 => exact fun _ _ _ h => h
    case hyH1_15 => exact Or.inr ⟨rfl, rfl⟩
    simp only [Act.put, List.setIfInBounds_toArray, List.set_cons_zero, List.set_cons_succ]
    refine wpAnyH_take (i := 16) (oi := ?oH1_16) (v := undef) ?hiH1_16 (by kernel_rfl) (by kernel_rfl) (by kernel_rfl) ?hqH1_16 ?hyH1_16 (by assumption) ?restH1_16
    case hiH1_16 => (simp only [List.getElem?_toArray, List.getElem?_cons_zero, List.getElem?_cons_succ]; rfl)
    case hqH1_16 => exact fun _ _ _ h => h
    case hyH1_16 => exact Or.inr ⟨rfl, rfl⟩
    simp only [Act.put, List.setIfInBounds_toArray, List.set_cons_zero, List.set_cons_succ]
    refine wpAnyH_take (i := 17) (oi := ?oH1_17) (v := undef) ?hiH1_17 (by kernel_rfl) (by kernel_rfl) (by kernel_rfl) ?hqH1_17 ?hyH1_17 (by assumption) ?restH1_17
    case hiH1_17 => (simp only [List.getElem?_toArray, List.getElem?_cons_zero, List.getElem?_cons_succ]; rfl)
    case hqH1_17 => exact fun _ _ _ h => h
    case hyH1_17 => exact Or.inr ⟨rfl, rfl⟩
    simp only [Act.put, List.setIfInBounds_toArray, List.set_cons_zero, List.set_cons_succ]
    refine wpAnyH_take (i := 18) (oi := ?oH1_18) (v := undef) ?hiH1_18 (by kernel_rfl) (by kernel_rfl) (by kernel_rfl) ?hqH1_18 ?hyH1_18 (by assumption) ?restH1_18
    case hiH1_18 => (simp only [List.getElem?_toArray, List.getElem?_cons_zero, List.getElem?_cons_succ]; rfl)
    case hqH1_18 => exact fun _ _ _ h => h
    case hyH1_18 => exact Or.inr ⟨rfl, rfl⟩
    simp only [Act.put, List.setIfInBounds_toArray, List.set_cons_zero, List.set_cons_succ]
    refine wpAnyH_take (i := 19) (oi := ?oH1_19) (v := undef) ?hiH1_19 (by kernel_rfl) (by kernel_rfl) (by kernel_rfl) ?hqH1_19 ?hyH1_19 (by assumption) ?restH1_19
    case hiH1_19 => (simp only [List.getElem?_toArray, List.getElem?_cons_zero, List.getElem?_cons_succ]; rfl)
    case hqH1_19 => exact fun _ _ _ h => h
    case hyH1_19 => exact Or.inr ⟨rfl, rfl⟩
    simp only [Act.put, List.setIfInBounds_toArray, List.set_cons_zero, List.set_cons_succ]
    refine wpAnyH_take (i := 20) (oi := ?oH1_20) (v := undef) ?hiH1_20 (by kernel_rfl) (by kernel_rfl) (by kernel_rfl) ?hqH1_20 ?hyH1_20 (by assumption) ?restH1_20
    case hiH1_20 => (simp only [List.getElem?_toArray, List.getElem?_cons_zero, List.getElem?_cons_succ]; rfl)
    case hqH1_20 => exact fun _ _ _ h => h
    case hyH1_20 => exact Or.inr ⟨rfl, rfl⟩
    simp only [Act.put, List.setIfInBounds_toArray, List.set_cons_zero, List.set_cons_succ]
    refine wpAnyH_take (i := 21) (oi := ?oH1_21) (v := undef) ?hiH1_21 (by kernel_rfl) (by kernel_rfl) (by kernel_rfl) ?hqH1_21 ?hyH1_21 (by assumption) ?restH1_21
    case hiH1_21 => (simp only [List.getElem?_toArray, List.getElem?_cons_zero, List.getElem?_cons_succ]; rfl)
    case hqH1_21 => exact fun _ _ _ h => h
    case hyH1_21 => exact Or.inr ⟨rfl, rfl⟩
    simp only [Act.put, List.setIfInBounds_toArray, List.set_cons_zero, List.set_cons_succ]
    refine wpAnyH_take (i := 22) (oi := ?oH1_22) (v := undef) ?hiH1_22 (by kernel_rfl) (by kernel_rfl) (by kernel_rfl) ?hqH1_22 ?hyH1_22 (by assumption) ?restH1_22
    case hiH1_22 => (simp only [List.getElem?_toArray, List.getElem?_cons_zero, List.getElem?_cons_succ]; rfl)
    case hqH1_22 => exact fun _ _ _ h => h
    case hyH1_22 => exact Or.inr ⟨rfl, rfl⟩
    simp only [Act.put, List.setIfInBounds_toArray, List.set_cons_zero, List.set_cons_succ]
    refine wpAnyH_take (i := 23) (oi := ?oH1_23) (v := undef) ?hiH1_23 (by kernel_rfl) (by kernel_rfl) (by kernel_rfl) ?hqH1_23 ?hyH1_23 (by assumption) ?restH1_23
    case hiH1_23 => (simp only [List.getElem?_toArray, List.getElem?_cons_zero, List.getElem?_cons_succ]; rfl)
    case hqH1_23 => exact fun _ _ _ h => h
    case hyH1_23 => exact Or.inr ⟨rfl, rfl⟩
    simp only [Act.put, List.setIfInBounds_toArray, List.set_cons_zero, List.set_cons_succ]
    refine wpAnyH_take (i := 24) (oi := ?oH1_24) (v := undef) ?hiH1_24 (by kernel_rfl) (by kernel_rfl) (by kernel_rfl) ?hqH1_24 ?hyH1_24 (by assumption) ?restH1_24
    case hiH1_24 => (simp only [List.getElem?_toArray, List.getElem?_cons_zero, List.getElem?_cons_succ]; rfl)
    case hqH1_24 => exact fun _ _ _ h => h
    case hyH1_24 => exact Or.inr ⟨rfl, rfl⟩
    simp only [Act.put, List.setIfInBounds_toArray, List.set_cons_zero, List.set_cons_succ]
    refine wpAnyH_take (i := 25) (oi := ?oH1_25) (v := ?vH1_25) ?hiH1_25 (by kernel_rfl) (by kernel_rfl) (by kernel_rfl) ?hqH1_25 ?hyH1_25 (by assumption) ?restH1_25
    case hiH1_25 => (simp only [List.getElem?_toArray, List.getElem?_cons_zero, List.getElem?_cons_succ]; rfl)
    case hqH1_25 => exact fun _ _ _ h => h
    case hyH1_25 => (refine Or.inl ⟨rfl, ?_⟩; intro w hSw; (try dsimp only at hSw); go_split_ands; (first | (go_simp; done) | (go_simp; with_reducible rfl)))
    simp only [Act.put, List.setIfInBounds_toArray, List.set_cons_zero, List.set_cons_succ]
    refine wpAnyH_take (i := 26) (oi := ?oH1_26) (v := ?vH1_26) ?hiH1_26 (by kernel_rfl) (by kernel_rfl) (by kernel_rfl) ?hqH1_26 ?hyH1_26 (by assumption) ?restH1_26
    case hiH1_26 => (simp only [List.getElem?_toArray, List.getElem?_cons_zero, List.getElem?_cons_succ]; rfl)
    case hqH1_26 => exact fun _ _ _ h => h
    case hyH1_26 => (refine Or.inl ⟨rfl, ?_⟩; intro w hSw; (try dsimp only at hSw); go_split_ands; (first | (go_simp; done) | (go_simp; with_reducible rfl)))
    simp only [Act.put, List.setIfInBounds_toArray, List.set_cons_zero, List.set_cons_succ]
    refine wpAnyH_take (i := 27) (oi := ?oH1_27) (v := ?vH1_27) ?hiH1_27 (by kernel_rfl) (by kernel_rfl) (by kernel_rfl) ?hqH1_27 ?hyH1_27 (by assumption) ?restH1_27
    case hiH1_27 => (simp only [List.getElem?_toArray, List.getElem?_cons_zero, List.getElem?_cons_succ]; rfl)
    case hqH1_27 => exact fun _ _ _ h => h
    case hyH1_27 => (refine Or.inl ⟨rfl, ?_⟩; intro w hSw; (try dsimp only at hSw); go_split_ands; (first | (go_simp; done) | (go_simp; with_reducible rfl)))
    simp only [Act.put, List.setIfInBounds_toArray, List.set_cons_zero, List.set_cons_succ]
    refine wpAnyH_done (by kernel_rfl) ?_ _
    have hbZ : Below w2.heap.size w2 wH11 := hbwH11
    clear hHeldH11 hbwH11
    have HB3 := hide (HB2.out.trans (hbZ.mono HB2.out.size))
    clear hbZ
    go_wp2
    go_ret
    exact ⟨rfl, HB3.out⟩
  · obtain ⟨h, r, rfl, hfg⟩ := h2 h0
    obtain ⟨b, o, L, cL, rfl, c0, c1, _⟩ := hA2 0 (by simp)
    simp only [List.getElem_cons_zero, Nat.zero_mul, Nat.add_zero] at c0 c1
    rw [← hfg] at c1
    have hlt := lt_of_cell c0
    simp only [List.length_cons]
    have t1 : ((r.length : Int) + 1 == 0) = false := by simp; omega
    have t2 : decide (0 < (r.length : Int) + 1) = true := by simp <;> omega
    generalize h.f = x at *
    clear h0 h1 h2 hA2 hb2 HH HX HNil HBl hfg
    go_upto_region 6 with fail
    refine wp_region_held_drew (S := fun wS => (∀ b o, b < w2.heap.size → wS.cell? ⟨b, o, none⟩ = w2.cell? ⟨b, o, none⟩) ∧ w2.heap.size ≤ wS.heap.size ∧ Below (w2.heap.size) w2 wS) (by kernel_rfl) (by with_reducible exact SB.start (by omega)) (fun hHeldH20 => ?_)
    refine anyH_one (i := 0) (o := ?oH2_0) (by kernel_rfl) ?hiH2_0 (fun K hK => ?restH2_0)
    case hiH2_0 => (simp only [List.getElem?_toArray, List.getElem?_cons_zero, List.getElem?_cons_succ]; rfl)
    go_simp
    go_at_call 15; refine (works_any _).mono ?_; rintro e wH21 ⟨rfl, hb⟩
    have hbwH21 : Below w2.heap.size w2 wH21 := SB.below0 hb hHeldH20
    have hHeldH21 : (∀ b o, b < w2.heap.size → wH21.cell? ⟨b, o, none⟩ = w2.cell? ⟨b, o, none⟩) ∧ w2.heap.size ≤ wH21.heap.size ∧ Below (w2.heap.size) w2 wH21 := SB.of (Nat.le_trans hHeldH20.2.1 hb.size) hbwH21
    clear hb hHeldH20
    go_wp2_with fail
    refine hK.out _ _ hHeldH21 (fun _ => ?_)
    clear hK K
    refine wpAnyH_take (i := 1) (oi := ?oH2_1) (v := ?vH2_1) ?hiH2_1 (by kernel_rfl) (by kernel_rfl) (by kernel_rfl) ?hqH2_1 ?hyH2_1 (by assumption) ?restH2_1
    case hiH2_1 => (simp only [List.getElem?_toArray, List.getElem?_cons_zero, List.getElem?_cons_succ]; rfl)
    case hqH2_1 => exact fun _ _ _ h => h
    case hyH2_1 => (refine Or.inl ⟨rfl, ?_⟩; intro w hSw; (try dsimp only at hSw); go_split_ands; (first | (go_simp; done) | (go_simp; with_reducible rfl)))
    simp only [Act.put, List.setIfInBounds_toArray, List.set_cons_zero, List.set_cons_succ]
    refine wpAnyH_take (i := 2) (oi := ?oH2_2) (v := ?vH2_2) ?hiH2_2 (by kernel_rfl) (by kernel_rfl) (by kernel_rfl) ?hqH2_2 ?hyH2_2 (by assumption) ?restH2_2
    case hiH2_2 => (simp only [List.getElem?_toArray, List.getElem?_cons_zero, List.getElem?_cons_succ]; rfl)
    case hqH2_2 => exact fun _ _ _ h => h
    case hyH2_2 => (refine Or.inl ⟨rfl, ?_⟩; intro w hSw; (try dsimp only at hSw); go_split_ands; (first | (go_simp; done) | (go_simp; with_reducible rfl)))
    simp only [Act.put, List.setIfInBounds_toArray, List.set_cons_zero, List.set_cons_succ]
    refine wpAnyH_take (i := 3) (oi := ?oH2_3) (v := ?vH2_3) ?hiH2_3 (by kernel_rfl) (by kernel_rfl) (by kernel_rfl) ?hqH2_3 ?hyH2_3 (by assumption) ?restH2_3
    case hiH2_3 => (simp only [List.getElem?_toArray, List.getElem?_cons_zero, List.getElem?_cons_succ]; rfl)
    case hqH2_3 => exact fun _ _ _ h => h
    case hyH2_3 => (refine Or.inl ⟨rfl, ?_⟩; intro w hSw; (try dsimp only at hSw); go_split_ands; (first | (go_simp; done) | (go_simp; with_reducible rfl)))
    simp only [Act.put, List.setIfInBounds_toArray, List.set_cons_zero, List.set_cons_succ]
    refine wpAnyH_take (i := 4) (oi := ?oH2_4) (v := ?vH2_4) ?hiH2_4 (by kernel_rfl) (by kernel_rfl) (by kernel_rfl) ?hqH2_4 ?hyH2_4 (by assumption) ?restH2_4
    case hiH2_4 => (simp only [List.getElem?_toArray, List.getElem?_cons_zero, List.getElem?_cons_succ]; rfl)
    case hqH2_4 => exact fun _ _ _ h => h
    case hyH2_4 => (refine Or.inl ⟨rfl, ?_⟩; intro w hSw; (try dsimp only at hSw); go_split_ands; (first | (go_simp; done) | (go_simp; with_reducible rfl)))
    simp only [Act.put, List.setIfInBounds_toArray, List.set_cons_zero, List.set_cons_succ]
    refine wpAnyH_take (i := 5) (oi := ?oH2_5) (v := ?vH2_5) ?hiH2_5 (by kernel_rfl) (by kernel_rfl) (by kernel_rfl) ?hqH2_5 ?hyH2_5 (by assumption) ?restH2_5
    case hiH2_5 => (simp only [List.getElem?_toArray, List.getElem?_cons_zero, List.getElem?_cons_succ]; rfl)
    case hqH2_5 => exact fun _ _ _ h => h
    case hyH2_5 => (refine Or.inl ⟨rfl, ?_⟩; intro w hSw; (try dsimp only at hSw); go_split_ands; (first | (go_simp; done) | (go_simp; with_reducible rfl)))
    simp only [Act.put, List.setIfInBounds_toArray, List.set_cons_zero, List.set_cons_succ]
    refine wpAnyH_take (i := 6) (oi := ?oH2_6) (v := undef) ?hiH2_6 (by kernel_rfl) (by kernel_rfl) (by kernel_rfl) ?hqH2_6 ?hyH2_6 (by assumption) ?restH2_6
    case hiH2_6 => (simp only [List.getElem?_toArray, List.getElem?_cons_zero, List.getElem?_cons_succ]; rfl)
    case hqH2_6 => exact fun _ _ _ h => h
    case hyH2_6 => exact Or.inr ⟨rfl, rfl⟩
    simp only [Act.put, List.setIfInBounds_toArray, List.set_cons_zero, List.set_cons_succ]
    refine wpAnyH_take (i := 7) (oi := ?oH2_7) (v := undef) ?hiH2_7 (by kernel_rfl) (by kernel_rfl) (by kernel_rfl) ?hqH2_7 ?hyH2_7 (by assumption) ?restH2_7
    case hiH2_7 => (simp only [List.getElem?_toArray, List.getElem?_cons_zero, List.getElem?_cons_succ]; rfl)
    case hqH2_7 => exact fun _ _ _ h => h
    case hyH2_7 => exact Or.inr ⟨rfl, rfl⟩
    simp only [Act.put, List.setIfInBounds_toArray, List.set_cons_zero, List.set_cons_succ]
    refine wpAnyH_take (i := 8) (oi := ?oH2_8) (v := undef) ?hiH2_8 (by kernel_rfl) (by kernel_rfl) (by kernel_rfl) ?hqH2_8 ?hyH2_8 (by assumption) ?restH2_8
    case hiH2_8 => (simp only [List.getElem?_toArray, List.getElem?_cons_zero, List.getElem?_cons_succ]; rfl)
    case hqH2_8 => exact fun _ _ _ h => h
    case hyH2_8 => exact Or.inr ⟨rfl, rfl⟩
    simp only [Act.put, List.setIfInBounds_toArray, List.set_cons_zero, List.set_cons_succ]
    refine wpAnyH_take (i := 9) (oi := ?oH2_9) (v := ?vH2_9) ?hiH2_9 (by kernel_rfl) (by kernel_rfl) (by kernel_rfl) ?hqH2_9 ?hyH2_9 (by assumption) ?restH2_9
    case hiH2_9 => (simp only [List.getElem?_toArray, List.getElem?_cons_zero, List.getElem?_cons_succ]; rfl)
    case hqH2_9 => exact fun _ _ _ h => h
    case hyH2_9 => (refine Or.inl ⟨rfl, ?_⟩; intro w hSw; (try dsimp only at hSw); go_split_ands; (first | (go_simp; done) | (go_simp; with_reducible rfl)))
    simp only [Act.put, List.setIfInBounds_toArray, List.set_cons_zero, List.set_cons_succ]
    refine wpAnyH_take (i := 10) (oi := ?oH2_10) (v := ?vH2_10) ?hiH2_10 (by kernel_rfl) (by kernel_rfl) (by kernel_rfl) ?hqH2_10 ?hyH2_10 (by assumption) ?restH2_10
    case hiH2_10 => (simp only [List.getElem?_toArray, List.getElem?_cons_zero, List.getElem?_cons_succ]; rfl)
    case hqH2_10 => exact fun _ _ _ h => h
    case hyH2_10 => (refine Or.inl ⟨rfl, ?_⟩; intro w hSw; (try dsimp only at hSw); go_split_ands; (first | (go_simp; done) | (go_simp; with_reducible rfl)))
    simp only [Act.put, List.setIfInBounds_toArray, List.set_cons_zero, List.set_cons_succ]
    refine wpAnyH_take (i := 11) (oi := ?oH2_11) (v := ?vH2_11) ?hiH2_11 (by kernel_rfl) (by kernel_rfl) (by kernel_rfl) ?hqH2_11 ?hyH2_11 (by assumption) ?restH2_11
    case hiH2_11 => (simp only [List.getElem?_toArray, List.getElem?_cons_zero, List.getElem?_cons_succ]; rfl)
    case hqH2_11 => exact fun _ _ _ h => h
    case hyH2_11 => (refine Or.inl ⟨rfl, ?_⟩; intro w hSw; (try dsimp only at hSw); go_split_ands; (first | (go_simp; done) | (go_simp; with_reducible rfl)))
    simp only [Act.put, List.setIfInBounds_toArray, List.set_cons_zero, List.set_cons_succ]
    refine wpAnyH_take (i := 12) (oi := ?oH2_12) (v := ?vH2_12) ?hiH2_12 (by kernel_rfl) (by kernel_rfl) (by kernel_rfl) ?hqH2_12 ?hyH2_12 (by assumption) ?restH2_12
    case hiH2_12 => (simp only [List.getElem?_toArray, List.getElem?_cons_zero, List.getElem?_cons_succ]; rfl)
    case hqH2_12 => exact fun _ _ _ h => h
    case hyH2_12 => (refine Or.inl ⟨rfl, ?_⟩; intro w hSw; (try dsimp only at hSw); go_split_ands; (first | (go_simp; done) | (go_simp; with_reducible rfl)))
    simp only [Act.put, List.setIfInBounds_toArray, List.set_cons_zero, List.set_cons_succ]
    refine wpAnyH_take (i := 13) (oi := ?oH2_13) (v := ?vH2_13) ?hiH2_13 (by kernel_rfl) (by kernel_rfl) (by kernel_rfl) ?hqH2_13 ?hyH2_13 (by assumption) ?restH2_13
    case hiH2_13 => (simp only [List.getElem?_toArray, List.getElem?_cons_zero, List.getElem?_cons_succ]; rfl)
    case hqH2_13 => exact fun _ _ _ h => h
    case hyH2_13 => (refine Or.inl ⟨rfl, ?_⟩; intro w hSw; (try dsimp only at hSw); go_split_ands; (first | (go_simp; done) | (go_simp; with_reducible rfl)))
    simp only [Act.put, List.setIfInBounds_toArray, List.set_cons_zero, List.set_cons_succ]
    refine wpAnyH_take (i := 14) (oi := ?oH2_14) (v := ?vH2_14) ?hiH2_14 (by kernel_rfl) (by kernel_rfl) (by kernel_rfl) ?hqH2_14 ?hyH2_14 (by assumption) ?restH2_14
    case hiH2_14 => (simp only [List.getElem?_toArray, List.getElem?_cons_zero, List.getElem?_cons_succ]; rfl)
    case hqH2_14 => exact fun _ _ _ h => h
    case hyH2_14 => (refine Or.inl ⟨rfl, ?_⟩; intro w hSw; (try dsimp only at hSw); go_split_ands; (first | (go_simp; done) | (go_simp; with_reducible rfl)))
    simp only [Act.put, List.setIfInBounds_toArray, List.set_cons_zero, List.set_cons_succ]
    refine wpAnyH_take (i := 15) (oi := ?oH2_15) (v := ?vH2_15) ?hiH2_15 (by kernel_rfl) (by kernel_rfl) (by kernel_rfl) ?hqH2_15 ?hyH2_15 (by assumption) ?restH2_15
    case hiH2_15 => (simp only [List.getElem?_toArray, List.getElem?_cons_zero, List.getElem?_cons_succ]; rfl)
    case hqH2_15 => exact fun _ _ _ h => h
    case hyH2_15 => (refine Or.inl ⟨rfl, ?_⟩; intro w hSw; (try dsimp only at hSw); go_split_ands; (first | (go_simp; done) | (go_simp; with_reducible rfl)))
    simp only [Act.put, List.setIfInBounds_toArray, List.set_cons_zero, List.set_cons_succ]
    refine wpAnyH_take (i := 16) (oi := ?oH2_16) (v := ?vH2_16) ?hiH2_16 (by kernel_rfl) (by kernel_rfl) (by kernel_rfl) ?hqH2_16 ?hyH2_16 (by assumption) ?restH2_16
    case hiH2_16 => (simp only [List.getElem?_toArray, List.getElem?_cons_zero, List.getElem?_cons_succ]; rfl)
    case hqH2_16 => exact fun _ _ _ h => h
    case hyH2_16 => (refine Or.inl ⟨rfl, ?_⟩; intro w hSw; (try dsimp only at hSw); go_split_ands; (first | (go_simp; done) | (go_simp; with_reducible rfl)))
    simp only [Act.put, List.setIfInBounds_toArray, List.set_cons_zero, List.set_cons_succ]
    refine wpAnyH_take (i := 17) (oi := ?oH2_17) (v := ?vH2_17) ?hiH2_17 (by kernel_rfl) (by kernel_rfl) (by kernel_rfl) ?hqH2_17 ?hyH2_17 (by assumption) ?restH2_17
    case hiH2_17 => (simp only [List.getElem?_toArray, List.getElem?_cons_zero, List.getElem?_cons_succ]; rfl)
    case hqH2_17 => exact fun _ _ _ h => h
    case hyH2_17 => (refine Or.inl ⟨rfl, ?_⟩; intro w hSw; (try dsimp only at hSw); go_split_ands; (first | (go_simp; done) | (go_simp; with_reducible rfl)))
    simp only [Act.put, List.setIfInBounds_toArray, List.set_cons_zero, List.set_cons_succ]
    refine wpAnyH_take (i := 18) (oi := ?oH2_18) (v := ?vH2_18) ?hiH2_18 (by kernel_rfl) (by kernel_rfl) (by kernel_rfl) ?hqH2_18 ?hyH2_18 (by assumption) ?restH2_18
    case hiH2_18 => (simp only [List.getElem?_toArray, List.getElem?_cons_zero, List.getElem?_cons_succ]; rfl)
    case hqH2_18 => exact fun _ _ _ h => h
    case hyH2_18 => (refine Or.inl ⟨rfl, ?_⟩; intro w hSw; (try dsimp only at hSw); go_split_ands; (first | (go_simp; done) | (go_simp; with_reducible rfl)))
    simp only [Act.put, List.setIfInBounds_toArray, List.set_cons_zero, List.set_cons_succ]
    refine wpAnyH_take (i := 19) (oi := ?oH2_19) (v := ?vH2_19) ?hiH2_19 (by kernel_rfl) (by kernel_rfl) (by kernel_rfl) ?hqH2_19 ?hyH2_19 (by assumption) ?restH2_19
    case hiH2_19 => (simp only [List.getElem?_toArray, List.getElem?_cons_zero, List.getElem?_cons_succ]; rfl)
    case hqH2_19 => exact fun _ _ _ h => h
    case hyH2_19 => (refine Or.inl ⟨rfl, ?_⟩; intro w hSw; (try dsimp only at hSw); go_split_ands; (first | (go_simp; done) | (go_simp; with_reducible rfl)))
    simp only [Act.put, List.setIfInBounds_toArray, List.set_cons_zero, List.set_cons_succ]
    refine wpAnyH_take (i := 20) (oi := ?oH2_20) (v := ?vH2_20) ?hiH2_20 (by kernel_rfl) (by kernel_rfl) (by kernel_rfl) ?hqH2_20 ?hyH2_20 (by assumption) ?restH2_20
    case hiH2_20 => (simp only [List.getElem?_toArray, List.getElem?_cons_zero, List.getElem?_cons_succ]; rfl)
    case hqH2_20 => exact fun _ _ _ h => h
    case hyH2_20 => (refine Or.inl ⟨rfl, ?_⟩; intro w hSw; (try dsimp only at hSw); go_split_ands; (first | (go_simp; done) | (go_simp; with_reducible rfl)))
    simp only [Act.put, List.setIfInBounds_toArray, List.set_cons_zero, List.set_cons_succ]
    refine wpAnyH_take (i := 21) (oi := ?oH2_21) (v := ?vH2_21) ?hiH2_21 (by kernel_rfl) (by kernel_rfl) (by kernel_rfl) ?hqH2_21 ?hyH2_21 (by assumption) ?restH2_21
    case hiH2_21 => (simp only [List.getElem?_toArray, List.getElem?_cons_zero, List.getElem?_cons_succ]; rfl)
    case hqH2_21 => exact fun _ _ _ h => h
    case hyH2_21 => (refine Or.inl ⟨rfl, ?_⟩; intro w hSw; (try dsimp only at hSw); go_split_ands; (first | (go_simp; done) | (go_simp; with_reducible rfl)))
    simp only [Act.put, List.setIfInBounds_toArray, List.set_cons_zero, List.set_cons_succ]
    refine wpAnyH_take (i := 22) (oi := ?oH2_22) (v := ?vH2_22) ?hiH2_22 (by kernel_rfl) (by kernel_rfl) (by kernel_rfl) ?hqH2_22 ?hyH2_22 (by assumption) ?restH2_22
    case hiH2_22 => (simp only [List.getElem?_toArray, List.getElem?_cons_zero, List.getElem?_cons_succ]; rfl)
    case hqH2_22 => exact fun _ _ _ h => h
    case hyH2_22 => (refine Or.inl ⟨rfl, ?_⟩; intro w hSw; (try dsimp only at hSw); go_split_ands; (first | (go_simp; done) | (go_simp; with_reducible rfl)))
    simp only [Act.put, List.setIfInBounds_toArray, List.set_cons_zero, List.set_cons_succ]
    refine wpAnyH_take (i := 23) (oi := ?oH2_23) (v := ?vH2_23) ?hiH2_23 (by kernel_rfl) (by kernel_rfl) (by kernel_rfl) ?hqH2_23 ?hyH2_23 (by assumption) ?restH2_23
    case hiH2_23 => (simp only [List.getElem?_toArray, List.getElem?_cons_zero, List.getElem?_cons_succ]; rfl)
    case hqH2_23 => exact fun _ _ _ h => h
    case hyH2_23 => (refine Or.inl ⟨rfl, ?_⟩; intro w hSw; (try dsimp only at hSw); go_split_ands; (first | (go_simp; done) | (go_simp; with_reducible rfl)))
    simp only [Act.put, List.setIfInBounds_toArray, List.set_cons_zero, List.set_cons_succ]
    refine wpAnyH_take (i := 24) (oi := ?oH2_24) (v := ?vH2_24) ?hiH2_24 (by kernel_rfl) (by kernel_rfl) (by kernel_rfl) ?hqH2_24 ?hyH2_24 (by assumption) ?restH2_24
    case hiH2_24 => (simp only [List.getElem?_toArray, List.getElem?_cons_zero, List.getElem?_cons_succ]; rfl)
    case hqH2_24 => exact fun _ _ _ h => h
    case hyH2_24 => (refine Or.inl ⟨rfl, ?_⟩; intro w hSw; (try dsimp only at hSw); go_split_ands; (first | (go_simp; done) | (go_simp; with_reducible rfl)))
    simp only [Act.put, List.setIfInBounds_toArray, List.set_cons_zero, List.set_cons_succ]
    refine wpAnyH_take (i := 25) (oi := ?oH2_25) (v := ?vH2_25) ?hiH2_25 (by kernel_rfl) (by kernel_rfl) (by kernel_rfl) ?hqH2_25 ?hyH2_25 (by assumption) ?restH2_25
    case hiH2_25 => (simp only [List.getElem?_toArray, List.getElem?_cons_zero, List.getElem?_cons_succ]; rfl)
    case hqH2_25 => exact fun _ _ _ h => h
    case hyH2_25 => (refine Or.inl ⟨rfl, ?_⟩; intro w hSw; (try dsimp only at hSw); go_split_ands; (first | (go_simp; done) | (go_simp; with_reducible rfl)))
    simp only [Act.put, List.setIfInBounds_toArray, List.set_cons_zero, List.set_cons_succ]
    refine wpAnyH_take (i := 26) (oi := ?oH2_26) (v := ?vH2_26) ?hiH2_26 (by kernel_rfl) (by kernel_rfl) (by kernel_rfl) ?hqH2_26 ?hyH2_26 (by assumption) ?restH2_26
    case hiH2_26 => (simp only [List.getElem?_toArray, List.getElem?_cons_zero, List.getElem?_cons_succ]; rfl)
    case hqH2_26 => exact fun _ _ _ h => h
    case hyH2_26 => (refine Or.inl ⟨rfl, ?_⟩; intro w hSw; (try dsimp only at hSw); go_split_ands; (first | (go_simp; done) | (go_simp; with_reducible rfl)))
    simp only [Act.put, List.setIfInBounds_toArray, List.set_cons_zero, List.set_cons_succ]
    refine wpAnyH_take (i := 27) (oi := ?oH2_27) (v := ?vH2_27) ?hiH2_27 (by kernel_rfl) (by kernel_rfl) (by kernel_rfl) ?hqH2_27 ?hyH2_27 (by assumption) ?restH2_27
    case hiH2_27 => (simp only [List.getElem?_toArray, List.getElem?_cons_zero, List.getElem?_cons_succ]; rfl)
    case hqH2_27 => exact fun _ _ _ h => h
    case hyH2_27 => (refine Or.inl ⟨rfl, ?_⟩; intro w hSw; (try dsimp only at hSw); go_split_ands; (first | (go_simp; done) | (go_simp; with_reducible rfl)))
    simp only [Act.put, List.setIfInBounds_toArray, List.set_cons_zero, List.set_cons_succ]
    refine wpAnyH_done (by kernel_rfl) ?_ _
    have hbZ : Below w2.heap.size w2 wH21 := hbwH21
    clear hHeldH21 hbwH21
    have HB3 := hide (HB2.out.trans (hbZ.mono HB2.out.size))
    clear hbZ
    go_wp2
    go_ret
    exact ⟨rfl, HB3.out⟩

set_option maxHeartbeats 2000000 in
theorem walk (s t : ByteArray) (w : World) :
    Calls Try.prog 11 #[.string s, .string t] w fun e w' => e = .returned (.bool true) ∧ Below w.heap.size w w' := by
  by_cases h1 : (2147483647 : Int) < (s.size : Int)
  · go_enter Try.func11, Try.ntmps11
    go_wp2
    go_ret
    exact ⟨rfl, by go_grown⟩
  · have hs : s.size ≤ 2147483647 := by omega
    by_cases h2 : (2147483647 : Int) < (t.size : Int)
    · go_enter Try.func11, Try.ntmps11
      go_wp2
      go_ret
      exact ⟨rfl, by go_grown⟩
    · have ht : t.size ≤ 2147483647 := by omega
      cases hsh : shortB [s, t]
      · have HF := hide hsh
        clear hsh
        go_enter Try.func11, Try.ntmps11
        go_wp2_with fail
        refine (isShort_any _ _ [s, t] (by simp) (by simp; omega) _ (Strs.blk (Blk.newAt (by simp)) rfl)).mono ?_
        rintro e w1 ⟨rfl, rfl⟩
        rw [HF.out]
        go_wp2_with fail
        refine (works_any _).mono ?_
        rintro e w1 ⟨rfl, hb1⟩
        have hbl1 : Below w.heap.size w w1 := Below.trans (by go_grown) (hb1.mono (by simp))
        go_wp2
        go_ret
        exact ⟨rfl, by go_grown⟩
      · exact near s t hsh w

theorem own : ownKnob Try.prog.godebug = none := by kernel_rfl
theorem laidOut : laidOutB Try.prog = true := by kernel_rfl
set_option maxRecDepth 100000 in
set_option maxHeartbeats 1000000 in
theorem lifted (os : Os) (started : os.Started) (H : Type) (enc : TypeId × Value → H) :
    ReturnsInHanded {} Try.checked os 11 .any (Rows.fnFirstHunkSpec.pre6 enc Try.prog Try.f11 Rows.fnFirstHunkRow.domain false) (Rows.fnFirstHunkSpec.post enc Try.prog Try.f11 false true false false) := by
  refine returnsInHanded_of_change (C := Try.checked) own started (by kernel_rfl) Try.func11
    (ChangeSpec.witness6 (enc := enc) (C := Try.checked) false ⟨#[], #[.string ⟨#[]⟩, .string ⟨#[]⟩], []⟩ 8 (by kernel_rfl) (by kernel_rfl) (by kernel_rfl) (by kernel_rfl)) ?_
  intro W base args ds gs before hval0 hW hcnd _
  have hval : ∀ (j : Nat) t v, Try.f11.params[j]? = some t → args[j]? = some v → Value.okWide Try.prog W .any base t v := hval0
  have hW' := hW
  obtain ⟨p, q, hA0, hV, rfl, hfz, hnd⟩ := hW
  have hA : DataW.TrodAll enc Try.prog W 0 (fun _ => true) true Try.f11.params.toList args.toList ds p := hA0
  rw [Try.params11] at hA hval
  obtain ⟨v0, vs0, d0, ds0, p0, q0, hargs, rfl, rfl, h0, r0⟩ := trodAll_cons hA
  obtain ⟨v1, vs1, d1, ds1, p1, q1, rfl, rfl, rfl, h1, r1⟩ := trodAll_cons r0
  obtain ⟨rfl, rfl, rfl⟩ := trodAll_nil r1
  obtain rfl : args = #[v0, v1] := by cases args; simp_all
  obtain ⟨rfl, rfl⟩ := trodVars_none hV
  have k0 := h0
  have lt0 : ∀ x ∈ p0, x.block < W.heap.size := by obtain ⟨m, hm⟩ := k0; exact DataW.trod_lt m _ _ _ hm
  obtain ⟨s, rfl, rfl, rfl, w_s⟩ := open_string Try.underlying9 (hval 0 9 v0 rfl rfl) h0
  have k1 := h1
  have lt1 : ∀ x ∈ p1, x.block < W.heap.size := by obtain ⟨m, hm⟩ := k1; exact DataW.trod_lt m _ _ _ hm
  obtain ⟨t, rfl, rfl, rfl, w_t⟩ := open_string Try.underlying9 (hval 1 9 v1 rfl rfl) h1
  clear hA0 hval0
  refine (walk s t W).mono fun e W' ⟨he, bel⟩ => ?_
  subst he
  exact ⟨_, rfl, _, _, _, [], _, [], hW', trodAll_mk1 (shut_bool Try.underlying4 _), (trodAll_cons_mk (Below.trod laidOut (by kernel_rfl) (of_decide_eq_true (by kernel_rfl)) k0 bel lt0) (trodAll_cons_mk (Below.trod laidOut (by kernel_rfl) (of_decide_eq_true (by kernel_rfl)) k1 bel lt1) trodAll_mk0)), rfl, bel.frame _, fun h => by cases h⟩

theorem over : Rows.fnFirstHunkRow.holds Try.pinned (OpenSpec.ofChange Rows.fnFirstHunkSpec) :=
  OpenClaim.holds_of_wide 11 Try.f11 rfl rfl rfl rfl rfl rfl rfl ⟨rfl, rfl, rfl, rfl, rfl⟩ rfl rfl rfl rfl rfl (by kernel_rfl) Try.func11 (by kernel_rfl)
    (of_decide_eq_true (by kernel_rfl)) (by unfold Func.isWrapper; rw [if_neg (of_decide_eq_false (by kernel_rfl))]; exact ⟨rfl, rfl⟩)
    (fun os started H enc _ => lifted os started H enc)

/-- The statement. -/
theorem proved : Rows.FnFirstHunkSaid := over
#print axioms proved
end Go.Proofs.Ytgegialfhkgggaa.FnFirstHunkProof
