/- The statement FnSort: insertions are put in the order of their starts, and those with one start stay in their order. For every input. -/
import Derived.Test.YtgegialfhkgggaaRows
import Derived.Test.YtgegialfhkgggaaPk
import Derived.ProofKit
import Derived.OpenShut
import Derived.ShutString
import Derived.ChangeOld
import Derived.Lib.SmallJoins
set_option linter.unusedVariables false
set_option linter.unusedSimpArgs false
namespace Go.Proofs.Ytgegialfhkgggaa.FnSortProof
open Go.ChangeShapes Go.WideShapes Go.ChangeAt Go.RowKit
open Go.ChangeMaps (open_string shut_string)
set_option linter.unusedVariables false
open Stab
attribute [local go_sem ↓] Go.wp_at_zero Go.wp_at_succ

theorem info_bool : (Try.prog.info? 4).map (fun i => (i.zero, i.size, i.bytes)) = some (some (.bool false), 1, 1) := by kernel_rfl
/-- Row k of a list of plain edits. -/
theorem row7 {w : World} {A : Option Addr} {n : Nat} {g : Nat → Pe} (h : RowsAt w A 7 ((List.range n).map fun i => peCells (g i))) {k : Nat} (hk : k < n) : ∃ b o, A = some ⟨b, o, none⟩ ∧ ∀ i, i < 7 → w.cell? ⟨b, o + k * 7 + i, none⟩ = some ((peCells (g k)).getD i undef) := by
  obtain ⟨b, o, rfl, _⟩ := h k 0 (by simpa using hk) (by omega)
  refine ⟨b, o, rfl, fun i hi => ?_⟩
  obtain ⟨b', o', e, hc⟩ := h k i (by simpa using hk) hi
  injection e with e
  injection e with e1 e2
  subst e1; subst e2
  rw [Nat.add_assoc, hc]
  simp [List.getD_eq_getElem?_getD, List.getElem?_eq_getElem, hk]
set_option maxHeartbeats 8000000 in
set_option maxRecDepth 100000 in
theorem walk (A : Option Addr) (ca : Nat) (cs : List Int) (B : Option Addr) (cb : Nat) (ts : List ByteArray) (w : World) (hA : Ints w A cs) (hB : Strs w B ts) :
    Calls Try.prog 4 #[.slice A cs.length ca, .slice B ts.length cb] w fun e w' => e = .returned (.bool true) ∧ Below w.heap.size w w' := by
  obtain ⟨i0, hi0, hz0, hz1, hzb⟩ := info_parts info_bool
  obtain ⟨n, hn⟩ : ∃ n, cs.length = n := ⟨_, rfl⟩
  by_cases h2 : (2147483647 : Int) < (n : Int)
  · have t2 : decide ((2147483647 : Int) < (n : Int)) = true := by simpa using h2
    rw [hn]
    clear h2 hn
    go_enter Try.func4, Try.ntmps4
    go_wp2
    go_ret
    exact ⟨rfl, by go_grown⟩
  have t2 : decide ((2147483647 : Int) < (n : Int)) = false := by simpa using h2
  have HA := hide hA
  have HB := hide hB
  have HS := hide (fun W hA hB => starts_any A B ca cb cs ts (by omega) W hA hB)
  have HN := hide hn
  unfold StartRes at HS
  rw [hn] at HS ⊢
  clear h2 hA hB hn
  go_enter Try.func4, Try.ntmps4
  go_wp2_with fail
  refine (zzFits_any B cb ts _ HB.out).mono ?_
  rintro e w1 ⟨b, rfl, hf, rfl⟩
  cases b
  · go_wp2
    go_ret
    exact ⟨rfl, by go_grown⟩
  clear hf
  go_wp2_with fail
  refine (HS.out _ HA.out HB.out).mono ?_
  rintro e w2 h
  rcases h with ⟨rfl, hb2⟩ | ⟨A2, c2, rfl, h1, h2, hnr, hr2, hb2⟩
  · have HBl := hide hb2
    clear hb2
    go_wp2_with fail
    refine (works_any _).mono ?_
    rintro e w3 ⟨rfl, hb3⟩
    have HB3 := hide (HBl.out.trans (hb3.mono HBl.out.size))
    clear hb3
    go_wp2
    go_ret
    exact ⟨rfl, HB3.out⟩
  have hn : n ≤ 1000 := by omega
  have HR2 := hide hr2
  have HB2 := hide hb2
  have HSo := hide (fun W h => iSort_any n (peAt cs ts) A2 c2 (by omega) weak_at W h)
  clear hr2 hb2 h1 h2 hnr HS HN HA HB
  go_wp2_with fail
  refine (HSo.out _ HR2.out).mono ?_
  rintro e w3 ⟨t, A3, c3, hsrt, rfl, hr3, hb3⟩
  have hsrt' : Sorted (fun i j => decide (nOf cs i < nOf cs j)) t n := ⟨hsrt.into, fun i j h1 h2 h3 => by
    have := hsrt.srt i j h1 h2 h3
    unfold R at this ⊢
    rw [ltE_at, ltE_at] at this
    exact this⟩
  have hr3' : RowsAt w3 A3 7 ((List.range n).map fun i => peCells (peAt cs ts (t i))) := by
    have e : (fun i => ofCells (toEd (peAt cs ts (t i)))) = fun i => peCells (peAt cs ts (t i)) := by funext i; exact ofCells_at
    rw [← e]; exact hr3
  have HSrt := hide hsrt'
  have HR3 := hide hr3'
  have HL3 := hide (HR2.out.kept hb3)
  have HB3 := hide (HB2.out.trans (hb3.mono HB2.out.size))
  clear hsrt hsrt' hr3 hr3' hb3 HSo HR2 HB2
  go_wp2_with (first
    | (refine wpList_make_full _ rfl _ _ 34 rfl w3.heap.size 4 i0 _ 1 Try.underlying34 hi0 hz0 hz1 .i64 .i64 _ _ n (by rfl) (by rfl) (by omega) (by omega) (by rw [hzb]; omega) (by unfold maxLen; omega) (Nat.le_refl _) ?_; intro w4 hown4 hg4))
  have HU4 : Hid (UsedAt w4 w3.heap.size n t 0) := hide (by
    obtain ⟨cur, hk, hz, hc⟩ := own_made rfl hown4
    exact ⟨cur, hk, hz, fun k hk' => by rw [hc k hk']; rfl⟩)
  have HB4 := hide (grown_none hg4)
  clear hown4 hg4
  go_loopw [41] (fun iv wr => ∃ i : Nat, iv = .int .i64 i ∧ i ≤ n ∧ Hid (UsedAt wr w3.heap.size n t i ∧ Below w3.heap.size w3 wr)) (fun iv _ => n - (intOf iv).toNat)
  case atStart => exact ⟨0, rfl, Nat.zero_le _, hide ⟨HU4.out, HB4.out⟩⟩
  case round =>
    obtain ⟨i, rfl, hi, hcr⟩ := hrel
    clear HU4 HB4
    by_cases hlt : i < n
    · have hti := HSrt.out.into i hlt
      obtain ⟨b, o, rfl, d0⟩ := row7 (HR3.out.kept hcr.out.2) hlt
      have e0 := d0 0 (by omega)
      have e1 := d0 1 (by omega)
      have e2 := d0 2 (by omega)
      have e3 := d0 3 (by omega)
      have e4 := d0 4 (by omega)
      have e5 := d0 5 (by omega)
      have e6 := d0 6 (by omega)
      simp [peCells, peAt] at e0 e1 e2 e3 e4 e5 e6
      have jn : (i : Int) < (n : Int) := by omega
      clear d0
      obtain ⟨a, ha⟩ : ∃ a, nOf cs (t i) = a := ⟨_, rfl⟩
      obtain ⟨x, hx⟩ : ∃ x, tOf ts (t i) = x := ⟨_, rfl⟩
      rw [ha] at e2 e5
      rw [hx] at e6
      have HAe := hide ha
      have HXe := hide hx
      clear ha hx
      go_upto_region 13 with fail
      refine wp_gen ?_
      intro W hW
      have hbW : Below wr.heap.size wr W := by rw [hW]; go_grown
      have k7 : Blk W wr.heap.size 38 #[.int .i64 0, .int .i64 0, .int .i64 (a : Nat), .int .i64 0, .int .i64 0, .int .i64 (a : Nat), .string x] := by rw [hW]; exact Blk.new _ _ _
      have HU := hide (hcr.out.1.kept hbW)
      have HBW := hide (hcr.out.2.trans (hbW.mono hcr.out.2.size))
      have K7 := hide k7
      clear hW hbW k7 e0 e1 e2 e3 e4 e5 e6 hcr
      go_wp2
      go_loopw [11] (fun kv wk => ∃ k : Nat, kv = .int .i64 k ∧ k ≤ t i ∧ Hid (Below W.heap.size W wk)) (fun kv _ => n - (intOf kv).toNat)
      case atStart => exact ⟨0, rfl, Nat.zero_le _, hide (Below.refl _ _)⟩
      case round =>
        obtain ⟨k, rfl, hk, hbk⟩ := hrel
        have HUk := hide (HU.out.kept hbk.out)
        obtain ⟨p, q, rfl, d0⟩ := row7 (HL3.out.kept (HBW.out.trans (hbk.out.mono HBW.out.size))) (show k < n by omega)
        have kn : (k : Int) < (n : Int) := by omega
        have kz : (0 : Int) ≤ (k : Int) := by omega
        have u1 := (HUk.out.cell (show k < n by omega)).1
        have f7 := (K7.out.kept hbk.out).seven
        obtain ⟨v, hv⟩ : ∃ v, nOf cs k = v := ⟨_, rfl⟩
        have hT := usedB_false (srt_inj HSrt.out) hlt i (Nat.le_refl _)
        have d2 := d0 2 (by omega)
        simp [peCells, peAt] at d2
        rw [hv] at d2
        have lp := lt_of_cell d2
        have lu := lt_of_cell u1
        have le7 := lt_of_cell f7.1.1
        dsimp only at lp lu le7
        go_upto_region 14 with fail
        by_cases hu : usedB t i k = true
        · rw [hu] at u1
          have hk1 : k + 1 ≤ t i := by
            by_cases e : k = t i
            · rw [e, hT] at hu; cases hu
            · omega
          have HB := hide (hbk.out.drew)
          clear hT hv hu d0 d2
          refine wp_region_held_drew (S := fun w' => (∀ b o, b < wr.heap.size → w'.cell? ⟨b, o, none⟩ = wr.cell? ⟨b, o, none⟩) ∧ wr.heap.size ≤ w'.heap.size ∧ Below wr.heap.size wr w') (by kernel_rfl) (by with_reducible exact SB.start (by omega)) (fun hHeld => ?_)
          refine wpAnyH_take (i := 0) (oi := ?o0) (v := ?v0) ?hi0 (by kernel_rfl) (by kernel_rfl) (by kernel_rfl) ?hq0 ?hy0 (by assumption) ?rest0
          case hi0 => (simp only [List.getElem?_toArray, List.getElem?_cons_zero, List.getElem?_cons_succ]; rfl)
          case hq0 => exact fun _ _ _ h => h
          case hy0 => (refine Or.inl ⟨rfl, ?_⟩; intro w hSw; (try dsimp only at hSw); go_split_ands; (first | (go_simp; done) | (go_simp; with_reducible rfl)))
          simp only [Act.put, List.setIfInBounds_toArray, List.set_cons_zero, List.set_cons_succ]
          refine wpAnyH_take (i := 1) (oi := ?o1) (v := ?v1) ?hi1 (by kernel_rfl) (by kernel_rfl) (by kernel_rfl) ?hq1 ?hy1 (by assumption) ?rest1
          case hi1 => (simp only [List.getElem?_toArray, List.getElem?_cons_zero, List.getElem?_cons_succ]; rfl)
          case hq1 => exact fun _ _ _ h => h
          case hy1 => (refine Or.inl ⟨rfl, ?_⟩; intro w hSw; (try dsimp only at hSw); go_split_ands; (first | (go_simp; done) | (go_simp; with_reducible rfl)))
          simp only [Act.put, List.setIfInBounds_toArray, List.set_cons_zero, List.set_cons_succ]
          refine wpAnyH_take (i := 2) (oi := ?o2) (v := ?v2) ?hi2 (by kernel_rfl) (by kernel_rfl) (by kernel_rfl) ?hq2 ?hy2 (by assumption) ?rest2
          case hi2 => (simp only [List.getElem?_toArray, List.getElem?_cons_zero, List.getElem?_cons_succ]; rfl)
          case hq2 => exact fun _ _ _ h => h
          case hy2 => (refine Or.inl ⟨rfl, ?_⟩; intro w hSw; (try dsimp only at hSw); go_split_ands; (first | (go_simp; done) | (go_simp; with_reducible rfl)))
          simp only [Act.put, List.setIfInBounds_toArray, List.set_cons_zero, List.set_cons_succ]
          refine wpAnyH_take (i := 3) (oi := ?o3) (v := ?v3) ?hi3 (by kernel_rfl) (by kernel_rfl) (by kernel_rfl) ?hq3 ?hy3 (by assumption) ?rest3
          case hi3 => (simp only [List.getElem?_toArray, List.getElem?_cons_zero, List.getElem?_cons_succ]; rfl)
          case hq3 => exact fun _ _ _ h => h
          case hy3 => (refine Or.inl ⟨rfl, ?_⟩; intro w hSw; (try dsimp only at hSw); go_split_ands; (first | (go_simp; done) | (go_simp; with_reducible rfl)))
          simp only [Act.put, List.setIfInBounds_toArray, List.set_cons_zero, List.set_cons_succ]
          refine wpAnyH_take (i := 4) (oi := ?o4) (v := ?v4) ?hi4 (by kernel_rfl) (by kernel_rfl) (by kernel_rfl) ?hq4 ?hy4 (by assumption) ?rest4
          case hi4 => (simp only [List.getElem?_toArray, List.getElem?_cons_zero, List.getElem?_cons_succ]; rfl)
          case hq4 => exact fun _ _ _ h => h
          case hy4 => (refine Or.inl ⟨rfl, ?_⟩; intro w hSw; (try dsimp only at hSw); go_split_ands; (first | (go_simp; done) | (go_simp; with_reducible rfl)))
          simp only [Act.put, List.setIfInBounds_toArray, List.set_cons_zero, List.set_cons_succ]
          refine wpAnyH_take (i := 5) (oi := ?o5) (v := ?v5) ?hi5 (by kernel_rfl) (by kernel_rfl) (by kernel_rfl) ?hq5 ?hy5 (by assumption) ?rest5
          case hi5 => (simp only [List.getElem?_toArray, List.getElem?_cons_zero, List.getElem?_cons_succ]; rfl)
          case hq5 => exact fun _ _ _ h => h
          case hy5 => (refine Or.inl ⟨rfl, ?_⟩; intro w hSw; (try dsimp only at hSw); go_split_ands; (first | (go_simp; done) | (go_simp; with_reducible rfl)))
          simp only [Act.put, List.setIfInBounds_toArray, List.set_cons_zero, List.set_cons_succ]
          refine wpAnyH_take (i := 6) (oi := ?o6) (v := ?v6) ?hi6 (by kernel_rfl) (by kernel_rfl) (by kernel_rfl) ?hq6 ?hy6 (by assumption) ?rest6
          case hi6 => (simp only [List.getElem?_toArray, List.getElem?_cons_zero, List.getElem?_cons_succ]; rfl)
          case hq6 => exact fun _ _ _ h => h
          case hy6 => (refine Or.inl ⟨rfl, ?_⟩; intro w hSw; (try dsimp only at hSw); go_split_ands; (first | (go_simp; done) | (go_simp; with_reducible rfl)))
          simp only [Act.put, List.setIfInBounds_toArray, List.set_cons_zero, List.set_cons_succ]
          refine wpAnyH_take (i := 7) (oi := ?o7) (v := ?v7) ?hi7 (by kernel_rfl) (by kernel_rfl) (by kernel_rfl) ?hq7 ?hy7 (by assumption) ?rest7
          case hi7 => (simp only [List.getElem?_toArray, List.getElem?_cons_zero, List.getElem?_cons_succ]; rfl)
          case hq7 => exact fun _ _ _ h => h
          case hy7 => (refine Or.inl ⟨rfl, ?_⟩; intro w hSw; (try dsimp only at hSw); go_split_ands; (first | (go_simp; done) | (go_simp; with_reducible rfl)))
          simp only [Act.put, List.setIfInBounds_toArray, List.set_cons_zero, List.set_cons_succ]
          refine wpAnyH_take (i := 8) (oi := ?o8) (v := ?v8) ?hi8 (by kernel_rfl) (by kernel_rfl) (by kernel_rfl) ?hq8 ?hy8 (by assumption) ?rest8
          case hi8 => (simp only [List.getElem?_toArray, List.getElem?_cons_zero, List.getElem?_cons_succ]; rfl)
          case hq8 => exact fun _ _ _ h => h
          case hy8 => (refine Or.inl ⟨rfl, ?_⟩; intro w hSw; (try dsimp only at hSw); go_split_ands; (first | (go_simp; done) | (go_simp; with_reducible rfl)))
          simp only [Act.put, List.setIfInBounds_toArray, List.set_cons_zero, List.set_cons_succ]
          refine wpAnyH_take (i := 9) (oi := ?o9) (v := ?v9) ?hi9 (by kernel_rfl) (by kernel_rfl) (by kernel_rfl) ?hq9 ?hy9 (by assumption) ?rest9
          case hi9 => (simp only [List.getElem?_toArray, List.getElem?_cons_zero, List.getElem?_cons_succ]; rfl)
          case hq9 => exact fun _ _ _ h => h
          case hy9 => (refine Or.inl ⟨rfl, ?_⟩; intro w hSw; (try dsimp only at hSw); go_split_ands; (first | (go_simp; done) | (go_simp; with_reducible rfl)))
          simp only [Act.put, List.setIfInBounds_toArray, List.set_cons_zero, List.set_cons_succ]
          refine wpAnyH_take (i := 10) (oi := ?o10) (v := undef) ?hi10 (by kernel_rfl) (by kernel_rfl) (by kernel_rfl) ?hq10 ?hy10 (by assumption) ?rest10
          case hi10 => (simp only [List.getElem?_toArray, List.getElem?_cons_zero, List.getElem?_cons_succ]; rfl)
          case hq10 => exact fun _ _ _ h => h
          case hy10 => exact Or.inr ⟨rfl, rfl⟩
          simp only [Act.put, List.setIfInBounds_toArray, List.set_cons_zero, List.set_cons_succ]
          refine wpAnyH_take (i := 11) (oi := ?o11) (v := undef) ?hi11 (by kernel_rfl) (by kernel_rfl) (by kernel_rfl) ?hq11 ?hy11 (by assumption) ?rest11
          case hi11 => (simp only [List.getElem?_toArray, List.getElem?_cons_zero, List.getElem?_cons_succ]; rfl)
          case hq11 => exact fun _ _ _ h => h
          case hy11 => exact Or.inr ⟨rfl, rfl⟩
          simp only [Act.put, List.setIfInBounds_toArray, List.set_cons_zero, List.set_cons_succ]
          refine wpAnyH_take (i := 12) (oi := ?o12) (v := undef) ?hi12 (by kernel_rfl) (by kernel_rfl) (by kernel_rfl) ?hq12 ?hy12 (by assumption) ?rest12
          case hi12 => (simp only [List.getElem?_toArray, List.getElem?_cons_zero, List.getElem?_cons_succ]; rfl)
          case hq12 => exact fun _ _ _ h => h
          case hy12 => exact Or.inr ⟨rfl, rfl⟩
          simp only [Act.put, List.setIfInBounds_toArray, List.set_cons_zero, List.set_cons_succ]
          refine wpAnyH_take (i := 13) (oi := ?o13) (v := undef) ?hi13 (by kernel_rfl) (by kernel_rfl) (by kernel_rfl) ?hq13 ?hy13 (by assumption) ?rest13
          case hi13 => (simp only [List.getElem?_toArray, List.getElem?_cons_zero, List.getElem?_cons_succ]; rfl)
          case hq13 => exact fun _ _ _ h => h
          case hy13 => exact Or.inr ⟨rfl, rfl⟩
          simp only [Act.put, List.setIfInBounds_toArray, List.set_cons_zero, List.set_cons_succ]
          refine wpAnyH_take (i := 14) (oi := ?o14) (v := undef) ?hi14 (by kernel_rfl) (by kernel_rfl) (by kernel_rfl) ?hq14 ?hy14 (by assumption) ?rest14
          case hi14 => (simp only [List.getElem?_toArray, List.getElem?_cons_zero, List.getElem?_cons_succ]; rfl)
          case hq14 => exact fun _ _ _ h => h
          case hy14 => exact Or.inr ⟨rfl, rfl⟩
          simp only [Act.put, List.setIfInBounds_toArray, List.set_cons_zero, List.set_cons_succ]
          refine wpAnyH_take (i := 15) (oi := ?o15) (v := undef) ?hi15 (by kernel_rfl) (by kernel_rfl) (by kernel_rfl) ?hq15 ?hy15 (by assumption) ?rest15
          case hi15 => (simp only [List.getElem?_toArray, List.getElem?_cons_zero, List.getElem?_cons_succ]; rfl)
          case hq15 => exact fun _ _ _ h => h
          case hy15 => exact Or.inr ⟨rfl, rfl⟩
          simp only [Act.put, List.setIfInBounds_toArray, List.set_cons_zero, List.set_cons_succ]
          refine wpAnyH_take (i := 16) (oi := ?o16) (v := undef) ?hi16 (by kernel_rfl) (by kernel_rfl) (by kernel_rfl) ?hq16 ?hy16 (by assumption) ?rest16
          case hi16 => (simp only [List.getElem?_toArray, List.getElem?_cons_zero, List.getElem?_cons_succ]; rfl)
          case hq16 => exact fun _ _ _ h => h
          case hy16 => exact Or.inr ⟨rfl, rfl⟩
          simp only [Act.put, List.setIfInBounds_toArray, List.set_cons_zero, List.set_cons_succ]
          refine wpAnyH_take (i := 17) (oi := ?o17) (v := undef) ?hi17 (by kernel_rfl) (by kernel_rfl) (by kernel_rfl) ?hq17 ?hy17 (by assumption) ?rest17
          case hi17 => (simp only [List.getElem?_toArray, List.getElem?_cons_zero, List.getElem?_cons_succ]; rfl)
          case hq17 => exact fun _ _ _ h => h
          case hy17 => exact Or.inr ⟨rfl, rfl⟩
          simp only [Act.put, List.setIfInBounds_toArray, List.set_cons_zero, List.set_cons_succ]
          refine wpAnyH_take (i := 18) (oi := ?o18) (v := undef) ?hi18 (by kernel_rfl) (by kernel_rfl) (by kernel_rfl) ?hq18 ?hy18 (by assumption) ?rest18
          case hi18 => (simp only [List.getElem?_toArray, List.getElem?_cons_zero, List.getElem?_cons_succ]; rfl)
          case hq18 => exact fun _ _ _ h => h
          case hy18 => exact Or.inr ⟨rfl, rfl⟩
          simp only [Act.put, List.setIfInBounds_toArray, List.set_cons_zero, List.set_cons_succ]
          refine wpAnyH_take (i := 19) (oi := ?o19) (v := undef) ?hi19 (by kernel_rfl) (by kernel_rfl) (by kernel_rfl) ?hq19 ?hy19 (by assumption) ?rest19
          case hi19 => (simp only [List.getElem?_toArray, List.getElem?_cons_zero, List.getElem?_cons_succ]; rfl)
          case hq19 => exact fun _ _ _ h => h
          case hy19 => exact Or.inr ⟨rfl, rfl⟩
          simp only [Act.put, List.setIfInBounds_toArray, List.set_cons_zero, List.set_cons_succ]
          refine wpAnyH_take (i := 20) (oi := ?o20) (v := ?v20) ?hi20 (by kernel_rfl) (by kernel_rfl) (by kernel_rfl) ?hq20 ?hy20 (by assumption) ?rest20
          case hi20 => (simp only [List.getElem?_toArray, List.getElem?_cons_zero, List.getElem?_cons_succ]; rfl)
          case hq20 => exact fun _ _ _ h => h
          case hy20 => (refine Or.inl ⟨rfl, ?_⟩; intro w hSw; (try dsimp only at hSw); go_split_ands; (first | (go_simp; done) | (go_simp; with_reducible rfl)))
          simp only [Act.put, List.setIfInBounds_toArray, List.set_cons_zero, List.set_cons_succ]
          refine wpAnyH_take (i := 21) (oi := ?o21) (v := ?v21) ?hi21 (by kernel_rfl) (by kernel_rfl) (by kernel_rfl) ?hq21 ?hy21 (by assumption) ?rest21
          case hi21 => (simp only [List.getElem?_toArray, List.getElem?_cons_zero, List.getElem?_cons_succ]; rfl)
          case hq21 => exact fun _ _ _ h => h
          case hy21 => (refine Or.inl ⟨rfl, ?_⟩; intro w hSw; (try dsimp only at hSw); go_split_ands; (first | (go_simp; done) | (go_simp; with_reducible rfl)))
          simp only [Act.put, List.setIfInBounds_toArray, List.set_cons_zero, List.set_cons_succ]
          refine wpAnyH_done (by kernel_rfl) ?_ _
          clear hHeld
          go_wp2
          go_roundw
          case rel => exact ⟨k + 1, by go_num, hk1, HB⟩
          case measure => simp [intOf]; omega
        · have hu' : usedB t i k = false := by simpa using hu
          rw [hu'] at u1
          by_cases hva : v = a
          · subst hva
            have hkt : k = t i := by
              by_cases e : k = t i
              · exact e
              · obtain ⟨j, hj, ej⟩ := srt_first HSrt.out hlt (show k < t i by omega) (by rw [hv, HAe.out])
                have := usedB_true (t := t) hj
                rw [ej, hu'] at this; cases this
            have hxk : tOf ts k = x := by rw [hkt]; exact HXe.out
            have g0 := d0 0 (by omega)
            have g1 := d0 1 (by omega)
            have g3 := d0 3 (by omega)
            have g4 := d0 4 (by omega)
            have g5 := d0 5 (by omega)
            have g6 := d0 6 (by omega)
            simp [peCells, peAt] at g0 g1 g3 g4 g5 g6
            rw [hv] at g5
            rw [hxk] at g6
            have u2 := (HUk.out.cell (show k < n by omega)).2
            have HB := hide (hbk.out)
            have hB2 : Below wr.heap.size wr wr.drew.drew := ((Below.refl _ _).drew).drew
            have HNx : Hid (UsedAt (wr.drew.drew.setCell ⟨w3.heap.size, k, none⟩ (.bool true)) w3.heap.size n t (i + 1) ∧ Below w3.heap.size w3 (wr.drew.drew.setCell ⟨w3.heap.size, k, none⟩ (.bool true))) := hide (by
              have hu3 := HUk.out.kept hB2
              refine ⟨?_, ?_⟩
              · rw [hkt]; exact hu3.put hti
              · exact (((HBW.out.trans (hbk.out.mono HBW.out.size))).trans (hB2.mono (by have := HBW.out.size; have := hbk.out.size; omega))).setCell (Nat.le_refl _) _)
            have c16 : ((k : Int) == (n : Int)) = false := by simp; omega
            by_cases hi0' : i = 0
            · have HI0 := hide hi0'
              have ci : decide ((0 : Int) < (i : Int)) = false := by simp; omega
              have ci2 : ¬ (0 : Int) < (i : Int) := by omega
              have ci3 : ¬ 0 < i := by omega
              have ci4 : decide (0 < i) = false := by simp; omega
              clear hT hv hu hu' d0 hkt hxk hi0'
              refine wp_region_held_drew (S := fun w' => (∀ b o, b < wr.heap.size → w'.cell? ⟨b, o, none⟩ = wr.cell? ⟨b, o, none⟩) ∧ wr.heap.size ≤ w'.heap.size ∧ Below wr.heap.size wr w') (by kernel_rfl) (by with_reducible exact SB.start (by omega)) (fun hHeld => ?_)
              refine wpAnyH_take (i := 0) (oi := ?o0_2) (v := ?v0_2) ?hi0_2 (by kernel_rfl) (by kernel_rfl) (by kernel_rfl) ?hq0_2 ?hy0_2 (by assumption) ?rest0_2
              case hi0_2 => (simp only [List.getElem?_toArray, List.getElem?_cons_zero, List.getElem?_cons_succ]; rfl)
              case hq0_2 => exact fun _ _ _ h => h
              case hy0_2 => (refine Or.inl ⟨rfl, ?_⟩; intro w hSw; (try dsimp only at hSw); go_split_ands; (first | (go_simp; done) | (go_simp; with_reducible rfl)))
              simp only [Act.put, List.setIfInBounds_toArray, List.set_cons_zero, List.set_cons_succ]
              refine wpAnyH_take (i := 1) (oi := ?o1_2) (v := ?v1_2) ?hi1_2 (by kernel_rfl) (by kernel_rfl) (by kernel_rfl) ?hq1_2 ?hy1_2 (by assumption) ?rest1_2
              case hi1_2 => (simp only [List.getElem?_toArray, List.getElem?_cons_zero, List.getElem?_cons_succ]; rfl)
              case hq1_2 => exact fun _ _ _ h => h
              case hy1_2 => (refine Or.inl ⟨rfl, ?_⟩; intro w hSw; (try dsimp only at hSw); go_split_ands; (first | (go_simp; done) | (go_simp; with_reducible rfl)))
              simp only [Act.put, List.setIfInBounds_toArray, List.set_cons_zero, List.set_cons_succ]
              refine wpAnyH_take (i := 2) (oi := ?o2_2) (v := ?v2_2) ?hi2_2 (by kernel_rfl) (by kernel_rfl) (by kernel_rfl) ?hq2_2 ?hy2_2 (by assumption) ?rest2_2
              case hi2_2 => (simp only [List.getElem?_toArray, List.getElem?_cons_zero, List.getElem?_cons_succ]; rfl)
              case hq2_2 => exact fun _ _ _ h => h
              case hy2_2 => (refine Or.inl ⟨rfl, ?_⟩; intro w hSw; (try dsimp only at hSw); go_split_ands; (first | (go_simp; done) | (go_simp; with_reducible rfl)))
              simp only [Act.put, List.setIfInBounds_toArray, List.set_cons_zero, List.set_cons_succ]
              refine wpAnyH_take (i := 3) (oi := ?o3_2) (v := ?v3_2) ?hi3_2 (by kernel_rfl) (by kernel_rfl) (by kernel_rfl) ?hq3_2 ?hy3_2 (by assumption) ?rest3_2
              case hi3_2 => (simp only [List.getElem?_toArray, List.getElem?_cons_zero, List.getElem?_cons_succ]; rfl)
              case hq3_2 => exact fun _ _ _ h => h
              case hy3_2 => (refine Or.inl ⟨rfl, ?_⟩; intro w hSw; (try dsimp only at hSw); go_split_ands; (first | (go_simp; done) | (go_simp; with_reducible rfl)))
              simp only [Act.put, List.setIfInBounds_toArray, List.set_cons_zero, List.set_cons_succ]
              refine wpAnyH_take (i := 4) (oi := ?o4_2) (v := ?v4_2) ?hi4_2 (by kernel_rfl) (by kernel_rfl) (by kernel_rfl) ?hq4_2 ?hy4_2 (by assumption) ?rest4_2
              case hi4_2 => (simp only [List.getElem?_toArray, List.getElem?_cons_zero, List.getElem?_cons_succ]; rfl)
              case hq4_2 => exact fun _ _ _ h => h
              case hy4_2 => (refine Or.inl ⟨rfl, ?_⟩; intro w hSw; (try dsimp only at hSw); go_split_ands; (first | (go_simp; done) | (go_simp; with_reducible rfl)))
              simp only [Act.put, List.setIfInBounds_toArray, List.set_cons_zero, List.set_cons_succ]
              refine wpAnyH_take (i := 5) (oi := ?o5_2) (v := ?v5_2) ?hi5_2 (by kernel_rfl) (by kernel_rfl) (by kernel_rfl) ?hq5_2 ?hy5_2 (by assumption) ?rest5_2
              case hi5_2 => (simp only [List.getElem?_toArray, List.getElem?_cons_zero, List.getElem?_cons_succ]; rfl)
              case hq5_2 => exact fun _ _ _ h => h
              case hy5_2 => (refine Or.inl ⟨rfl, ?_⟩; intro w hSw; (try dsimp only at hSw); go_split_ands; (first | (go_simp; done) | (go_simp; with_reducible rfl)))
              simp only [Act.put, List.setIfInBounds_toArray, List.set_cons_zero, List.set_cons_succ]
              refine wpAnyH_take (i := 6) (oi := ?o6_2) (v := ?v6_2) ?hi6_2 (by kernel_rfl) (by kernel_rfl) (by kernel_rfl) ?hq6_2 ?hy6_2 (by assumption) ?rest6_2
              case hi6_2 => (simp only [List.getElem?_toArray, List.getElem?_cons_zero, List.getElem?_cons_succ]; rfl)
              case hq6_2 => exact fun _ _ _ h => h
              case hy6_2 => (refine Or.inl ⟨rfl, ?_⟩; intro w hSw; (try dsimp only at hSw); go_split_ands; (first | (go_simp; done) | (go_simp; with_reducible rfl)))
              simp only [Act.put, List.setIfInBounds_toArray, List.set_cons_zero, List.set_cons_succ]
              refine wpAnyH_take (i := 7) (oi := ?o7_2) (v := ?v7_2) ?hi7_2 (by kernel_rfl) (by kernel_rfl) (by kernel_rfl) ?hq7_2 ?hy7_2 (by assumption) ?rest7_2
              case hi7_2 => (simp only [List.getElem?_toArray, List.getElem?_cons_zero, List.getElem?_cons_succ]; rfl)
              case hq7_2 => exact fun _ _ _ h => h
              case hy7_2 => (refine Or.inl ⟨rfl, ?_⟩; intro w hSw; (try dsimp only at hSw); go_split_ands; (first | (go_simp; done) | (go_simp; with_reducible rfl)))
              simp only [Act.put, List.setIfInBounds_toArray, List.set_cons_zero, List.set_cons_succ]
              refine wpAnyH_take (i := 8) (oi := ?o8_2) (v := ?v8_2) ?hi8_2 (by kernel_rfl) (by kernel_rfl) (by kernel_rfl) ?hq8_2 ?hy8_2 (by assumption) ?rest8_2
              case hi8_2 => (simp only [List.getElem?_toArray, List.getElem?_cons_zero, List.getElem?_cons_succ]; rfl)
              case hq8_2 => exact fun _ _ _ h => h
              case hy8_2 => (refine Or.inl ⟨rfl, ?_⟩; intro w hSw; (try dsimp only at hSw); go_split_ands; (first | (go_simp; done) | (go_simp; with_reducible rfl)))
              simp only [Act.put, List.setIfInBounds_toArray, List.set_cons_zero, List.set_cons_succ]
              refine wpAnyH_take (i := 9) (oi := ?o9_2) (v := ?v9_2) ?hi9_2 (by kernel_rfl) (by kernel_rfl) (by kernel_rfl) ?hq9_2 ?hy9_2 (by assumption) ?rest9_2
              case hi9_2 => (simp only [List.getElem?_toArray, List.getElem?_cons_zero, List.getElem?_cons_succ]; rfl)
              case hq9_2 => exact fun _ _ _ h => h
              case hy9_2 => (refine Or.inl ⟨rfl, ?_⟩; intro w hSw; (try dsimp only at hSw); go_split_ands; (first | (go_simp; done) | (go_simp; with_reducible rfl)))
              simp only [Act.put, List.setIfInBounds_toArray, List.set_cons_zero, List.set_cons_succ]
              refine wpAnyH_take (i := 10) (oi := ?o10_2) (v := ?v10_2) ?hi10_2 (by kernel_rfl) (by kernel_rfl) (by kernel_rfl) ?hq10_2 ?hy10_2 (by assumption) ?rest10_2
              case hi10_2 => (simp only [List.getElem?_toArray, List.getElem?_cons_zero, List.getElem?_cons_succ]; rfl)
              case hq10_2 => exact fun _ _ _ h => h
              case hy10_2 => (refine Or.inl ⟨rfl, ?_⟩; intro w hSw; (try dsimp only at hSw); go_split_ands; (first | (go_simp; done) | (go_simp; with_reducible rfl)))
              simp only [Act.put, List.setIfInBounds_toArray, List.set_cons_zero, List.set_cons_succ]
              refine wpAnyH_take (i := 11) (oi := ?o11_2) (v := ?v11_2) ?hi11_2 (by kernel_rfl) (by kernel_rfl) (by kernel_rfl) ?hq11_2 ?hy11_2 (by assumption) ?rest11_2
              case hi11_2 => (simp only [List.getElem?_toArray, List.getElem?_cons_zero, List.getElem?_cons_succ]; rfl)
              case hq11_2 => exact fun _ _ _ h => h
              case hy11_2 => (refine Or.inl ⟨rfl, ?_⟩; intro w hSw; (try dsimp only at hSw); go_split_ands; (first | (go_simp; done) | (go_simp; with_reducible rfl)))
              simp only [Act.put, List.setIfInBounds_toArray, List.set_cons_zero, List.set_cons_succ]
              refine wpAnyH_take (i := 12) (oi := ?o12_2) (v := ?v12_2) ?hi12_2 (by kernel_rfl) (by kernel_rfl) (by kernel_rfl) ?hq12_2 ?hy12_2 (by assumption) ?rest12_2
              case hi12_2 => (simp only [List.getElem?_toArray, List.getElem?_cons_zero, List.getElem?_cons_succ]; rfl)
              case hq12_2 => exact fun _ _ _ h => h
              case hy12_2 => (refine Or.inl ⟨rfl, ?_⟩; intro w hSw; (try dsimp only at hSw); go_split_ands; (first | (go_simp; done) | (go_simp; with_reducible rfl)))
              simp only [Act.put, List.setIfInBounds_toArray, List.set_cons_zero, List.set_cons_succ]
              refine wpAnyH_take (i := 13) (oi := ?o13_2) (v := ?v13_2) ?hi13_2 (by kernel_rfl) (by kernel_rfl) (by kernel_rfl) ?hq13_2 ?hy13_2 (by assumption) ?rest13_2
              case hi13_2 => (simp only [List.getElem?_toArray, List.getElem?_cons_zero, List.getElem?_cons_succ]; rfl)
              case hq13_2 => exact fun _ _ _ h => h
              case hy13_2 => (refine Or.inl ⟨rfl, ?_⟩; intro w hSw; (try dsimp only at hSw); go_split_ands; (first | (go_simp; done) | (go_simp; with_reducible rfl)))
              simp only [Act.put, List.setIfInBounds_toArray, List.set_cons_zero, List.set_cons_succ]
              refine wpAnyH_take (i := 14) (oi := ?o14_2) (v := ?v14_2) ?hi14_2 (by kernel_rfl) (by kernel_rfl) (by kernel_rfl) ?hq14_2 ?hy14_2 (by assumption) ?rest14_2
              case hi14_2 => (simp only [List.getElem?_toArray, List.getElem?_cons_zero, List.getElem?_cons_succ]; rfl)
              case hq14_2 => exact fun _ _ _ h => h
              case hy14_2 => (refine Or.inl ⟨rfl, ?_⟩; intro w hSw; (try dsimp only at hSw); go_split_ands; (first | (go_simp; done) | (go_simp; with_reducible rfl)))
              simp only [Act.put, List.setIfInBounds_toArray, List.set_cons_zero, List.set_cons_succ]
              refine wpAnyH_take (i := 15) (oi := ?o15_2) (v := ?v15_2) ?hi15_2 (by kernel_rfl) (by kernel_rfl) (by kernel_rfl) ?hq15_2 ?hy15_2 (by assumption) ?rest15_2
              case hi15_2 => (simp only [List.getElem?_toArray, List.getElem?_cons_zero, List.getElem?_cons_succ]; rfl)
              case hq15_2 => exact fun _ _ _ h => h
              case hy15_2 => (refine Or.inl ⟨rfl, ?_⟩; intro w hSw; (try dsimp only at hSw); go_split_ands; (first | (go_simp; done) | (go_simp; with_reducible rfl)))
              simp only [Act.put, List.setIfInBounds_toArray, List.set_cons_zero, List.set_cons_succ]
              refine wpAnyH_take (i := 16) (oi := ?o16_2) (v := ?v16_2) ?hi16_2 (by kernel_rfl) (by kernel_rfl) (by kernel_rfl) ?hq16_2 ?hy16_2 (by assumption) ?rest16_2
              case hi16_2 => (simp only [List.getElem?_toArray, List.getElem?_cons_zero, List.getElem?_cons_succ]; rfl)
              case hq16_2 => exact fun _ _ _ h => h
              case hy16_2 => (refine Or.inl ⟨rfl, ?_⟩; intro w hSw; (try dsimp only at hSw); go_split_ands; (first | (go_simp; done) | (go_simp; with_reducible rfl)))
              simp only [Act.put, List.setIfInBounds_toArray, List.set_cons_zero, List.set_cons_succ]
              refine wpAnyH_take (i := 17) (oi := ?o17_2) (v := ?v17_2) ?hi17_2 (by kernel_rfl) (by kernel_rfl) (by kernel_rfl) ?hq17_2 ?hy17_2 (by assumption) ?rest17_2
              case hi17_2 => (simp only [List.getElem?_toArray, List.getElem?_cons_zero, List.getElem?_cons_succ]; rfl)
              case hq17_2 => exact fun _ _ _ h => h
              case hy17_2 => (refine Or.inl ⟨rfl, ?_⟩; intro w hSw; (try dsimp only at hSw); go_split_ands; (first | (go_simp; done) | (go_simp; with_reducible rfl)))
              simp only [Act.put, List.setIfInBounds_toArray, List.set_cons_zero, List.set_cons_succ]
              refine wpAnyH_take (i := 18) (oi := ?o18_2) (v := ?v18_2) ?hi18_2 (by kernel_rfl) (by kernel_rfl) (by kernel_rfl) ?hq18_2 ?hy18_2 (by assumption) ?rest18_2
              case hi18_2 => (simp only [List.getElem?_toArray, List.getElem?_cons_zero, List.getElem?_cons_succ]; rfl)
              case hq18_2 => exact fun _ _ _ h => h
              case hy18_2 => (refine Or.inl ⟨rfl, ?_⟩; intro w hSw; (try dsimp only at hSw); go_split_ands; (first | (go_simp; done) | (go_simp; with_reducible rfl)))
              simp only [Act.put, List.setIfInBounds_toArray, List.set_cons_zero, List.set_cons_succ]
              refine wpAnyH_take (i := 19) (oi := ?o19_2) (v := ?v19_2) ?hi19_2 (by kernel_rfl) (by kernel_rfl) (by kernel_rfl) ?hq19_2 ?hy19_2 (by assumption) ?rest19_2
              case hi19_2 => (simp only [List.getElem?_toArray, List.getElem?_cons_zero, List.getElem?_cons_succ]; rfl)
              case hq19_2 => exact fun _ _ _ h => h
              case hy19_2 => (refine Or.inl ⟨rfl, ?_⟩; intro w hSw; (try dsimp only at hSw); go_split_ands; (first | (go_simp; done) | (go_simp; with_reducible rfl)))
              simp only [Act.put, List.setIfInBounds_toArray, List.set_cons_zero, List.set_cons_succ]
              refine wpAnyH_take (i := 20) (oi := ?o20_2) (v := ?v20_2) ?hi20_2 (by kernel_rfl) (by kernel_rfl) (by kernel_rfl) ?hq20_2 ?hy20_2 (by assumption) ?rest20_2
              case hi20_2 => (simp only [List.getElem?_toArray, List.getElem?_cons_zero, List.getElem?_cons_succ]; rfl)
              case hq20_2 => exact fun _ _ _ h => h
              case hy20_2 => (refine Or.inl ⟨rfl, ?_⟩; intro w hSw; (try dsimp only at hSw); go_split_ands; (first | (go_simp; done) | (go_simp; with_reducible rfl)))
              simp only [Act.put, List.setIfInBounds_toArray, List.set_cons_zero, List.set_cons_succ]
              refine wpAnyH_take (i := 21) (oi := ?o21_2) (v := ?v21_2) ?hi21_2 (by kernel_rfl) (by kernel_rfl) (by kernel_rfl) ?hq21_2 ?hy21_2 (by assumption) ?rest21_2
              case hi21_2 => (simp only [List.getElem?_toArray, List.getElem?_cons_zero, List.getElem?_cons_succ]; rfl)
              case hq21_2 => exact fun _ _ _ h => h
              case hy21_2 => (refine Or.inl ⟨rfl, ?_⟩; intro w hSw; (try dsimp only at hSw); go_split_ands; (first | (go_simp; done) | (go_simp; with_reducible rfl)))
              simp only [Act.put, List.setIfInBounds_toArray, List.set_cons_zero, List.set_cons_succ]
              refine wpAnyH_done (by kernel_rfl) ?_ _
              clear hHeld
              go_upto_region 16 with fail
              refine wp_region_held_drew (S := fun w' => (∀ b o, b < wr.heap.size → w'.cell? ⟨b, o, none⟩ = wr.cell? ⟨b, o, none⟩) ∧ wr.heap.size ≤ w'.heap.size ∧ Below wr.heap.size wr w') (by kernel_rfl) (SB.of hB2.size hB2) (fun hHeld => ?_)
              refine wpAnyH_take (i := 0) (oi := ?o0_3) (v := ?v0_3) ?hi0_3 (by kernel_rfl) (by kernel_rfl) (by kernel_rfl) ?hq0_3 ?hy0_3 (by assumption) ?rest0_3
              case hi0_3 => (simp only [List.getElem?_toArray, List.getElem?_cons_zero, List.getElem?_cons_succ]; rfl)
              case hq0_3 => exact fun _ _ _ h => h
              case hy0_3 => (refine Or.inl ⟨rfl, ?_⟩; intro w hSw; (try dsimp only at hSw); go_split_ands; (first | (go_simp; done) | (go_simp; with_reducible rfl)))
              simp only [Act.put, List.setIfInBounds_toArray, List.set_cons_zero, List.set_cons_succ]
              refine wpAnyH_take (i := 1) (oi := ?o1_3) (v := ?v1_3) ?hi1_3 (by kernel_rfl) (by kernel_rfl) (by kernel_rfl) ?hq1_3 ?hy1_3 (by assumption) ?rest1_3
              case hi1_3 => (simp only [List.getElem?_toArray, List.getElem?_cons_zero, List.getElem?_cons_succ]; rfl)
              case hq1_3 => exact fun _ _ _ h => h
              case hy1_3 => (refine Or.inl ⟨rfl, ?_⟩; intro w hSw; (try dsimp only at hSw); go_split_ands; (first | (go_simp; done) | (go_simp; with_reducible rfl)))
              simp only [Act.put, List.setIfInBounds_toArray, List.set_cons_zero, List.set_cons_succ]
              refine wpAnyH_take (i := 2) (oi := ?o2_3) (v := ?v2_3) ?hi2_3 (by kernel_rfl) (by kernel_rfl) (by kernel_rfl) ?hq2_3 ?hy2_3 (by assumption) ?rest2_3
              case hi2_3 => (simp only [List.getElem?_toArray, List.getElem?_cons_zero, List.getElem?_cons_succ]; rfl)
              case hq2_3 => exact fun _ _ _ h => h
              case hy2_3 => (refine Or.inl ⟨rfl, ?_⟩; intro w hSw; (try dsimp only at hSw); go_split_ands; (first | (go_simp; done) | (go_simp; with_reducible rfl)))
              simp only [Act.put, List.setIfInBounds_toArray, List.set_cons_zero, List.set_cons_succ]
              refine wpAnyH_take (i := 3) (oi := ?o3_3) (v := ?v3_3) ?hi3_3 (by kernel_rfl) (by kernel_rfl) (by kernel_rfl) ?hq3_3 ?hy3_3 (by assumption) ?rest3_3
              case hi3_3 => (simp only [List.getElem?_toArray, List.getElem?_cons_zero, List.getElem?_cons_succ]; rfl)
              case hq3_3 => exact fun _ _ _ h => h
              case hy3_3 => (refine Or.inl ⟨rfl, ?_⟩; intro w hSw; (try dsimp only at hSw); go_split_ands; (first | (go_simp; done) | (go_simp; with_reducible rfl)))
              simp only [Act.put, List.setIfInBounds_toArray, List.set_cons_zero, List.set_cons_succ]
              refine wpAnyH_take (i := 4) (oi := ?o4_3) (v := ?v4_3) ?hi4_3 (by kernel_rfl) (by kernel_rfl) (by kernel_rfl) ?hq4_3 ?hy4_3 (by assumption) ?rest4_3
              case hi4_3 => (simp only [List.getElem?_toArray, List.getElem?_cons_zero, List.getElem?_cons_succ]; rfl)
              case hq4_3 => exact fun _ _ _ h => h
              case hy4_3 => (refine Or.inl ⟨rfl, ?_⟩; intro w hSw; (try dsimp only at hSw); go_split_ands; (first | (go_simp; done) | (go_simp; with_reducible rfl)))
              simp only [Act.put, List.setIfInBounds_toArray, List.set_cons_zero, List.set_cons_succ]
              refine wpAnyH_take (i := 5) (oi := ?o5_3) (v := ?v5_3) ?hi5_3 (by kernel_rfl) (by kernel_rfl) (by kernel_rfl) ?hq5_3 ?hy5_3 (by assumption) ?rest5_3
              case hi5_3 => (simp only [List.getElem?_toArray, List.getElem?_cons_zero, List.getElem?_cons_succ]; rfl)
              case hq5_3 => exact fun _ _ _ h => h
              case hy5_3 => (refine Or.inl ⟨rfl, ?_⟩; intro w hSw; (try dsimp only at hSw); go_split_ands; (first | (go_simp; done) | (go_simp; with_reducible rfl)))
              simp only [Act.put, List.setIfInBounds_toArray, List.set_cons_zero, List.set_cons_succ]
              refine wpAnyH_take (i := 6) (oi := ?o6_3) (v := ?v6_3) ?hi6_3 (by kernel_rfl) (by kernel_rfl) (by kernel_rfl) ?hq6_3 ?hy6_3 (by assumption) ?rest6_3
              case hi6_3 => (simp only [List.getElem?_toArray, List.getElem?_cons_zero, List.getElem?_cons_succ]; rfl)
              case hq6_3 => exact fun _ _ _ h => h
              case hy6_3 => (refine Or.inl ⟨rfl, ?_⟩; intro w hSw; (try dsimp only at hSw); go_split_ands; (first | (go_simp; done) | (go_simp; with_reducible rfl)))
              simp only [Act.put, List.setIfInBounds_toArray, List.set_cons_zero, List.set_cons_succ]
              refine wpAnyH_take (i := 7) (oi := ?o7_3) (v := ?v7_3) ?hi7_3 (by kernel_rfl) (by kernel_rfl) (by kernel_rfl) ?hq7_3 ?hy7_3 (by assumption) ?rest7_3
              case hi7_3 => (simp only [List.getElem?_toArray, List.getElem?_cons_zero, List.getElem?_cons_succ]; rfl)
              case hq7_3 => exact fun _ _ _ h => h
              case hy7_3 => (refine Or.inl ⟨rfl, ?_⟩; intro w hSw; (try dsimp only at hSw); go_split_ands; (first | (go_simp; done) | (go_simp; with_reducible rfl)))
              simp only [Act.put, List.setIfInBounds_toArray, List.set_cons_zero, List.set_cons_succ]
              refine wpAnyH_take (i := 8) (oi := ?o8_3) (v := ?v8_3) ?hi8_3 (by kernel_rfl) (by kernel_rfl) (by kernel_rfl) ?hq8_3 ?hy8_3 (by assumption) ?rest8_3
              case hi8_3 => (simp only [List.getElem?_toArray, List.getElem?_cons_zero, List.getElem?_cons_succ]; rfl)
              case hq8_3 => exact fun _ _ _ h => h
              case hy8_3 => (refine Or.inl ⟨rfl, ?_⟩; intro w hSw; (try dsimp only at hSw); go_split_ands; (first | (go_simp; done) | (go_simp; with_reducible rfl)))
              simp only [Act.put, List.setIfInBounds_toArray, List.set_cons_zero, List.set_cons_succ]
              refine wpAnyH_take (i := 9) (oi := ?o9_3) (v := ?v9_3) ?hi9_3 (by kernel_rfl) (by kernel_rfl) (by kernel_rfl) ?hq9_3 ?hy9_3 (by assumption) ?rest9_3
              case hi9_3 => (simp only [List.getElem?_toArray, List.getElem?_cons_zero, List.getElem?_cons_succ]; rfl)
              case hq9_3 => exact fun _ _ _ h => h
              case hy9_3 => (refine Or.inl ⟨rfl, ?_⟩; intro w hSw; (try dsimp only at hSw); go_split_ands; (first | (go_simp; done) | (go_simp; with_reducible rfl)))
              simp only [Act.put, List.setIfInBounds_toArray, List.set_cons_zero, List.set_cons_succ]
              refine wpAnyH_take (i := 10) (oi := ?o10_3) (v := ?v10_3) ?hi10_3 (by kernel_rfl) (by kernel_rfl) (by kernel_rfl) ?hq10_3 ?hy10_3 (by assumption) ?rest10_3
              case hi10_3 => (simp only [List.getElem?_toArray, List.getElem?_cons_zero, List.getElem?_cons_succ]; rfl)
              case hq10_3 => exact fun _ _ _ h => h
              case hy10_3 => (refine Or.inl ⟨rfl, ?_⟩; intro w hSw; (try dsimp only at hSw); go_split_ands; (first | (go_simp; done) | (go_simp; with_reducible rfl)))
              simp only [Act.put, List.setIfInBounds_toArray, List.set_cons_zero, List.set_cons_succ]
              refine wpAnyH_take (i := 11) (oi := ?o11_3) (v := ?v11_3) ?hi11_3 (by kernel_rfl) (by kernel_rfl) (by kernel_rfl) ?hq11_3 ?hy11_3 (by assumption) ?rest11_3
              case hi11_3 => (simp only [List.getElem?_toArray, List.getElem?_cons_zero, List.getElem?_cons_succ]; rfl)
              case hq11_3 => exact fun _ _ _ h => h
              case hy11_3 => (refine Or.inl ⟨rfl, ?_⟩; intro w hSw; (try dsimp only at hSw); go_split_ands; (first | (go_simp; done) | (go_simp; with_reducible rfl)))
              simp only [Act.put, List.setIfInBounds_toArray, List.set_cons_zero, List.set_cons_succ]
              refine wpAnyH_take (i := 12) (oi := ?o12_3) (v := ?v12_3) ?hi12_3 (by kernel_rfl) (by kernel_rfl) (by kernel_rfl) ?hq12_3 ?hy12_3 (by assumption) ?rest12_3
              case hi12_3 => (simp only [List.getElem?_toArray, List.getElem?_cons_zero, List.getElem?_cons_succ]; rfl)
              case hq12_3 => exact fun _ _ _ h => h
              case hy12_3 => (refine Or.inl ⟨rfl, ?_⟩; intro w hSw; (try dsimp only at hSw); go_split_ands; (first | (go_simp; done) | (go_simp; with_reducible rfl)))
              simp only [Act.put, List.setIfInBounds_toArray, List.set_cons_zero, List.set_cons_succ]
              refine wpAnyH_take (i := 13) (oi := ?o13_3) (v := ?v13_3) ?hi13_3 (by kernel_rfl) (by kernel_rfl) (by kernel_rfl) ?hq13_3 ?hy13_3 (by assumption) ?rest13_3
              case hi13_3 => (simp only [List.getElem?_toArray, List.getElem?_cons_zero, List.getElem?_cons_succ]; rfl)
              case hq13_3 => exact fun _ _ _ h => h
              case hy13_3 => (refine Or.inl ⟨rfl, ?_⟩; intro w hSw; (try dsimp only at hSw); go_split_ands; (first | (go_simp; done) | (go_simp; with_reducible rfl)))
              simp only [Act.put, List.setIfInBounds_toArray, List.set_cons_zero, List.set_cons_succ]
              refine wpAnyH_take (i := 14) (oi := ?o14_3) (v := ?v14_3) ?hi14_3 (by kernel_rfl) (by kernel_rfl) (by kernel_rfl) ?hq14_3 ?hy14_3 (by assumption) ?rest14_3
              case hi14_3 => (simp only [List.getElem?_toArray, List.getElem?_cons_zero, List.getElem?_cons_succ]; rfl)
              case hq14_3 => exact fun _ _ _ h => h
              case hy14_3 => (refine Or.inl ⟨rfl, ?_⟩; intro w hSw; (try dsimp only at hSw); go_split_ands; (first | (go_simp; done) | (go_simp; with_reducible rfl)))
              simp only [Act.put, List.setIfInBounds_toArray, List.set_cons_zero, List.set_cons_succ]
              refine wpAnyH_take (i := 15) (oi := ?o15_3) (v := ?v15_3) ?hi15_3 (by kernel_rfl) (by kernel_rfl) (by kernel_rfl) ?hq15_3 ?hy15_3 (by assumption) ?rest15_3
              case hi15_3 => (simp only [List.getElem?_toArray, List.getElem?_cons_zero, List.getElem?_cons_succ]; rfl)
              case hq15_3 => exact fun _ _ _ h => h
              case hy15_3 => (refine Or.inl ⟨rfl, ?_⟩; intro w hSw; (try dsimp only at hSw); go_split_ands; (first | (go_simp; done) | (go_simp; with_reducible rfl)))
              simp only [Act.put, List.setIfInBounds_toArray, List.set_cons_zero, List.set_cons_succ]
              refine wpAnyH_take (i := 16) (oi := ?o16_3) (v := undef) ?hi16_3 (by kernel_rfl) (by kernel_rfl) (by kernel_rfl) ?hq16_3 ?hy16_3 (by assumption) ?rest16_3
              case hi16_3 => (simp only [List.getElem?_toArray, List.getElem?_cons_zero, List.getElem?_cons_succ]; rfl)
              case hq16_3 => exact fun _ _ _ h => h
              case hy16_3 => exact Or.inr ⟨rfl, rfl⟩
              simp only [Act.put, List.setIfInBounds_toArray, List.set_cons_zero, List.set_cons_succ]
              refine wpAnyH_take (i := 17) (oi := ?o17_3) (v := undef) ?hi17_3 (by kernel_rfl) (by kernel_rfl) (by kernel_rfl) ?hq17_3 ?hy17_3 (by assumption) ?rest17_3
              case hi17_3 => (simp only [List.getElem?_toArray, List.getElem?_cons_zero, List.getElem?_cons_succ]; rfl)
              case hq17_3 => exact fun _ _ _ h => h
              case hy17_3 => exact Or.inr ⟨rfl, rfl⟩
              simp only [Act.put, List.setIfInBounds_toArray, List.set_cons_zero, List.set_cons_succ]
              refine wpAnyH_take (i := 18) (oi := ?o18_3) (v := undef) ?hi18_3 (by kernel_rfl) (by kernel_rfl) (by kernel_rfl) ?hq18_3 ?hy18_3 (by assumption) ?rest18_3
              case hi18_3 => (simp only [List.getElem?_toArray, List.getElem?_cons_zero, List.getElem?_cons_succ]; rfl)
              case hq18_3 => exact fun _ _ _ h => h
              case hy18_3 => exact Or.inr ⟨rfl, rfl⟩
              simp only [Act.put, List.setIfInBounds_toArray, List.set_cons_zero, List.set_cons_succ]
              refine wpAnyH_take (i := 19) (oi := ?o19_3) (v := undef) ?hi19_3 (by kernel_rfl) (by kernel_rfl) (by kernel_rfl) ?hq19_3 ?hy19_3 (by assumption) ?rest19_3
              case hi19_3 => (simp only [List.getElem?_toArray, List.getElem?_cons_zero, List.getElem?_cons_succ]; rfl)
              case hq19_3 => exact fun _ _ _ h => h
              case hy19_3 => exact Or.inr ⟨rfl, rfl⟩
              simp only [Act.put, List.setIfInBounds_toArray, List.set_cons_zero, List.set_cons_succ]
              refine wpAnyH_take (i := 20) (oi := ?o20_3) (v := undef) ?hi20_3 (by kernel_rfl) (by kernel_rfl) (by kernel_rfl) ?hq20_3 ?hy20_3 (by assumption) ?rest20_3
              case hi20_3 => (simp only [List.getElem?_toArray, List.getElem?_cons_zero, List.getElem?_cons_succ]; rfl)
              case hq20_3 => exact fun _ _ _ h => h
              case hy20_3 => exact Or.inr ⟨rfl, rfl⟩
              simp only [Act.put, List.setIfInBounds_toArray, List.set_cons_zero, List.set_cons_succ]
              refine wpAnyH_take (i := 21) (oi := ?o21_3) (v := undef) ?hi21_3 (by kernel_rfl) (by kernel_rfl) (by kernel_rfl) ?hq21_3 ?hy21_3 (by assumption) ?rest21_3
              case hi21_3 => (simp only [List.getElem?_toArray, List.getElem?_cons_zero, List.getElem?_cons_succ]; rfl)
              case hq21_3 => exact fun _ _ _ h => h
              case hy21_3 => exact Or.inr ⟨rfl, rfl⟩
              simp only [Act.put, List.setIfInBounds_toArray, List.set_cons_zero, List.set_cons_succ]
              refine wpAnyH_take (i := 22) (oi := ?o22_3) (v := undef) ?hi22_3 (by kernel_rfl) (by kernel_rfl) (by kernel_rfl) ?hq22_3 ?hy22_3 (by assumption) ?rest22_3
              case hi22_3 => (simp only [List.getElem?_toArray, List.getElem?_cons_zero, List.getElem?_cons_succ]; rfl)
              case hq22_3 => exact fun _ _ _ h => h
              case hy22_3 => exact Or.inr ⟨rfl, rfl⟩
              simp only [Act.put, List.setIfInBounds_toArray, List.set_cons_zero, List.set_cons_succ]
              refine wpAnyH_take (i := 23) (oi := ?o23_3) (v := undef) ?hi23_3 (by kernel_rfl) (by kernel_rfl) (by kernel_rfl) ?hq23_3 ?hy23_3 (by assumption) ?rest23_3
              case hi23_3 => (simp only [List.getElem?_toArray, List.getElem?_cons_zero, List.getElem?_cons_succ]; rfl)
              case hq23_3 => exact fun _ _ _ h => h
              case hy23_3 => exact Or.inr ⟨rfl, rfl⟩
              simp only [Act.put, List.setIfInBounds_toArray, List.set_cons_zero, List.set_cons_succ]
              refine wpAnyH_take (i := 24) (oi := ?o24_3) (v := undef) ?hi24_3 (by kernel_rfl) (by kernel_rfl) (by kernel_rfl) ?hq24_3 ?hy24_3 (by assumption) ?rest24_3
              case hi24_3 => (simp only [List.getElem?_toArray, List.getElem?_cons_zero, List.getElem?_cons_succ]; rfl)
              case hq24_3 => exact fun _ _ _ h => h
              case hy24_3 => exact Or.inr ⟨rfl, rfl⟩
              simp only [Act.put, List.setIfInBounds_toArray, List.set_cons_zero, List.set_cons_succ]
              refine wpAnyH_take (i := 25) (oi := ?o25_3) (v := undef) ?hi25_3 (by kernel_rfl) (by kernel_rfl) (by kernel_rfl) ?hq25_3 ?hy25_3 (by assumption) ?rest25_3
              case hi25_3 => (simp only [List.getElem?_toArray, List.getElem?_cons_zero, List.getElem?_cons_succ]; rfl)
              case hq25_3 => exact fun _ _ _ h => h
              case hy25_3 => exact Or.inr ⟨rfl, rfl⟩
              simp only [Act.put, List.setIfInBounds_toArray, List.set_cons_zero, List.set_cons_succ]
              refine wpAnyH_take (i := 26) (oi := ?o26_3) (v := undef) ?hi26_3 (by kernel_rfl) (by kernel_rfl) (by kernel_rfl) ?hq26_3 ?hy26_3 (by assumption) ?rest26_3
              case hi26_3 => (simp only [List.getElem?_toArray, List.getElem?_cons_zero, List.getElem?_cons_succ]; rfl)
              case hq26_3 => exact fun _ _ _ h => h
              case hy26_3 => exact Or.inr ⟨rfl, rfl⟩
              simp only [Act.put, List.setIfInBounds_toArray, List.set_cons_zero, List.set_cons_succ]
              refine wpAnyH_take (i := 27) (oi := ?o27_3) (v := ?v27_3) ?hi27_3 (by kernel_rfl) (by kernel_rfl) (by kernel_rfl) ?hq27_3 ?hy27_3 (by assumption) ?rest27_3
              case hi27_3 => (simp only [List.getElem?_toArray, List.getElem?_cons_zero, List.getElem?_cons_succ]; rfl)
              case hq27_3 => exact fun _ _ _ h => h
              case hy27_3 => (refine Or.inl ⟨rfl, ?_⟩; intro w hSw; (try dsimp only at hSw); go_split_ands; (first | (go_simp; done) | (go_simp; with_reducible rfl)))
              simp only [Act.put, List.setIfInBounds_toArray, List.set_cons_zero, List.set_cons_succ]
              refine wpAnyH_take (i := 28) (oi := ?o28_3) (v := ?v28_3) ?hi28_3 (by kernel_rfl) (by kernel_rfl) (by kernel_rfl) ?hq28_3 ?hy28_3 (by assumption) ?rest28_3
              case hi28_3 => (simp only [List.getElem?_toArray, List.getElem?_cons_zero, List.getElem?_cons_succ]; rfl)
              case hq28_3 => exact fun _ _ _ h => h
              case hy28_3 => (refine Or.inl ⟨rfl, ?_⟩; intro w hSw; (try dsimp only at hSw); go_split_ands; (first | (go_simp; done) | (go_simp; with_reducible rfl)))
              simp only [Act.put, List.setIfInBounds_toArray, List.set_cons_zero, List.set_cons_succ]
              refine wpAnyH_done (by kernel_rfl) ?_ _
              clear hHeld
              go_wp2
              go_roundw
              case rel => exact ⟨i + 1, by go_num, by omega, HNx⟩
              case measure => simp [intOf]; omega
            · obtain ⟨m, hm⟩ : ∃ m, i = m + 1 := ⟨i - 1, by omega⟩
              have ci : decide ((0 : Int) < (i : Int)) = true := by simp; omega
              have ci2 : (0 : Int) < (i : Int) := by omega
              have ci3 : 0 < i := by omega
              have ci4 : decide (0 < i) = true := by simp; omega
              have cm : IntKind.i64.wrap ((i : Int) - 1) = (m : Int) := by rw [IntWalk.i64_in _ (by omega)]; omega
              have mn : (m : Int) < (n : Int) := by omega
              have mz : (0 : Int) ≤ (m : Int) := by omega
              obtain ⟨b', o', e', r0⟩ := row7 (HR3.out.kept (HBW.out.trans (hbk.out.mono HBW.out.size))) (show m < n by omega)
              injection e' with e'
              injection e' with e1 e2
              subst e1; subst e2
              have r2 := r0 2 (by omega)
              simp [peCells, peAt] at r2
              obtain ⟨v', hv'⟩ : ∃ v', nOf cs (t m) = v' := ⟨_, rfl⟩
              rw [hv'] at r2
              have hle := srt_le HSrt.out (show m + 1 < n by omega)
              rw [← hm, HAe.out, hv'] at hle
              have cv : decide ((v : Int) < (v' : Int)) = false := by simp; omega
              have cv2 : ¬ (v : Int) < (v' : Int) := by omega
              have cv3 : ¬ v < v' := by omega
              have cv4 : decide (v < v') = false := by simp; omega
              have cv5 : v' ≤ v := by omega
              have lb := lt_of_cell r2
              dsimp only at lb
              clear hT hv hu hu' d0 hkt hxk hi0' r0 hv' hle hm
              refine wp_region_held_drew (S := fun w' => (∀ b o, b < wr.heap.size → w'.cell? ⟨b, o, none⟩ = wr.cell? ⟨b, o, none⟩) ∧ wr.heap.size ≤ w'.heap.size ∧ Below wr.heap.size wr w') (by kernel_rfl) (by with_reducible exact SB.start (by omega)) (fun hHeld => ?_)
              refine wpAnyH_take (i := 0) (oi := ?o0_4) (v := ?v0_4) ?hi0_4 (by kernel_rfl) (by kernel_rfl) (by kernel_rfl) ?hq0_4 ?hy0_4 (by assumption) ?rest0_4
              case hi0_4 => (simp only [List.getElem?_toArray, List.getElem?_cons_zero, List.getElem?_cons_succ]; rfl)
              case hq0_4 => exact fun _ _ _ h => h
              case hy0_4 => (refine Or.inl ⟨rfl, ?_⟩; intro w hSw; (try dsimp only at hSw); go_split_ands; (first | (go_simp; done) | (go_simp; with_reducible rfl)))
              simp only [Act.put, List.setIfInBounds_toArray, List.set_cons_zero, List.set_cons_succ]
              refine wpAnyH_take (i := 1) (oi := ?o1_4) (v := ?v1_4) ?hi1_4 (by kernel_rfl) (by kernel_rfl) (by kernel_rfl) ?hq1_4 ?hy1_4 (by assumption) ?rest1_4
              case hi1_4 => (simp only [List.getElem?_toArray, List.getElem?_cons_zero, List.getElem?_cons_succ]; rfl)
              case hq1_4 => exact fun _ _ _ h => h
              case hy1_4 => (refine Or.inl ⟨rfl, ?_⟩; intro w hSw; (try dsimp only at hSw); go_split_ands; (first | (go_simp; done) | (go_simp; with_reducible rfl)))
              simp only [Act.put, List.setIfInBounds_toArray, List.set_cons_zero, List.set_cons_succ]
              refine wpAnyH_take (i := 2) (oi := ?o2_4) (v := ?v2_4) ?hi2_4 (by kernel_rfl) (by kernel_rfl) (by kernel_rfl) ?hq2_4 ?hy2_4 (by assumption) ?rest2_4
              case hi2_4 => (simp only [List.getElem?_toArray, List.getElem?_cons_zero, List.getElem?_cons_succ]; rfl)
              case hq2_4 => exact fun _ _ _ h => h
              case hy2_4 => (refine Or.inl ⟨rfl, ?_⟩; intro w hSw; (try dsimp only at hSw); go_split_ands; (first | (go_simp; done) | (go_simp; with_reducible rfl)))
              simp only [Act.put, List.setIfInBounds_toArray, List.set_cons_zero, List.set_cons_succ]
              refine wpAnyH_take (i := 3) (oi := ?o3_4) (v := ?v3_4) ?hi3_4 (by kernel_rfl) (by kernel_rfl) (by kernel_rfl) ?hq3_4 ?hy3_4 (by assumption) ?rest3_4
              case hi3_4 => (simp only [List.getElem?_toArray, List.getElem?_cons_zero, List.getElem?_cons_succ]; rfl)
              case hq3_4 => exact fun _ _ _ h => h
              case hy3_4 => (refine Or.inl ⟨rfl, ?_⟩; intro w hSw; (try dsimp only at hSw); go_split_ands; (first | (go_simp; done) | (go_simp; with_reducible rfl)))
              simp only [Act.put, List.setIfInBounds_toArray, List.set_cons_zero, List.set_cons_succ]
              refine wpAnyH_take (i := 4) (oi := ?o4_4) (v := ?v4_4) ?hi4_4 (by kernel_rfl) (by kernel_rfl) (by kernel_rfl) ?hq4_4 ?hy4_4 (by assumption) ?rest4_4
              case hi4_4 => (simp only [List.getElem?_toArray, List.getElem?_cons_zero, List.getElem?_cons_succ]; rfl)
              case hq4_4 => exact fun _ _ _ h => h
              case hy4_4 => (refine Or.inl ⟨rfl, ?_⟩; intro w hSw; (try dsimp only at hSw); go_split_ands; (first | (go_simp; done) | (go_simp; with_reducible rfl)))
              simp only [Act.put, List.setIfInBounds_toArray, List.set_cons_zero, List.set_cons_succ]
              refine wpAnyH_take (i := 5) (oi := ?o5_4) (v := ?v5_4) ?hi5_4 (by kernel_rfl) (by kernel_rfl) (by kernel_rfl) ?hq5_4 ?hy5_4 (by assumption) ?rest5_4
              case hi5_4 => (simp only [List.getElem?_toArray, List.getElem?_cons_zero, List.getElem?_cons_succ]; rfl)
              case hq5_4 => exact fun _ _ _ h => h
              case hy5_4 => (refine Or.inl ⟨rfl, ?_⟩; intro w hSw; (try dsimp only at hSw); go_split_ands; (first | (go_simp; done) | (go_simp; with_reducible rfl)))
              simp only [Act.put, List.setIfInBounds_toArray, List.set_cons_zero, List.set_cons_succ]
              refine wpAnyH_take (i := 6) (oi := ?o6_4) (v := ?v6_4) ?hi6_4 (by kernel_rfl) (by kernel_rfl) (by kernel_rfl) ?hq6_4 ?hy6_4 (by assumption) ?rest6_4
              case hi6_4 => (simp only [List.getElem?_toArray, List.getElem?_cons_zero, List.getElem?_cons_succ]; rfl)
              case hq6_4 => exact fun _ _ _ h => h
              case hy6_4 => (refine Or.inl ⟨rfl, ?_⟩; intro w hSw; (try dsimp only at hSw); go_split_ands; (first | (go_simp; done) | (go_simp; with_reducible rfl)))
              simp only [Act.put, List.setIfInBounds_toArray, List.set_cons_zero, List.set_cons_succ]
              refine wpAnyH_take (i := 7) (oi := ?o7_4) (v := ?v7_4) ?hi7_4 (by kernel_rfl) (by kernel_rfl) (by kernel_rfl) ?hq7_4 ?hy7_4 (by assumption) ?rest7_4
              case hi7_4 => (simp only [List.getElem?_toArray, List.getElem?_cons_zero, List.getElem?_cons_succ]; rfl)
              case hq7_4 => exact fun _ _ _ h => h
              case hy7_4 => (refine Or.inl ⟨rfl, ?_⟩; intro w hSw; (try dsimp only at hSw); go_split_ands; (first | (go_simp; done) | (go_simp; with_reducible rfl)))
              simp only [Act.put, List.setIfInBounds_toArray, List.set_cons_zero, List.set_cons_succ]
              refine wpAnyH_take (i := 8) (oi := ?o8_4) (v := ?v8_4) ?hi8_4 (by kernel_rfl) (by kernel_rfl) (by kernel_rfl) ?hq8_4 ?hy8_4 (by assumption) ?rest8_4
              case hi8_4 => (simp only [List.getElem?_toArray, List.getElem?_cons_zero, List.getElem?_cons_succ]; rfl)
              case hq8_4 => exact fun _ _ _ h => h
              case hy8_4 => (refine Or.inl ⟨rfl, ?_⟩; intro w hSw; (try dsimp only at hSw); go_split_ands; (first | (go_simp; done) | (go_simp; with_reducible rfl)))
              simp only [Act.put, List.setIfInBounds_toArray, List.set_cons_zero, List.set_cons_succ]
              refine wpAnyH_take (i := 9) (oi := ?o9_4) (v := ?v9_4) ?hi9_4 (by kernel_rfl) (by kernel_rfl) (by kernel_rfl) ?hq9_4 ?hy9_4 (by assumption) ?rest9_4
              case hi9_4 => (simp only [List.getElem?_toArray, List.getElem?_cons_zero, List.getElem?_cons_succ]; rfl)
              case hq9_4 => exact fun _ _ _ h => h
              case hy9_4 => (refine Or.inl ⟨rfl, ?_⟩; intro w hSw; (try dsimp only at hSw); go_split_ands; (first | (go_simp; done) | (go_simp; with_reducible rfl)))
              simp only [Act.put, List.setIfInBounds_toArray, List.set_cons_zero, List.set_cons_succ]
              refine wpAnyH_take (i := 10) (oi := ?o10_4) (v := ?v10_4) ?hi10_4 (by kernel_rfl) (by kernel_rfl) (by kernel_rfl) ?hq10_4 ?hy10_4 (by assumption) ?rest10_4
              case hi10_4 => (simp only [List.getElem?_toArray, List.getElem?_cons_zero, List.getElem?_cons_succ]; rfl)
              case hq10_4 => exact fun _ _ _ h => h
              case hy10_4 => (refine Or.inl ⟨rfl, ?_⟩; intro w hSw; (try dsimp only at hSw); go_split_ands; (first | (go_simp; done) | (go_simp; with_reducible rfl)))
              simp only [Act.put, List.setIfInBounds_toArray, List.set_cons_zero, List.set_cons_succ]
              refine wpAnyH_take (i := 11) (oi := ?o11_4) (v := ?v11_4) ?hi11_4 (by kernel_rfl) (by kernel_rfl) (by kernel_rfl) ?hq11_4 ?hy11_4 (by assumption) ?rest11_4
              case hi11_4 => (simp only [List.getElem?_toArray, List.getElem?_cons_zero, List.getElem?_cons_succ]; rfl)
              case hq11_4 => exact fun _ _ _ h => h
              case hy11_4 => (refine Or.inl ⟨rfl, ?_⟩; intro w hSw; (try dsimp only at hSw); go_split_ands; (first | (go_simp; done) | (go_simp; with_reducible rfl)))
              simp only [Act.put, List.setIfInBounds_toArray, List.set_cons_zero, List.set_cons_succ]
              refine wpAnyH_take (i := 12) (oi := ?o12_4) (v := ?v12_4) ?hi12_4 (by kernel_rfl) (by kernel_rfl) (by kernel_rfl) ?hq12_4 ?hy12_4 (by assumption) ?rest12_4
              case hi12_4 => (simp only [List.getElem?_toArray, List.getElem?_cons_zero, List.getElem?_cons_succ]; rfl)
              case hq12_4 => exact fun _ _ _ h => h
              case hy12_4 => (refine Or.inl ⟨rfl, ?_⟩; intro w hSw; (try dsimp only at hSw); go_split_ands; (first | (go_simp; done) | (go_simp; with_reducible rfl)))
              simp only [Act.put, List.setIfInBounds_toArray, List.set_cons_zero, List.set_cons_succ]
              refine wpAnyH_take (i := 13) (oi := ?o13_4) (v := ?v13_4) ?hi13_4 (by kernel_rfl) (by kernel_rfl) (by kernel_rfl) ?hq13_4 ?hy13_4 (by assumption) ?rest13_4
              case hi13_4 => (simp only [List.getElem?_toArray, List.getElem?_cons_zero, List.getElem?_cons_succ]; rfl)
              case hq13_4 => exact fun _ _ _ h => h
              case hy13_4 => (refine Or.inl ⟨rfl, ?_⟩; intro w hSw; (try dsimp only at hSw); go_split_ands; (first | (go_simp; done) | (go_simp; with_reducible rfl)))
              simp only [Act.put, List.setIfInBounds_toArray, List.set_cons_zero, List.set_cons_succ]
              refine wpAnyH_take (i := 14) (oi := ?o14_4) (v := ?v14_4) ?hi14_4 (by kernel_rfl) (by kernel_rfl) (by kernel_rfl) ?hq14_4 ?hy14_4 (by assumption) ?rest14_4
              case hi14_4 => (simp only [List.getElem?_toArray, List.getElem?_cons_zero, List.getElem?_cons_succ]; rfl)
              case hq14_4 => exact fun _ _ _ h => h
              case hy14_4 => (refine Or.inl ⟨rfl, ?_⟩; intro w hSw; (try dsimp only at hSw); go_split_ands; (first | (go_simp; done) | (go_simp; with_reducible rfl)))
              simp only [Act.put, List.setIfInBounds_toArray, List.set_cons_zero, List.set_cons_succ]
              refine wpAnyH_take (i := 15) (oi := ?o15_4) (v := ?v15_4) ?hi15_4 (by kernel_rfl) (by kernel_rfl) (by kernel_rfl) ?hq15_4 ?hy15_4 (by assumption) ?rest15_4
              case hi15_4 => (simp only [List.getElem?_toArray, List.getElem?_cons_zero, List.getElem?_cons_succ]; rfl)
              case hq15_4 => exact fun _ _ _ h => h
              case hy15_4 => (refine Or.inl ⟨rfl, ?_⟩; intro w hSw; (try dsimp only at hSw); go_split_ands; (first | (go_simp; done) | (go_simp; with_reducible rfl)))
              simp only [Act.put, List.setIfInBounds_toArray, List.set_cons_zero, List.set_cons_succ]
              refine wpAnyH_take (i := 16) (oi := ?o16_4) (v := ?v16_4) ?hi16_4 (by kernel_rfl) (by kernel_rfl) (by kernel_rfl) ?hq16_4 ?hy16_4 (by assumption) ?rest16_4
              case hi16_4 => (simp only [List.getElem?_toArray, List.getElem?_cons_zero, List.getElem?_cons_succ]; rfl)
              case hq16_4 => exact fun _ _ _ h => h
              case hy16_4 => (refine Or.inl ⟨rfl, ?_⟩; intro w hSw; (try dsimp only at hSw); go_split_ands; (first | (go_simp; done) | (go_simp; with_reducible rfl)))
              simp only [Act.put, List.setIfInBounds_toArray, List.set_cons_zero, List.set_cons_succ]
              refine wpAnyH_take (i := 17) (oi := ?o17_4) (v := ?v17_4) ?hi17_4 (by kernel_rfl) (by kernel_rfl) (by kernel_rfl) ?hq17_4 ?hy17_4 (by assumption) ?rest17_4
              case hi17_4 => (simp only [List.getElem?_toArray, List.getElem?_cons_zero, List.getElem?_cons_succ]; rfl)
              case hq17_4 => exact fun _ _ _ h => h
              case hy17_4 => (refine Or.inl ⟨rfl, ?_⟩; intro w hSw; (try dsimp only at hSw); go_split_ands; (first | (go_simp; done) | (go_simp; with_reducible rfl)))
              simp only [Act.put, List.setIfInBounds_toArray, List.set_cons_zero, List.set_cons_succ]
              refine wpAnyH_take (i := 18) (oi := ?o18_4) (v := ?v18_4) ?hi18_4 (by kernel_rfl) (by kernel_rfl) (by kernel_rfl) ?hq18_4 ?hy18_4 (by assumption) ?rest18_4
              case hi18_4 => (simp only [List.getElem?_toArray, List.getElem?_cons_zero, List.getElem?_cons_succ]; rfl)
              case hq18_4 => exact fun _ _ _ h => h
              case hy18_4 => (refine Or.inl ⟨rfl, ?_⟩; intro w hSw; (try dsimp only at hSw); go_split_ands; (first | (go_simp; done) | (go_simp; with_reducible rfl)))
              simp only [Act.put, List.setIfInBounds_toArray, List.set_cons_zero, List.set_cons_succ]
              refine wpAnyH_take (i := 19) (oi := ?o19_4) (v := ?v19_4) ?hi19_4 (by kernel_rfl) (by kernel_rfl) (by kernel_rfl) ?hq19_4 ?hy19_4 (by assumption) ?rest19_4
              case hi19_4 => (simp only [List.getElem?_toArray, List.getElem?_cons_zero, List.getElem?_cons_succ]; rfl)
              case hq19_4 => exact fun _ _ _ h => h
              case hy19_4 => (refine Or.inl ⟨rfl, ?_⟩; intro w hSw; (try dsimp only at hSw); go_split_ands; (first | (go_simp; done) | (go_simp; with_reducible rfl)))
              simp only [Act.put, List.setIfInBounds_toArray, List.set_cons_zero, List.set_cons_succ]
              refine wpAnyH_take (i := 20) (oi := ?o20_4) (v := ?v20_4) ?hi20_4 (by kernel_rfl) (by kernel_rfl) (by kernel_rfl) ?hq20_4 ?hy20_4 (by assumption) ?rest20_4
              case hi20_4 => (simp only [List.getElem?_toArray, List.getElem?_cons_zero, List.getElem?_cons_succ]; rfl)
              case hq20_4 => exact fun _ _ _ h => h
              case hy20_4 => (refine Or.inl ⟨rfl, ?_⟩; intro w hSw; (try dsimp only at hSw); go_split_ands; (first | (go_simp; done) | (go_simp; with_reducible rfl)))
              simp only [Act.put, List.setIfInBounds_toArray, List.set_cons_zero, List.set_cons_succ]
              refine wpAnyH_take (i := 21) (oi := ?o21_4) (v := ?v21_4) ?hi21_4 (by kernel_rfl) (by kernel_rfl) (by kernel_rfl) ?hq21_4 ?hy21_4 (by assumption) ?rest21_4
              case hi21_4 => (simp only [List.getElem?_toArray, List.getElem?_cons_zero, List.getElem?_cons_succ]; rfl)
              case hq21_4 => exact fun _ _ _ h => h
              case hy21_4 => (refine Or.inl ⟨rfl, ?_⟩; intro w hSw; (try dsimp only at hSw); go_split_ands; (first | (go_simp; done) | (go_simp; with_reducible rfl)))
              simp only [Act.put, List.setIfInBounds_toArray, List.set_cons_zero, List.set_cons_succ]
              refine wpAnyH_done (by kernel_rfl) ?_ _
              clear hHeld
              go_upto_region 16 with fail
              refine wp_region_held_drew (S := fun w' => (∀ b o, b < wr.heap.size → w'.cell? ⟨b, o, none⟩ = wr.cell? ⟨b, o, none⟩) ∧ wr.heap.size ≤ w'.heap.size ∧ Below wr.heap.size wr w') (by kernel_rfl) (SB.of hB2.size hB2) (fun hHeld => ?_)
              refine wpAnyH_take (i := 0) (oi := ?o0_5) (v := ?v0_5) ?hi0_5 (by kernel_rfl) (by kernel_rfl) (by kernel_rfl) ?hq0_5 ?hy0_5 (by assumption) ?rest0_5
              case hi0_5 => (simp only [List.getElem?_toArray, List.getElem?_cons_zero, List.getElem?_cons_succ]; rfl)
              case hq0_5 => exact fun _ _ _ h => h
              case hy0_5 => (refine Or.inl ⟨rfl, ?_⟩; intro w hSw; (try dsimp only at hSw); go_split_ands; (first | (go_simp; done) | (go_simp; with_reducible rfl)))
              simp only [Act.put, List.setIfInBounds_toArray, List.set_cons_zero, List.set_cons_succ]
              refine wpAnyH_take (i := 1) (oi := ?o1_5) (v := ?v1_5) ?hi1_5 (by kernel_rfl) (by kernel_rfl) (by kernel_rfl) ?hq1_5 ?hy1_5 (by assumption) ?rest1_5
              case hi1_5 => (simp only [List.getElem?_toArray, List.getElem?_cons_zero, List.getElem?_cons_succ]; rfl)
              case hq1_5 => exact fun _ _ _ h => h
              case hy1_5 => (refine Or.inl ⟨rfl, ?_⟩; intro w hSw; (try dsimp only at hSw); go_split_ands; (first | (go_simp; done) | (go_simp; with_reducible rfl)))
              simp only [Act.put, List.setIfInBounds_toArray, List.set_cons_zero, List.set_cons_succ]
              refine wpAnyH_take (i := 2) (oi := ?o2_5) (v := ?v2_5) ?hi2_5 (by kernel_rfl) (by kernel_rfl) (by kernel_rfl) ?hq2_5 ?hy2_5 (by assumption) ?rest2_5
              case hi2_5 => (simp only [List.getElem?_toArray, List.getElem?_cons_zero, List.getElem?_cons_succ]; rfl)
              case hq2_5 => exact fun _ _ _ h => h
              case hy2_5 => (refine Or.inl ⟨rfl, ?_⟩; intro w hSw; (try dsimp only at hSw); go_split_ands; (first | (go_simp; done) | (go_simp; with_reducible rfl)))
              simp only [Act.put, List.setIfInBounds_toArray, List.set_cons_zero, List.set_cons_succ]
              refine wpAnyH_take (i := 3) (oi := ?o3_5) (v := ?v3_5) ?hi3_5 (by kernel_rfl) (by kernel_rfl) (by kernel_rfl) ?hq3_5 ?hy3_5 (by assumption) ?rest3_5
              case hi3_5 => (simp only [List.getElem?_toArray, List.getElem?_cons_zero, List.getElem?_cons_succ]; rfl)
              case hq3_5 => exact fun _ _ _ h => h
              case hy3_5 => (refine Or.inl ⟨rfl, ?_⟩; intro w hSw; (try dsimp only at hSw); go_split_ands; (first | (go_simp; done) | (go_simp; with_reducible rfl)))
              simp only [Act.put, List.setIfInBounds_toArray, List.set_cons_zero, List.set_cons_succ]
              refine wpAnyH_take (i := 4) (oi := ?o4_5) (v := ?v4_5) ?hi4_5 (by kernel_rfl) (by kernel_rfl) (by kernel_rfl) ?hq4_5 ?hy4_5 (by assumption) ?rest4_5
              case hi4_5 => (simp only [List.getElem?_toArray, List.getElem?_cons_zero, List.getElem?_cons_succ]; rfl)
              case hq4_5 => exact fun _ _ _ h => h
              case hy4_5 => (refine Or.inl ⟨rfl, ?_⟩; intro w hSw; (try dsimp only at hSw); go_split_ands; (first | (go_simp; done) | (go_simp; with_reducible rfl)))
              simp only [Act.put, List.setIfInBounds_toArray, List.set_cons_zero, List.set_cons_succ]
              refine wpAnyH_take (i := 5) (oi := ?o5_5) (v := ?v5_5) ?hi5_5 (by kernel_rfl) (by kernel_rfl) (by kernel_rfl) ?hq5_5 ?hy5_5 (by assumption) ?rest5_5
              case hi5_5 => (simp only [List.getElem?_toArray, List.getElem?_cons_zero, List.getElem?_cons_succ]; rfl)
              case hq5_5 => exact fun _ _ _ h => h
              case hy5_5 => (refine Or.inl ⟨rfl, ?_⟩; intro w hSw; (try dsimp only at hSw); go_split_ands; (first | (go_simp; done) | (go_simp; with_reducible rfl)))
              simp only [Act.put, List.setIfInBounds_toArray, List.set_cons_zero, List.set_cons_succ]
              refine wpAnyH_take (i := 6) (oi := ?o6_5) (v := ?v6_5) ?hi6_5 (by kernel_rfl) (by kernel_rfl) (by kernel_rfl) ?hq6_5 ?hy6_5 (by assumption) ?rest6_5
              case hi6_5 => (simp only [List.getElem?_toArray, List.getElem?_cons_zero, List.getElem?_cons_succ]; rfl)
              case hq6_5 => exact fun _ _ _ h => h
              case hy6_5 => (refine Or.inl ⟨rfl, ?_⟩; intro w hSw; (try dsimp only at hSw); go_split_ands; (first | (go_simp; done) | (go_simp; with_reducible rfl)))
              simp only [Act.put, List.setIfInBounds_toArray, List.set_cons_zero, List.set_cons_succ]
              refine wpAnyH_take (i := 7) (oi := ?o7_5) (v := ?v7_5) ?hi7_5 (by kernel_rfl) (by kernel_rfl) (by kernel_rfl) ?hq7_5 ?hy7_5 (by assumption) ?rest7_5
              case hi7_5 => (simp only [List.getElem?_toArray, List.getElem?_cons_zero, List.getElem?_cons_succ]; rfl)
              case hq7_5 => exact fun _ _ _ h => h
              case hy7_5 => (refine Or.inl ⟨rfl, ?_⟩; intro w hSw; (try dsimp only at hSw); go_split_ands; (first | (go_simp; done) | (go_simp; with_reducible rfl)))
              simp only [Act.put, List.setIfInBounds_toArray, List.set_cons_zero, List.set_cons_succ]
              refine wpAnyH_take (i := 8) (oi := ?o8_5) (v := ?v8_5) ?hi8_5 (by kernel_rfl) (by kernel_rfl) (by kernel_rfl) ?hq8_5 ?hy8_5 (by assumption) ?rest8_5
              case hi8_5 => (simp only [List.getElem?_toArray, List.getElem?_cons_zero, List.getElem?_cons_succ]; rfl)
              case hq8_5 => exact fun _ _ _ h => h
              case hy8_5 => (refine Or.inl ⟨rfl, ?_⟩; intro w hSw; (try dsimp only at hSw); go_split_ands; (first | (go_simp; done) | (go_simp; with_reducible rfl)))
              simp only [Act.put, List.setIfInBounds_toArray, List.set_cons_zero, List.set_cons_succ]
              refine wpAnyH_take (i := 9) (oi := ?o9_5) (v := ?v9_5) ?hi9_5 (by kernel_rfl) (by kernel_rfl) (by kernel_rfl) ?hq9_5 ?hy9_5 (by assumption) ?rest9_5
              case hi9_5 => (simp only [List.getElem?_toArray, List.getElem?_cons_zero, List.getElem?_cons_succ]; rfl)
              case hq9_5 => exact fun _ _ _ h => h
              case hy9_5 => (refine Or.inl ⟨rfl, ?_⟩; intro w hSw; (try dsimp only at hSw); go_split_ands; (first | (go_simp; done) | (go_simp; with_reducible rfl)))
              simp only [Act.put, List.setIfInBounds_toArray, List.set_cons_zero, List.set_cons_succ]
              refine wpAnyH_take (i := 10) (oi := ?o10_5) (v := ?v10_5) ?hi10_5 (by kernel_rfl) (by kernel_rfl) (by kernel_rfl) ?hq10_5 ?hy10_5 (by assumption) ?rest10_5
              case hi10_5 => (simp only [List.getElem?_toArray, List.getElem?_cons_zero, List.getElem?_cons_succ]; rfl)
              case hq10_5 => exact fun _ _ _ h => h
              case hy10_5 => (refine Or.inl ⟨rfl, ?_⟩; intro w hSw; (try dsimp only at hSw); go_split_ands; (first | (go_simp; done) | (go_simp; with_reducible rfl)))
              simp only [Act.put, List.setIfInBounds_toArray, List.set_cons_zero, List.set_cons_succ]
              refine wpAnyH_take (i := 11) (oi := ?o11_5) (v := ?v11_5) ?hi11_5 (by kernel_rfl) (by kernel_rfl) (by kernel_rfl) ?hq11_5 ?hy11_5 (by assumption) ?rest11_5
              case hi11_5 => (simp only [List.getElem?_toArray, List.getElem?_cons_zero, List.getElem?_cons_succ]; rfl)
              case hq11_5 => exact fun _ _ _ h => h
              case hy11_5 => (refine Or.inl ⟨rfl, ?_⟩; intro w hSw; (try dsimp only at hSw); go_split_ands; (first | (go_simp; done) | (go_simp; with_reducible rfl)))
              simp only [Act.put, List.setIfInBounds_toArray, List.set_cons_zero, List.set_cons_succ]
              refine wpAnyH_take (i := 12) (oi := ?o12_5) (v := ?v12_5) ?hi12_5 (by kernel_rfl) (by kernel_rfl) (by kernel_rfl) ?hq12_5 ?hy12_5 (by assumption) ?rest12_5
              case hi12_5 => (simp only [List.getElem?_toArray, List.getElem?_cons_zero, List.getElem?_cons_succ]; rfl)
              case hq12_5 => exact fun _ _ _ h => h
              case hy12_5 => (refine Or.inl ⟨rfl, ?_⟩; intro w hSw; (try dsimp only at hSw); go_split_ands; (first | (go_simp; done) | (go_simp; with_reducible rfl)))
              simp only [Act.put, List.setIfInBounds_toArray, List.set_cons_zero, List.set_cons_succ]
              refine wpAnyH_take (i := 13) (oi := ?o13_5) (v := ?v13_5) ?hi13_5 (by kernel_rfl) (by kernel_rfl) (by kernel_rfl) ?hq13_5 ?hy13_5 (by assumption) ?rest13_5
              case hi13_5 => (simp only [List.getElem?_toArray, List.getElem?_cons_zero, List.getElem?_cons_succ]; rfl)
              case hq13_5 => exact fun _ _ _ h => h
              case hy13_5 => (refine Or.inl ⟨rfl, ?_⟩; intro w hSw; (try dsimp only at hSw); go_split_ands; (first | (go_simp; done) | (go_simp; with_reducible rfl)))
              simp only [Act.put, List.setIfInBounds_toArray, List.set_cons_zero, List.set_cons_succ]
              refine wpAnyH_take (i := 14) (oi := ?o14_5) (v := ?v14_5) ?hi14_5 (by kernel_rfl) (by kernel_rfl) (by kernel_rfl) ?hq14_5 ?hy14_5 (by assumption) ?rest14_5
              case hi14_5 => (simp only [List.getElem?_toArray, List.getElem?_cons_zero, List.getElem?_cons_succ]; rfl)
              case hq14_5 => exact fun _ _ _ h => h
              case hy14_5 => (refine Or.inl ⟨rfl, ?_⟩; intro w hSw; (try dsimp only at hSw); go_split_ands; (first | (go_simp; done) | (go_simp; with_reducible rfl)))
              simp only [Act.put, List.setIfInBounds_toArray, List.set_cons_zero, List.set_cons_succ]
              refine wpAnyH_take (i := 15) (oi := ?o15_5) (v := ?v15_5) ?hi15_5 (by kernel_rfl) (by kernel_rfl) (by kernel_rfl) ?hq15_5 ?hy15_5 (by assumption) ?rest15_5
              case hi15_5 => (simp only [List.getElem?_toArray, List.getElem?_cons_zero, List.getElem?_cons_succ]; rfl)
              case hq15_5 => exact fun _ _ _ h => h
              case hy15_5 => (refine Or.inl ⟨rfl, ?_⟩; intro w hSw; (try dsimp only at hSw); go_split_ands; (first | (go_simp; done) | (go_simp; with_reducible rfl)))
              simp only [Act.put, List.setIfInBounds_toArray, List.set_cons_zero, List.set_cons_succ]
              refine wpAnyH_take (i := 16) (oi := ?o16_5) (v := ?v16_5) ?hi16_5 (by kernel_rfl) (by kernel_rfl) (by kernel_rfl) ?hq16_5 ?hy16_5 (by assumption) ?rest16_5
              case hi16_5 => (simp only [List.getElem?_toArray, List.getElem?_cons_zero, List.getElem?_cons_succ]; rfl)
              case hq16_5 => exact fun _ _ _ h => h
              case hy16_5 => (refine Or.inl ⟨rfl, ?_⟩; intro w hSw; (try dsimp only at hSw); go_split_ands; (first | (go_simp; done) | (go_simp; with_reducible rfl)))
              simp only [Act.put, List.setIfInBounds_toArray, List.set_cons_zero, List.set_cons_succ]
              refine wpAnyH_take (i := 17) (oi := ?o17_5) (v := ?v17_5) ?hi17_5 (by kernel_rfl) (by kernel_rfl) (by kernel_rfl) ?hq17_5 ?hy17_5 (by assumption) ?rest17_5
              case hi17_5 => (simp only [List.getElem?_toArray, List.getElem?_cons_zero, List.getElem?_cons_succ]; rfl)
              case hq17_5 => exact fun _ _ _ h => h
              case hy17_5 => (refine Or.inl ⟨rfl, ?_⟩; intro w hSw; (try dsimp only at hSw); go_split_ands; (first | (go_simp; done) | (go_simp; with_reducible rfl)))
              simp only [Act.put, List.setIfInBounds_toArray, List.set_cons_zero, List.set_cons_succ]
              refine wpAnyH_take (i := 18) (oi := ?o18_5) (v := ?v18_5) ?hi18_5 (by kernel_rfl) (by kernel_rfl) (by kernel_rfl) ?hq18_5 ?hy18_5 (by assumption) ?rest18_5
              case hi18_5 => (simp only [List.getElem?_toArray, List.getElem?_cons_zero, List.getElem?_cons_succ]; rfl)
              case hq18_5 => exact fun _ _ _ h => h
              case hy18_5 => (refine Or.inl ⟨rfl, ?_⟩; intro w hSw; (try dsimp only at hSw); go_split_ands; (first | (go_simp; done) | (go_simp; with_reducible rfl)))
              simp only [Act.put, List.setIfInBounds_toArray, List.set_cons_zero, List.set_cons_succ]
              refine wpAnyH_take (i := 19) (oi := ?o19_5) (v := ?v19_5) ?hi19_5 (by kernel_rfl) (by kernel_rfl) (by kernel_rfl) ?hq19_5 ?hy19_5 (by assumption) ?rest19_5
              case hi19_5 => (simp only [List.getElem?_toArray, List.getElem?_cons_zero, List.getElem?_cons_succ]; rfl)
              case hq19_5 => exact fun _ _ _ h => h
              case hy19_5 => (refine Or.inl ⟨rfl, ?_⟩; intro w hSw; (try dsimp only at hSw); go_split_ands; (first | (go_simp; done) | (go_simp; with_reducible rfl)))
              simp only [Act.put, List.setIfInBounds_toArray, List.set_cons_zero, List.set_cons_succ]
              refine wpAnyH_take (i := 20) (oi := ?o20_5) (v := ?v20_5) ?hi20_5 (by kernel_rfl) (by kernel_rfl) (by kernel_rfl) ?hq20_5 ?hy20_5 (by assumption) ?rest20_5
              case hi20_5 => (simp only [List.getElem?_toArray, List.getElem?_cons_zero, List.getElem?_cons_succ]; rfl)
              case hq20_5 => exact fun _ _ _ h => h
              case hy20_5 => (refine Or.inl ⟨rfl, ?_⟩; intro w hSw; (try dsimp only at hSw); go_split_ands; (first | (go_simp; done) | (go_simp; with_reducible rfl)))
              simp only [Act.put, List.setIfInBounds_toArray, List.set_cons_zero, List.set_cons_succ]
              refine wpAnyH_take (i := 21) (oi := ?o21_5) (v := ?v21_5) ?hi21_5 (by kernel_rfl) (by kernel_rfl) (by kernel_rfl) ?hq21_5 ?hy21_5 (by assumption) ?rest21_5
              case hi21_5 => (simp only [List.getElem?_toArray, List.getElem?_cons_zero, List.getElem?_cons_succ]; rfl)
              case hq21_5 => exact fun _ _ _ h => h
              case hy21_5 => (refine Or.inl ⟨rfl, ?_⟩; intro w hSw; (try dsimp only at hSw); go_split_ands; (first | (go_simp; done) | (go_simp; with_reducible rfl)))
              simp only [Act.put, List.setIfInBounds_toArray, List.set_cons_zero, List.set_cons_succ]
              refine wpAnyH_take (i := 22) (oi := ?o22_5) (v := ?v22_5) ?hi22_5 (by kernel_rfl) (by kernel_rfl) (by kernel_rfl) ?hq22_5 ?hy22_5 (by assumption) ?rest22_5
              case hi22_5 => (simp only [List.getElem?_toArray, List.getElem?_cons_zero, List.getElem?_cons_succ]; rfl)
              case hq22_5 => exact fun _ _ _ h => h
              case hy22_5 => (refine Or.inl ⟨rfl, ?_⟩; intro w hSw; (try dsimp only at hSw); go_split_ands; (first | (go_simp; done) | (go_simp; with_reducible rfl)))
              simp only [Act.put, List.setIfInBounds_toArray, List.set_cons_zero, List.set_cons_succ]
              refine wpAnyH_take (i := 23) (oi := ?o23_5) (v := ?v23_5) ?hi23_5 (by kernel_rfl) (by kernel_rfl) (by kernel_rfl) ?hq23_5 ?hy23_5 (by assumption) ?rest23_5
              case hi23_5 => (simp only [List.getElem?_toArray, List.getElem?_cons_zero, List.getElem?_cons_succ]; rfl)
              case hq23_5 => exact fun _ _ _ h => h
              case hy23_5 => (refine Or.inl ⟨rfl, ?_⟩; intro w hSw; (try dsimp only at hSw); go_split_ands; (first | (go_simp; done) | (go_simp; with_reducible rfl)))
              simp only [Act.put, List.setIfInBounds_toArray, List.set_cons_zero, List.set_cons_succ]
              refine wpAnyH_take (i := 24) (oi := ?o24_5) (v := ?v24_5) ?hi24_5 (by kernel_rfl) (by kernel_rfl) (by kernel_rfl) ?hq24_5 ?hy24_5 (by assumption) ?rest24_5
              case hi24_5 => (simp only [List.getElem?_toArray, List.getElem?_cons_zero, List.getElem?_cons_succ]; rfl)
              case hq24_5 => exact fun _ _ _ h => h
              case hy24_5 => (refine Or.inl ⟨rfl, ?_⟩; intro w hSw; (try dsimp only at hSw); go_split_ands; (first | (go_simp; done) | (go_simp; with_reducible rfl)))
              simp only [Act.put, List.setIfInBounds_toArray, List.set_cons_zero, List.set_cons_succ]
              refine wpAnyH_take (i := 25) (oi := ?o25_5) (v := ?v25_5) ?hi25_5 (by kernel_rfl) (by kernel_rfl) (by kernel_rfl) ?hq25_5 ?hy25_5 (by assumption) ?rest25_5
              case hi25_5 => (simp only [List.getElem?_toArray, List.getElem?_cons_zero, List.getElem?_cons_succ]; rfl)
              case hq25_5 => exact fun _ _ _ h => h
              case hy25_5 => (refine Or.inl ⟨rfl, ?_⟩; intro w hSw; (try dsimp only at hSw); go_split_ands; (first | (go_simp; done) | (go_simp; with_reducible rfl)))
              simp only [Act.put, List.setIfInBounds_toArray, List.set_cons_zero, List.set_cons_succ]
              refine wpAnyH_take (i := 26) (oi := ?o26_5) (v := ?v26_5) ?hi26_5 (by kernel_rfl) (by kernel_rfl) (by kernel_rfl) ?hq26_5 ?hy26_5 (by assumption) ?rest26_5
              case hi26_5 => (simp only [List.getElem?_toArray, List.getElem?_cons_zero, List.getElem?_cons_succ]; rfl)
              case hq26_5 => exact fun _ _ _ h => h
              case hy26_5 => (refine Or.inl ⟨rfl, ?_⟩; intro w hSw; (try dsimp only at hSw); go_split_ands; (first | (go_simp; done) | (go_simp; with_reducible rfl)))
              simp only [Act.put, List.setIfInBounds_toArray, List.set_cons_zero, List.set_cons_succ]
              refine wpAnyH_take (i := 27) (oi := ?o27_5) (v := ?v27_5) ?hi27_5 (by kernel_rfl) (by kernel_rfl) (by kernel_rfl) ?hq27_5 ?hy27_5 (by assumption) ?rest27_5
              case hi27_5 => (simp only [List.getElem?_toArray, List.getElem?_cons_zero, List.getElem?_cons_succ]; rfl)
              case hq27_5 => exact fun _ _ _ h => h
              case hy27_5 => (refine Or.inl ⟨rfl, ?_⟩; intro w hSw; (try dsimp only at hSw); go_split_ands; (first | (go_simp; done) | (go_simp; with_reducible rfl)))
              simp only [Act.put, List.setIfInBounds_toArray, List.set_cons_zero, List.set_cons_succ]
              refine wpAnyH_take (i := 28) (oi := ?o28_5) (v := ?v28_5) ?hi28_5 (by kernel_rfl) (by kernel_rfl) (by kernel_rfl) ?hq28_5 ?hy28_5 (by assumption) ?rest28_5
              case hi28_5 => (simp only [List.getElem?_toArray, List.getElem?_cons_zero, List.getElem?_cons_succ]; rfl)
              case hq28_5 => exact fun _ _ _ h => h
              case hy28_5 => (refine Or.inl ⟨rfl, ?_⟩; intro w hSw; (try dsimp only at hSw); go_split_ands; (first | (go_simp; done) | (go_simp; with_reducible rfl)))
              simp only [Act.put, List.setIfInBounds_toArray, List.set_cons_zero, List.set_cons_succ]
              refine wpAnyH_done (by kernel_rfl) ?_ _
              clear hHeld
              go_wp2
              go_roundw
              case rel => exact ⟨i + 1, by go_num, by omega, HNx⟩
              case measure => simp [intOf]; omega
          · have hk1 : k + 1 ≤ t i := by
              by_cases e : k = t i
              · subst e; exact absurd (hv.symm.trans HAe.out) hva
              · omega
            have HB := hide (hbk.out.drew)
            have hva' : ¬ ((v : Int) = (a : Int)) := by omega
            clear hT hv hu hu' hva d0
            refine wp_region_held_drew (S := fun w' => (∀ b o, b < wr.heap.size → w'.cell? ⟨b, o, none⟩ = wr.cell? ⟨b, o, none⟩) ∧ wr.heap.size ≤ w'.heap.size ∧ Below wr.heap.size wr w') (by kernel_rfl) (by with_reducible exact SB.start (by omega)) (fun hHeld => ?_)
            refine wpAnyH_take (i := 0) (oi := ?o0_6) (v := ?v0_6) ?hi0_6 (by kernel_rfl) (by kernel_rfl) (by kernel_rfl) ?hq0_6 ?hy0_6 (by assumption) ?rest0_6
            case hi0_6 => (simp only [List.getElem?_toArray, List.getElem?_cons_zero, List.getElem?_cons_succ]; rfl)
            case hq0_6 => exact fun _ _ _ h => h
            case hy0_6 => (refine Or.inl ⟨rfl, ?_⟩; intro w hSw; (try dsimp only at hSw); go_split_ands; (first | (go_simp; done) | (go_simp; with_reducible rfl)))
            simp only [Act.put, List.setIfInBounds_toArray, List.set_cons_zero, List.set_cons_succ]
            refine wpAnyH_take (i := 1) (oi := ?o1_6) (v := ?v1_6) ?hi1_6 (by kernel_rfl) (by kernel_rfl) (by kernel_rfl) ?hq1_6 ?hy1_6 (by assumption) ?rest1_6
            case hi1_6 => (simp only [List.getElem?_toArray, List.getElem?_cons_zero, List.getElem?_cons_succ]; rfl)
            case hq1_6 => exact fun _ _ _ h => h
            case hy1_6 => (refine Or.inl ⟨rfl, ?_⟩; intro w hSw; (try dsimp only at hSw); go_split_ands; (first | (go_simp; done) | (go_simp; with_reducible rfl)))
            simp only [Act.put, List.setIfInBounds_toArray, List.set_cons_zero, List.set_cons_succ]
            refine wpAnyH_take (i := 2) (oi := ?o2_6) (v := ?v2_6) ?hi2_6 (by kernel_rfl) (by kernel_rfl) (by kernel_rfl) ?hq2_6 ?hy2_6 (by assumption) ?rest2_6
            case hi2_6 => (simp only [List.getElem?_toArray, List.getElem?_cons_zero, List.getElem?_cons_succ]; rfl)
            case hq2_6 => exact fun _ _ _ h => h
            case hy2_6 => (refine Or.inl ⟨rfl, ?_⟩; intro w hSw; (try dsimp only at hSw); go_split_ands; (first | (go_simp; done) | (go_simp; with_reducible rfl)))
            simp only [Act.put, List.setIfInBounds_toArray, List.set_cons_zero, List.set_cons_succ]
            refine wpAnyH_take (i := 3) (oi := ?o3_6) (v := ?v3_6) ?hi3_6 (by kernel_rfl) (by kernel_rfl) (by kernel_rfl) ?hq3_6 ?hy3_6 (by assumption) ?rest3_6
            case hi3_6 => (simp only [List.getElem?_toArray, List.getElem?_cons_zero, List.getElem?_cons_succ]; rfl)
            case hq3_6 => exact fun _ _ _ h => h
            case hy3_6 => (refine Or.inl ⟨rfl, ?_⟩; intro w hSw; (try dsimp only at hSw); go_split_ands; (first | (go_simp; done) | (go_simp; with_reducible rfl)))
            simp only [Act.put, List.setIfInBounds_toArray, List.set_cons_zero, List.set_cons_succ]
            refine wpAnyH_take (i := 4) (oi := ?o4_6) (v := ?v4_6) ?hi4_6 (by kernel_rfl) (by kernel_rfl) (by kernel_rfl) ?hq4_6 ?hy4_6 (by assumption) ?rest4_6
            case hi4_6 => (simp only [List.getElem?_toArray, List.getElem?_cons_zero, List.getElem?_cons_succ]; rfl)
            case hq4_6 => exact fun _ _ _ h => h
            case hy4_6 => (refine Or.inl ⟨rfl, ?_⟩; intro w hSw; (try dsimp only at hSw); go_split_ands; (first | (go_simp; done) | (go_simp; with_reducible rfl)))
            simp only [Act.put, List.setIfInBounds_toArray, List.set_cons_zero, List.set_cons_succ]
            refine wpAnyH_take (i := 5) (oi := ?o5_6) (v := ?v5_6) ?hi5_6 (by kernel_rfl) (by kernel_rfl) (by kernel_rfl) ?hq5_6 ?hy5_6 (by assumption) ?rest5_6
            case hi5_6 => (simp only [List.getElem?_toArray, List.getElem?_cons_zero, List.getElem?_cons_succ]; rfl)
            case hq5_6 => exact fun _ _ _ h => h
            case hy5_6 => (refine Or.inl ⟨rfl, ?_⟩; intro w hSw; (try dsimp only at hSw); go_split_ands; (first | (go_simp; done) | (go_simp; with_reducible rfl)))
            simp only [Act.put, List.setIfInBounds_toArray, List.set_cons_zero, List.set_cons_succ]
            refine wpAnyH_take (i := 6) (oi := ?o6_6) (v := ?v6_6) ?hi6_6 (by kernel_rfl) (by kernel_rfl) (by kernel_rfl) ?hq6_6 ?hy6_6 (by assumption) ?rest6_6
            case hi6_6 => (simp only [List.getElem?_toArray, List.getElem?_cons_zero, List.getElem?_cons_succ]; rfl)
            case hq6_6 => exact fun _ _ _ h => h
            case hy6_6 => (refine Or.inl ⟨rfl, ?_⟩; intro w hSw; (try dsimp only at hSw); go_split_ands; (first | (go_simp; done) | (go_simp; with_reducible rfl)))
            simp only [Act.put, List.setIfInBounds_toArray, List.set_cons_zero, List.set_cons_succ]
            refine wpAnyH_take (i := 7) (oi := ?o7_6) (v := ?v7_6) ?hi7_6 (by kernel_rfl) (by kernel_rfl) (by kernel_rfl) ?hq7_6 ?hy7_6 (by assumption) ?rest7_6
            case hi7_6 => (simp only [List.getElem?_toArray, List.getElem?_cons_zero, List.getElem?_cons_succ]; rfl)
            case hq7_6 => exact fun _ _ _ h => h
            case hy7_6 => (refine Or.inl ⟨rfl, ?_⟩; intro w hSw; (try dsimp only at hSw); go_split_ands; (first | (go_simp; done) | (go_simp; with_reducible rfl)))
            simp only [Act.put, List.setIfInBounds_toArray, List.set_cons_zero, List.set_cons_succ]
            refine wpAnyH_take (i := 8) (oi := ?o8_6) (v := ?v8_6) ?hi8_6 (by kernel_rfl) (by kernel_rfl) (by kernel_rfl) ?hq8_6 ?hy8_6 (by assumption) ?rest8_6
            case hi8_6 => (simp only [List.getElem?_toArray, List.getElem?_cons_zero, List.getElem?_cons_succ]; rfl)
            case hq8_6 => exact fun _ _ _ h => h
            case hy8_6 => (refine Or.inl ⟨rfl, ?_⟩; intro w hSw; (try dsimp only at hSw); go_split_ands; (first | (go_simp; done) | (go_simp; with_reducible rfl)))
            simp only [Act.put, List.setIfInBounds_toArray, List.set_cons_zero, List.set_cons_succ]
            refine wpAnyH_take (i := 9) (oi := ?o9_6) (v := ?v9_6) ?hi9_6 (by kernel_rfl) (by kernel_rfl) (by kernel_rfl) ?hq9_6 ?hy9_6 (by assumption) ?rest9_6
            case hi9_6 => (simp only [List.getElem?_toArray, List.getElem?_cons_zero, List.getElem?_cons_succ]; rfl)
            case hq9_6 => exact fun _ _ _ h => h
            case hy9_6 => (refine Or.inl ⟨rfl, ?_⟩; intro w hSw; (try dsimp only at hSw); go_split_ands; (first | (go_simp; done) | (go_simp; with_reducible rfl)))
            simp only [Act.put, List.setIfInBounds_toArray, List.set_cons_zero, List.set_cons_succ]
            refine wpAnyH_take (i := 10) (oi := ?o10_6) (v := ?v10_6) ?hi10_6 (by kernel_rfl) (by kernel_rfl) (by kernel_rfl) ?hq10_6 ?hy10_6 (by assumption) ?rest10_6
            case hi10_6 => (simp only [List.getElem?_toArray, List.getElem?_cons_zero, List.getElem?_cons_succ]; rfl)
            case hq10_6 => exact fun _ _ _ h => h
            case hy10_6 => (refine Or.inl ⟨rfl, ?_⟩; intro w hSw; (try dsimp only at hSw); go_split_ands; (first | (go_simp; done) | (go_simp; with_reducible rfl)))
            simp only [Act.put, List.setIfInBounds_toArray, List.set_cons_zero, List.set_cons_succ]
            refine wpAnyH_take (i := 11) (oi := ?o11_6) (v := ?v11_6) ?hi11_6 (by kernel_rfl) (by kernel_rfl) (by kernel_rfl) ?hq11_6 ?hy11_6 (by assumption) ?rest11_6
            case hi11_6 => (simp only [List.getElem?_toArray, List.getElem?_cons_zero, List.getElem?_cons_succ]; rfl)
            case hq11_6 => exact fun _ _ _ h => h
            case hy11_6 => (refine Or.inl ⟨rfl, ?_⟩; intro w hSw; (try dsimp only at hSw); go_split_ands; (first | (go_simp; done) | (go_simp; with_reducible rfl)))
            simp only [Act.put, List.setIfInBounds_toArray, List.set_cons_zero, List.set_cons_succ]
            refine wpAnyH_take (i := 12) (oi := ?o12_6) (v := ?v12_6) ?hi12_6 (by kernel_rfl) (by kernel_rfl) (by kernel_rfl) ?hq12_6 ?hy12_6 (by assumption) ?rest12_6
            case hi12_6 => (simp only [List.getElem?_toArray, List.getElem?_cons_zero, List.getElem?_cons_succ]; rfl)
            case hq12_6 => exact fun _ _ _ h => h
            case hy12_6 => (refine Or.inl ⟨rfl, ?_⟩; intro w hSw; (try dsimp only at hSw); go_split_ands; (first | (go_simp; done) | (go_simp; with_reducible rfl)))
            simp only [Act.put, List.setIfInBounds_toArray, List.set_cons_zero, List.set_cons_succ]
            refine wpAnyH_take (i := 13) (oi := ?o13_6) (v := ?v13_6) ?hi13_6 (by kernel_rfl) (by kernel_rfl) (by kernel_rfl) ?hq13_6 ?hy13_6 (by assumption) ?rest13_6
            case hi13_6 => (simp only [List.getElem?_toArray, List.getElem?_cons_zero, List.getElem?_cons_succ]; rfl)
            case hq13_6 => exact fun _ _ _ h => h
            case hy13_6 => (refine Or.inl ⟨rfl, ?_⟩; intro w hSw; (try dsimp only at hSw); go_split_ands; (first | (go_simp; done) | (go_simp; with_reducible rfl)))
            simp only [Act.put, List.setIfInBounds_toArray, List.set_cons_zero, List.set_cons_succ]
            refine wpAnyH_take (i := 14) (oi := ?o14_6) (v := ?v14_6) ?hi14_6 (by kernel_rfl) (by kernel_rfl) (by kernel_rfl) ?hq14_6 ?hy14_6 (by assumption) ?rest14_6
            case hi14_6 => (simp only [List.getElem?_toArray, List.getElem?_cons_zero, List.getElem?_cons_succ]; rfl)
            case hq14_6 => exact fun _ _ _ h => h
            case hy14_6 => (refine Or.inl ⟨rfl, ?_⟩; intro w hSw; (try dsimp only at hSw); go_split_ands; (first | (go_simp; done) | (go_simp; with_reducible rfl)))
            simp only [Act.put, List.setIfInBounds_toArray, List.set_cons_zero, List.set_cons_succ]
            refine wpAnyH_take (i := 15) (oi := ?o15_6) (v := ?v15_6) ?hi15_6 (by kernel_rfl) (by kernel_rfl) (by kernel_rfl) ?hq15_6 ?hy15_6 (by assumption) ?rest15_6
            case hi15_6 => (simp only [List.getElem?_toArray, List.getElem?_cons_zero, List.getElem?_cons_succ]; rfl)
            case hq15_6 => exact fun _ _ _ h => h
            case hy15_6 => (refine Or.inl ⟨rfl, ?_⟩; intro w hSw; (try dsimp only at hSw); go_split_ands; (first | (go_simp; done) | (go_simp; with_reducible rfl)))
            simp only [Act.put, List.setIfInBounds_toArray, List.set_cons_zero, List.set_cons_succ]
            refine wpAnyH_take (i := 16) (oi := ?o16_6) (v := ?v16_6) ?hi16_6 (by kernel_rfl) (by kernel_rfl) (by kernel_rfl) ?hq16_6 ?hy16_6 (by assumption) ?rest16_6
            case hi16_6 => (simp only [List.getElem?_toArray, List.getElem?_cons_zero, List.getElem?_cons_succ]; rfl)
            case hq16_6 => exact fun _ _ _ h => h
            case hy16_6 => (refine Or.inl ⟨rfl, ?_⟩; intro w hSw; (try dsimp only at hSw); go_split_ands; (first | (go_simp; done) | (go_simp; with_reducible rfl)))
            simp only [Act.put, List.setIfInBounds_toArray, List.set_cons_zero, List.set_cons_succ]
            refine wpAnyH_take (i := 17) (oi := ?o17_6) (v := ?v17_6) ?hi17_6 (by kernel_rfl) (by kernel_rfl) (by kernel_rfl) ?hq17_6 ?hy17_6 (by assumption) ?rest17_6
            case hi17_6 => (simp only [List.getElem?_toArray, List.getElem?_cons_zero, List.getElem?_cons_succ]; rfl)
            case hq17_6 => exact fun _ _ _ h => h
            case hy17_6 => (refine Or.inl ⟨rfl, ?_⟩; intro w hSw; (try dsimp only at hSw); go_split_ands; (first | (go_simp; done) | (go_simp; with_reducible rfl)))
            simp only [Act.put, List.setIfInBounds_toArray, List.set_cons_zero, List.set_cons_succ]
            refine wpAnyH_take (i := 18) (oi := ?o18_6) (v := ?v18_6) ?hi18_6 (by kernel_rfl) (by kernel_rfl) (by kernel_rfl) ?hq18_6 ?hy18_6 (by assumption) ?rest18_6
            case hi18_6 => (simp only [List.getElem?_toArray, List.getElem?_cons_zero, List.getElem?_cons_succ]; rfl)
            case hq18_6 => exact fun _ _ _ h => h
            case hy18_6 => (refine Or.inl ⟨rfl, ?_⟩; intro w hSw; (try dsimp only at hSw); go_split_ands; (first | (go_simp; done) | (go_simp; with_reducible rfl)))
            simp only [Act.put, List.setIfInBounds_toArray, List.set_cons_zero, List.set_cons_succ]
            refine wpAnyH_take (i := 19) (oi := ?o19_6) (v := ?v19_6) ?hi19_6 (by kernel_rfl) (by kernel_rfl) (by kernel_rfl) ?hq19_6 ?hy19_6 (by assumption) ?rest19_6
            case hi19_6 => (simp only [List.getElem?_toArray, List.getElem?_cons_zero, List.getElem?_cons_succ]; rfl)
            case hq19_6 => exact fun _ _ _ h => h
            case hy19_6 => (refine Or.inl ⟨rfl, ?_⟩; intro w hSw; (try dsimp only at hSw); go_split_ands; (first | (go_simp; done) | (go_simp; with_reducible rfl)))
            simp only [Act.put, List.setIfInBounds_toArray, List.set_cons_zero, List.set_cons_succ]
            refine wpAnyH_take (i := 20) (oi := ?o20_6) (v := ?v20_6) ?hi20_6 (by kernel_rfl) (by kernel_rfl) (by kernel_rfl) ?hq20_6 ?hy20_6 (by assumption) ?rest20_6
            case hi20_6 => (simp only [List.getElem?_toArray, List.getElem?_cons_zero, List.getElem?_cons_succ]; rfl)
            case hq20_6 => exact fun _ _ _ h => h
            case hy20_6 => (refine Or.inl ⟨rfl, ?_⟩; intro w hSw; (try dsimp only at hSw); go_split_ands; (first | (go_simp; done) | (go_simp; with_reducible rfl)))
            simp only [Act.put, List.setIfInBounds_toArray, List.set_cons_zero, List.set_cons_succ]
            refine wpAnyH_take (i := 21) (oi := ?o21_6) (v := ?v21_6) ?hi21_6 (by kernel_rfl) (by kernel_rfl) (by kernel_rfl) ?hq21_6 ?hy21_6 (by assumption) ?rest21_6
            case hi21_6 => (simp only [List.getElem?_toArray, List.getElem?_cons_zero, List.getElem?_cons_succ]; rfl)
            case hq21_6 => exact fun _ _ _ h => h
            case hy21_6 => (refine Or.inl ⟨rfl, ?_⟩; intro w hSw; (try dsimp only at hSw); go_split_ands; (first | (go_simp; done) | (go_simp; with_reducible rfl)))
            simp only [Act.put, List.setIfInBounds_toArray, List.set_cons_zero, List.set_cons_succ]
            refine wpAnyH_done (by kernel_rfl) ?_ _
            clear hHeld
            go_wp2
            go_roundw
            case rel => exact ⟨k + 1, by go_num, hk1, HB⟩
            case measure => simp [intOf]; omega
    · have : i = n := by omega
      subst this
      have HB5 := hide (HB3.out.trans (hcr.out.2.mono HB3.out.size))
      clear hcr
      go_wp2_with fail
      refine (works_any _).mono ?_
      rintro e w6 ⟨rfl, hb6⟩
      have HB6 := hide (HB5.out.trans (hb6.mono HB5.out.size))
      clear hb6
      go_wp2
      go_ret
      exact ⟨rfl, HB6.out⟩

theorem own : ownKnob Try.prog.godebug = none := by kernel_rfl
theorem laidOut : laidOutB Try.prog = true := by kernel_rfl
set_option maxRecDepth 100000 in
set_option maxHeartbeats 1000000 in
theorem lifted (os : Os) (started : os.Started) (H : Type) (enc : TypeId × Value → H) :
    ReturnsInHanded {} Try.checked os 4 .any (Rows.fnSortSpec.pre6 enc Try.prog Try.f4 Rows.fnSortRow.domain false) (Rows.fnSortSpec.post enc Try.prog Try.f4 false true false false) := by
  refine returnsInHanded_of_change (C := Try.checked) own started (by kernel_rfl) Try.func4
    (ChangeSpec.witness6 (enc := enc) (C := Try.checked) false ⟨#[], #[.slice none 0 0, .slice none 0 0], []⟩ 8 (by kernel_rfl) (by kernel_rfl) (by kernel_rfl) (by kernel_rfl)) ?_
  intro W base args ds gs before hval0 hW hcnd _
  have hval : ∀ (j : Nat) t v, Try.f4.params[j]? = some t → args[j]? = some v → Value.okWide Try.prog W .any base t v := hval0
  have hW' := hW
  obtain ⟨p, q, hA0, hV, rfl, hfz, hnd⟩ := hW
  have hA : DataW.TrodAll enc Try.prog W 0 (fun _ => true) true Try.f4.params.toList args.toList ds p := hA0
  rw [Try.params4] at hA hval
  obtain ⟨v0, vs0, d0, ds0, p0, q0, hargs, rfl, rfl, h0, r0⟩ := trodAll_cons hA
  obtain ⟨v1, vs1, d1, ds1, p1, q1, rfl, rfl, rfl, h1, r1⟩ := trodAll_cons r0
  obtain ⟨rfl, rfl, rfl⟩ := trodAll_nil r1
  obtain rfl : args = #[v0, v1] := by cases args; simp_all
  obtain ⟨rfl, rfl⟩ := trodVars_none hV
  have k0 := h0
  have lt0 : ∀ x ∈ p0, x.block < W.heap.size := by obtain ⟨m, hm⟩ := k0; exact DataW.trod_lt m _ _ _ hm
  obtain ⟨cs_a, cs_n, cs_c, rfl⟩ := okWide_slice Try.underlying28 (hval 0 28 v0 rfl rfl)
  obtain ⟨cs, l_cs, w_cs⟩ := ints_opened Try.underlying28 Try.underlying3 (by kernel_rfl) h0
  subst l_cs
  have k1 := h1
  have lt1 : ∀ x ∈ p1, x.block < W.heap.size := by obtain ⟨m, hm⟩ := k1; exact DataW.trod_lt m _ _ _ hm
  obtain ⟨ts_a, ts_n, ts_c, rfl⟩ := okWide_slice Try.underlying29 (hval 1 29 v1 rfl rfl)
  obtain ⟨ts, l_ts, w_ts⟩ := strs_opened Try.underlying29 Try.underlying9 (by kernel_rfl) h1
  subst l_ts
  clear hA0 hval0
  refine (walk cs_a cs_c cs ts_a ts_c ts W w_cs w_ts).mono fun e W' ⟨he, bel⟩ => ?_
  subst he
  exact ⟨_, rfl, _, _, _, [], _, [], hW', trodAll_mk1 (shut_bool Try.underlying4 _), (trodAll_cons_mk (Below.trod laidOut (by kernel_rfl) (of_decide_eq_true (by kernel_rfl)) k0 bel lt0) (trodAll_cons_mk (Below.trod laidOut (by kernel_rfl) (of_decide_eq_true (by kernel_rfl)) k1 bel lt1) trodAll_mk0)), rfl, bel.frame _, fun h => by cases h⟩

theorem over : Rows.fnSortRow.holds Try.pinned (OpenSpec.ofChange Rows.fnSortSpec) :=
  OpenClaim.holds_of_wide 4 Try.f4 rfl rfl rfl rfl rfl rfl rfl ⟨rfl, rfl, rfl, rfl, rfl⟩ rfl rfl rfl rfl rfl (by kernel_rfl) Try.func4 (by kernel_rfl)
    (of_decide_eq_true (by kernel_rfl)) (by unfold Func.isWrapper; rw [if_neg (of_decide_eq_false (by kernel_rfl))]; exact ⟨rfl, rfl⟩)
    (fun os started H enc _ => lifted os started H enc)

/-- The statement. -/
theorem proved : Rows.FnSortSaid := over
#print axioms proved
end Go.Proofs.Ytgegialfhkgggaa.FnSortProof
