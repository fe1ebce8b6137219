/- The statement FnHunksChange: each hunk leaves out or puts in a line, and in all hunks there are as few such lines as can be. For every input. -/
import Derived.Test.YtgegialfhkgggaaRows
import Derived.Test.YtgegialfhkgggaaPp
import Derived.Test.YtgegialfhkgggaaCommonM
import Derived.Test.YtgegialfhkgggaaPb
import Derived.ProofKit
import Derived.OpenShut
import Derived.ShutString
import Derived.ChangeOld
import Derived.Lib.SmallJoins
set_option linter.unusedVariables false
set_option linter.unusedSimpArgs false
namespace Go.Proofs.Ytgegialfhkgggaa.FnHunksChangeProof
open Go.ChangeShapes Go.WideShapes Go.ChangeAt Go.RowKit
open Go.ChangeMaps (open_string shut_string)
set_option linter.unusedVariables false
open Go.Proofs.Ytgegialfhkgggaa.Lines Mye
attribute [local go_sem ↓] Go.wp_at_zero Go.wp_at_succ

theorem cost_lcs {s t : ByteArray} {D : Nat} (h1 : hit (linesB s).length (linesB t).length (eqL (linesB s) (linesB t)) D) (h2 : ∀ d, d < D → ¬ hit (linesB s).length (linesB t).length (eqL (linesB s) (linesB t)) d) :
    D + 2 * lcs (eqL (linesB s) (linesB t)) (linesB s).length (linesB t).length = (linesB s).length + (linesB t).length := by
  obtain ⟨D', q1, q2, q3, q4, q5⟩ := least_hit (M := (linesB s).length) (N := (linesB t).length) (eq := eqL (linesB s) (linesB t))
  have : D = D' := by
    rcases Nat.lt_trichotomy D D' with h | h | h
    · exact absurd h1 (q3 D h)
    · exact h
    · exact absurd q2 (h2 D' h)
  subst this
  exact hit_lcs q4 q5
def allC (hs : List (Hk.HK ByteArray)) : Nat := (hs.map (fun h => Hk.chg h.ls)).sum
theorem allC_take {hs : List (Hk.HK ByteArray)} {k : Nat} (h : k < hs.length) : allC (hs.take (k + 1)) = allC (hs.take k) + Hk.chg (hs[k]).ls := by
  unfold allC
  rw [List.take_succ_eq_append_getElem h, List.map_append, List.sum_append]
  simp only [List.map_cons, List.map_nil, List.sum_cons, List.sum_nil, Nat.add_zero]
theorem allC_le (hs : List (Hk.HK ByteArray)) (k : Nat) : allC (hs.take k) ≤ allC hs := by
  unfold allC
  have : hs.map (fun h => Hk.chg h.ls) = (hs.take k).map (fun h => Hk.chg h.ls) ++ (hs.drop k).map (fun h => Hk.chg h.ls) := by rw [← List.map_append, List.take_append_drop]
  rw [this, List.sum_append]; omega
theorem chg_take {ls : List (Nat × ByteArray)} {j : Nat} (h : j < ls.length) : Hk.chg (ls.take (j + 1)) = Hk.chg (ls.take j) + if ls[j].1 = 2 then 0 else 1 := by
  rw [List.take_succ_eq_append_getElem h, Hk.chg_app]
  congr 1
  by_cases c : ls[j].1 = 2
  · rw [if_pos c]; simp [Hk.chg, c]
  · rw [if_neg c]; simp [Hk.chg, c]
theorem chg_le (ls : List (Nat × ByteArray)) (j : Nat) : Hk.chg (ls.take j) ≤ Hk.chg ls := by
  have : Hk.chg ls = Hk.chg (ls.take j) + Hk.chg (ls.drop j) := by rw [← Hk.chg_app, List.take_append_drop]
  omega

set_option maxHeartbeats 8000000 in
set_option maxRecDepth 100000 in
theorem near (s t : ByteArray) (hsh : shortB [s, t] = true) (w : World) :
    Calls Try.prog 13 #[.string s, .string t] w fun e w' => e = .returned (.bool true) ∧ Below w.heap.size w w' := by
  have HF := hide hsh
  have hb := hsh
  unfold shortB at hb
  simp only [Bool.and_eq_true, decide_eq_true_eq, sumSz, sumLn, List.map_cons, List.map_nil, List.sum_cons, List.sum_nil] at hb
  have h3 := lines_nls s
  have h4 := lines_nls t
  have hs : s.size ≤ 100000 := by omega
  have ht : t.size ≤ 100000 := by omega
  have HE := hide (fun W => iEdits_any s t (by omega) (by omega) W)
  have HL := hide (show (linesB s).length + (linesB t).length ≤ 1000 by omega)
  have HS := hide (fun W => lines_any s (by omega) W)
  have HT := hide (fun W => lines_any t (by omega) W)
  unfold LinesRes at HS HT
  obtain ⟨M, hM⟩ : ∃ M, (linesB s).length = M := ⟨_, rfl⟩
  obtain ⟨N, hN⟩ : ∃ N, (linesB t).length = N := ⟨_, rfl⟩
  rw [hM] at HS HL
  rw [hN] at HT HL
  have HM := hide hM
  have HN := hide hN
  have hMN : M + N ≤ 1000 := HL.out
  clear hsh hb h3 h4 hM hN HL
  go_enter Try.func13, Try.ntmps13
  go_wp2_with fail
  refine (isShort_any _ _ [s, t] (by simp) (by simp; omega) _ (Strs.blk (Blk.newAt (by simp)) rfl)).mono ?_
  rintro e w1 ⟨rfl, rfl⟩
  rw [HF.out]
  go_wp2_with fail
  refine (HE.out _).mono ?_
  rintro e w1 ⟨ops, D, A, c, hscr, hcost, hhit, hnh, rfl, hr, hlen, hb1⟩
  have hbl1 : Below w.heap.size w w1 := Below.trans (by go_grown) (hb1.mono (by simp))
  rw [HM.out, HN.out] at hlen
  have hn : ops.length ≤ 2000 := by omega
  have hX := hkFacts hscr hs ht hn
  have hH := hunks_ops hscr hs ht hn A c w1 hr
  have HD := hide (cost_lcs hhit hnh)
  rw [HM.out, HN.out] at HD
  have hsum := hX.sum
  rw [hcost] at hsum
  generalize hksOf s t ops = hks at *
  have HH := hide hH
  have HX := hide hX
  have HSum : Hid (allC hks = D) := hide hsum
  have hD : D ≤ 1000 := by have := HD.out; omega
  have HBl := hide hbl1
  obtain ⟨m, hm⟩ : ∃ m, hks.length = m := ⟨_, rfl⟩
  have HMm := hide hm
  have hm2 : m ≤ 2000 := by have := hX.len; omega
  unfold IHRes at HH
  rw [hm] at HH
  clear hscr hcost hhit hnh hr hlen hb1 hH hX hsum hbl1 HE hm
  go_wp2_with fail
  refine HH.out.mono ?_
  rintro e w2 ⟨A2, c2, rfl, hA2, hb2⟩
  have HA2 := hide hA2
  have HB2 := hide (HBl.out.trans (hb2.mono HBl.out.size))
  clear hA2 hb2 HH HBl
  go_wp2_with fail
  go_loopw [5, 33] (fun av jv wr => ∃ k : Nat, jv = .int .i64 k ∧ k ≤ m ∧ av = .int .i64 (allC (hks.take k) : Nat) ∧ Hid (Below w2.heap.size w2 wr)) (fun _ jv _ => m - (intOf jv).toNat)
  case atStart => exact ⟨0, rfl, Nat.zero_le _, rfl, hide (Below.refl _ _)⟩
  case round =>
    obtain ⟨k, rfl, hk, rfl, hr⟩ := hrel
    by_cases hlt : k < m
    · have hlt2 : k < hks.length := by have := HMm.out; omega
      obtain ⟨b, o, L, cL, rfl, c0, c1, c3, hrw⟩ := HA2.out.kept hr.out k hlt2
      have hgood := HX.out.good _ (List.getElem_mem hlt2)
      have hsome := HX.out.some_ _ (List.getElem_mem hlt2)
      have hall := allC_take hlt2
      have hale := allC_le hks (k + 1)
      rw [HSum.out] at hale
      obtain ⟨h, hh⟩ : ∃ h, hks[k] = h := ⟨_, rfl⟩
      rw [hh] at c0 c1 c3 hrw hgood hsome hall
      obtain ⟨hf, hg, ls⟩ := h
      dsimp only at c0 c1 c3 hrw hgood hsome hall
      have hkind := hide hgood.1
      have hlen := hgood.2.2.2.2.2
      have HRw := hide hrw
      have HAll := hide hall
      obtain ⟨al, hal⟩ : ∃ al, allC (hks.take k) = al := ⟨_, rfl⟩
      have hal2 : al + Hk.chg ls ≤ 1000 := by omega
      rw [hal] at HAll ⊢
      have HR := hide hr.out
      clear hgood hall hale hrw hh hr hlt2 hal
      have hbN : ∀ W, W = wr.alloc (.cells #[.int .i64 hf, .int .i64 hg, .slice L ls.length cL] 57) → Below w2.heap.size w2 W := by
        rintro W rfl
        exact HR.out.trans ((Below.refl wr.heap.size wr).alloc (Nat.le_refl _) _ |>.mono HR.out.size)
      have HBN := hide hbN
      clear hbN
      go_upto_region 9 with fail
      refine wp_gen ?_
      intro W0 hW0
      have HB0 := hide (HBN.out W0 hW0)
      have HRw0 := hide (HRw.out.kept (show Below wr.heap.size wr W0 by rw [hW0]; go_grown))
      have kH : Blk W0 wr.heap.size 57 #[.int .i64 hf, .int .i64 hg, .slice L ls.length cL] := by rw [hW0]; exact Blk.new _ _ _
      have fH := kH.three
      clear hW0 c0 c1 c3 HBN HRw kH
      go_wp2_with fail
      go_loopw [8, 40] (fun mv jv wr => ∃ j : Nat, jv = .int .i64 j ∧ j ≤ ls.length ∧ mv = .int .i64 (Hk.chg (ls.take j) : Nat) ∧ Hid (Below W0.heap.size W0 wr)) (fun _ jv _ => ls.length - (intOf jv).toNat)
      case atStart => exact ⟨0, rfl, Nat.zero_le _, rfl, hide (Below.refl _ _)⟩
      case round =>
        obtain ⟨j, rfl, hj, rfl, hr⟩ := hrel
        by_cases hjl : j < ls.length
        · have hrw := HRw0.out.kept hr.out
          have hjm : j < (ls.map lnCells).length := by simpa using hjl
          obtain ⟨bl, ol, rfl, d0⟩ := hrw j 0 hjm (by omega)
          obtain ⟨bl', ol', e1, d1⟩ := hrw j 1 hjm (by omega)
          injection e1 with e1
          injection e1 with e2 e3
          subst e2; subst e3
          have hv : (ls.map lnCells).getD j [] = lnCells ls[j] := by rw [List.getD_eq_getElem?_getD, List.getElem?_map, List.getElem?_eq_getElem hjl]; rfl
          rw [hv] at d0 d1
          have hkd := hkind.out _ (List.getElem_mem hjl)
          have hct := chg_take hjl
          have hcl := chg_le ls (j + 1)
          obtain ⟨x, hx⟩ : ∃ x, ls[j] = x := ⟨_, rfl⟩
          rw [hx] at d0 d1 hkd hct
          obtain ⟨xk, xt⟩ := x
          simp [lnCells] at d0 d1
          have g1 : wr.cell? ⟨bl, ol + j * 2 + 1, none⟩ = some (.string xt) := d1
          clear d1
          dsimp only at hkd hct
          have HB := hide ((hr.out.trans ((Below.refl wr.heap.size wr).alloc (Nat.le_refl _) (.cells #[.int .i64 (xk : Nat), .string xt] 61) |>.mono hr.out.size)))
          obtain ⟨mn, hmn⟩ : ∃ mn, Hk.chg (ls.take j) = mn := ⟨_, rfl⟩
          rw [hmn] at hct ⊢
          by_cases hk2 : xk = 2
          · subst hk2
            rw [if_pos rfl] at hct
            have HC := hide hct
            have hmn2 : mn ≤ 1000 := by omega
            clear hrw hv hx hct hcl hmn hr hjm
            go_wp2
            go_roundw
            case rel => exact ⟨j + 1, by go_num, by omega, by rw [HC.out, Nat.add_zero], HB⟩
            case measure => simp [intOf]; omega
          · rw [if_neg hk2] at hct
            have HC := hide hct
            have hmn2 : mn ≤ 1000 := by omega
            have hxk : xk ≤ 1 := by omega
            have t1 : ((xk : Int) != 2) = true := by simp; omega
            have t2 : decide ((xk : Int) < 0) = false := by simp
            have t3 : decide ((2 : Int) < (xk : Int)) = false := by simp; omega
            clear hrw hv hx hct hcl hmn hr hjm hk2 hkd
            go_wp2
            go_roundw
            case rel => exact ⟨j + 1, by go_num, by omega, by rw [HC.out]; go_num, HB⟩
            case measure => simp [intOf]; omega
        · obtain rfl : j = ls.length := by omega
          have HBx := hide (HB0.out.trans (hr.out.mono HB0.out.size))
          rw [List.take_length]
          obtain ⟨cg, hcg⟩ : ∃ cg, Hk.chg ls = cg := ⟨_, rfl⟩
          rw [hcg] at hal2 hsome HAll ⊢
          have t1 : ((cg : Int) == 0) = false := by simp; omega
          clear hjl hr hcg hsome
          go_wp2
          go_roundw
          case rel => exact ⟨k + 1, by go_num, by omega, by rw [HAll.out]; go_num, HBx⟩
          case measure => simp [intOf]; omega
    · obtain rfl : k = m := by omega
      have hall : allC (hks.take k) = D := by rw [List.take_of_length_le (by have := HMm.out; omega)]; exact HSum.out
      rw [hall]
      have HB3 := hide (HB2.out.trans (hr.out.mono HB2.out.size))
      obtain ⟨K, hK⟩ : ∃ K, lcs (eqL (linesB s) (linesB t)) M N = K := ⟨_, rfl⟩
      have hDK := HD.out
      rw [hK] at hDK
      have hfin : ((D : Int) == (M : Int) + (N : Int) - 2 * (K : Int)) = true := by simp; omega
      have hKb : K ≤ 1000 := by omega
      clear hall hr hlt HA2 HB2 HD HX HSum hDK
      go_wp2_with fail
      refine (HS.out _).mono ?_
      rintro e w3 ⟨A3, c3, rfl, _, hA3, hb3⟩
      go_wp2_with fail
      refine (HT.out _).mono ?_
      rintro e w4 ⟨A4, c4, rfl, _, hA4, hb4⟩
      have HB4 := hide (HB3.out.trans ((hb3.trans (hb4.mono hb3.size)).mono HB3.out.size))
      have HA3 := hide (hA3.kept hb4)
      have HA4 := hide hA4
      have HCm := hide (fun W h1 h2 => common_any (linesB s) (linesB t) A3 A4 c3 c4 M N HM.out HN.out (by omega) (by omega) W h1 h2)
      rw [hK] at HCm
      clear hA3 hA4 hb3 hb4 hK HS HT HB3
      go_wp2_with fail
      refine (works_any _).mono ?_
      rintro e w5 ⟨rfl, hb5⟩
      have HB5 := hide (HB4.out.trans (hb5.mono HB4.out.size))
      have HA3' := hide (HA3.out.kept hb5)
      have HA4' := hide (HA4.out.kept hb5)
      clear hb5
      go_wp2_with fail
      refine (HCm.out _ HA3'.out HA4'.out).mono ?_
      rintro e w6 ⟨rfl, hb6⟩
      have HB6 := hide (HB5.out.trans (hb6.mono HB5.out.size))
      clear hb6 HCm
      go_wp2
      go_ret
      exact ⟨rfl, HB6.out⟩

set_option maxHeartbeats 2000000 in
theorem walk (s t : ByteArray) (w : World) :
    Calls Try.prog 13 #[.string s, .string t] w fun e w' => e = .returned (.bool true) ∧ Below w.heap.size w w' := by
  by_cases h1 : (2147483647 : Int) < (s.size : Int)
  · go_enter Try.func13, Try.ntmps13
    go_wp2
    go_ret
    exact ⟨rfl, by go_grown⟩
  · have hs : s.size ≤ 2147483647 := by omega
    by_cases h2 : (2147483647 : Int) < (t.size : Int)
    · go_enter Try.func13, Try.ntmps13
      go_wp2
      go_ret
      exact ⟨rfl, by go_grown⟩
    · have ht : t.size ≤ 2147483647 := by omega
      cases hsh : shortB [s, t]
      · have HF := hide hsh
        clear hsh
        go_enter Try.func13, Try.ntmps13
        go_wp2_with fail
        refine (isShort_any _ _ [s, t] (by simp) (by simp; omega) _ (Strs.blk (Blk.newAt (by simp)) rfl)).mono ?_
        rintro e w1 ⟨rfl, rfl⟩
        rw [HF.out]
        go_wp2_with fail
        refine (works_any _).mono ?_
        rintro e w1 ⟨rfl, hb1⟩
        have hbl1 : Below w.heap.size w w1 := Below.trans (by go_grown) (hb1.mono (by simp))
        go_wp2
        go_ret
        exact ⟨rfl, by go_grown⟩
      · exact near s t hsh w

theorem own : ownKnob Try.prog.godebug = none := by kernel_rfl
theorem laidOut : laidOutB Try.prog = true := by kernel_rfl
set_option maxRecDepth 100000 in
set_option maxHeartbeats 1000000 in
theorem lifted (os : Os) (started : os.Started) (H : Type) (enc : TypeId × Value → H) :
    ReturnsInHanded {} Try.checked os 13 .any (Rows.fnHunksChangeSpec.pre6 enc Try.prog Try.f13 Rows.fnHunksChangeRow.domain false) (Rows.fnHunksChangeSpec.post enc Try.prog Try.f13 false true false false) := by
  refine returnsInHanded_of_change (C := Try.checked) own started (by kernel_rfl) Try.func13
    (ChangeSpec.witness6 (enc := enc) (C := Try.checked) false ⟨#[], #[.string ⟨#[]⟩, .string ⟨#[]⟩], []⟩ 8 (by kernel_rfl) (by kernel_rfl) (by kernel_rfl) (by kernel_rfl)) ?_
  intro W base args ds gs before hval0 hW hcnd _
  have hval : ∀ (j : Nat) t v, Try.f13.params[j]? = some t → args[j]? = some v → Value.okWide Try.prog W .any base t v := hval0
  have hW' := hW
  obtain ⟨p, q, hA0, hV, rfl, hfz, hnd⟩ := hW
  have hA : DataW.TrodAll enc Try.prog W 0 (fun _ => true) true Try.f13.params.toList args.toList ds p := hA0
  rw [Try.params13] at hA hval
  obtain ⟨v0, vs0, d0, ds0, p0, q0, hargs, rfl, rfl, h0, r0⟩ := trodAll_cons hA
  obtain ⟨v1, vs1, d1, ds1, p1, q1, rfl, rfl, rfl, h1, r1⟩ := trodAll_cons r0
  obtain ⟨rfl, rfl, rfl⟩ := trodAll_nil r1
  obtain rfl : args = #[v0, v1] := by cases args; simp_all
  obtain ⟨rfl, rfl⟩ := trodVars_none hV
  have k0 := h0
  have lt0 : ∀ x ∈ p0, x.block < W.heap.size := by obtain ⟨m, hm⟩ := k0; exact DataW.trod_lt m _ _ _ hm
  obtain ⟨s, rfl, rfl, rfl, w_s⟩ := open_string Try.underlying9 (hval 0 9 v0 rfl rfl) h0
  have k1 := h1
  have lt1 : ∀ x ∈ p1, x.block < W.heap.size := by obtain ⟨m, hm⟩ := k1; exact DataW.trod_lt m _ _ _ hm
  obtain ⟨t, rfl, rfl, rfl, w_t⟩ := open_string Try.underlying9 (hval 1 9 v1 rfl rfl) h1
  clear hA0 hval0
  refine (walk s t W).mono fun e W' ⟨he, bel⟩ => ?_
  subst he
  exact ⟨_, rfl, _, _, _, [], _, [], hW', trodAll_mk1 (shut_bool Try.underlying4 _), (trodAll_cons_mk (Below.trod laidOut (by kernel_rfl) (of_decide_eq_true (by kernel_rfl)) k0 bel lt0) (trodAll_cons_mk (Below.trod laidOut (by kernel_rfl) (of_decide_eq_true (by kernel_rfl)) k1 bel lt1) trodAll_mk0)), rfl, bel.frame _, fun h => by cases h⟩

theorem over : Rows.fnHunksChangeRow.holds Try.pinned (OpenSpec.ofChange Rows.fnHunksChangeSpec) :=
  OpenClaim.holds_of_wide 13 Try.f13 rfl rfl rfl rfl rfl rfl rfl ⟨rfl, rfl, rfl, rfl, rfl⟩ rfl rfl rfl rfl rfl (by kernel_rfl) Try.func13 (by kernel_rfl)
    (of_decide_eq_true (by kernel_rfl)) (by unfold Func.isWrapper; rw [if_neg (of_decide_eq_false (by kernel_rfl))]; exact ⟨rfl, rfl⟩)
    (fun os started H enc _ => lifted os started H enc)

/-- The statement. -/
theorem proved : Rows.FnHunksChangeSaid := over
#print axioms proved
end Go.Proofs.Ytgegialfhkgggaa.FnHunksChangeProof
