/- Walk: spec.Patch. No condition but sizes. -/
import Derived.Test.YtgegialfhkgggaaGreatDoorPp
import Derived.Test.YtgegialfhkgggaaGreatDoorAppZeroM
import Derived.BigRegion
set_option linter.unusedVariables false
set_option linter.unusedSimpArgs false
namespace Go.Proofs.YtgegialfhkgggaaGreatDoor
open Go.RowKit Go.Proofs.YtgegialfhkgggaaGreatDoor.Lines
attribute [local go_sem ↓] Go.wp_at_zero Go.wp_at_succ

/-- The relation of the loops: what is written, in the slice av. -/
def PtRel (w wr : World) (out : List ByteArray) (av : Value) : Prop := ∃ A c, av = .slice A out.length c ∧ wr.ownsRow w.heap.size 9 1 av out.length (out.map Value.string) ∧ Below w.heap.size w wr
theorem PtRel.kept {w wr w1 : World} {out : List ByteArray} {av : Value} (h : PtRel w wr out av) (hb : Below wr.heap.size wr w1) : PtRel w w1 out av := by
  obtain ⟨A, c, e, h1, h2⟩ := h
  exact ⟨A, c, e, own_kept h1 hb, h2.trans (hb.mono h2.size)⟩
theorem PtRel.push {w wr w1 : World} {out xs : List ByteArray} {av : Value} {g cap : Nat} {o : Obj} (h : PtRel w wr out av) (hown1 : w1.ownsRow w.heap.size 9 1 (.slice (some ⟨g, 0, none⟩) (out.length + xs.length) cap) (out.length + xs.length) (out.map Value.string ++ xs.map Value.string)) (hgr : (wr.alloc o).grownBy w1 av.ownBlock) :
    PtRel w w1 (out ++ xs) (.slice (some ⟨g, 0, none⟩) (out.length + xs.length) cap) := by
  obtain ⟨A, c, rfl, h1, h2⟩ := h
  exact ⟨_, cap, by rw [List.length_append], by rw [List.length_append, List.map_append]; exact hown1, below_grown_alloc h2 h2.size hgr (fun k hk => own_ge h1 k hk)⟩
theorem PtRel.push0 {w wr w1 : World} {out xs : List ByteArray} {av : Value} {g cap : Nat} (h : PtRel w wr out av) (hown1 : w1.ownsRow w.heap.size 9 1 (.slice (some ⟨g, 0, none⟩) (out.length + xs.length) cap) (out.length + xs.length) (out.map Value.string ++ xs.map Value.string)) (hgr : wr.grownBy w1 av.ownBlock) :
    PtRel w w1 (out ++ xs) (.slice (some ⟨g, 0, none⟩) (out.length + xs.length) cap) := by
  obtain ⟨A, c, rfl, h1, h2⟩ := h
  exact ⟨_, cap, by rw [List.length_append], by rw [List.length_append, List.map_append]; exact hown1, h2.grown hgr h2.size (fun k hk => own_ge h1 k hk)⟩

theorem PtRel.low {w wr : World} {out : List ByteArray} {av : Value} (h : PtRel w wr out av) : Below w.heap.size w wr := by
  obtain ⟨_, _, _, _, h2⟩ := h
  exact h2
theorem join_rel {w W : World} {out : List ByteArray} {av : Value} (h : PtRel w W out av) (hl : (flatB out).length ≤ 1000000000) (hn : out.length ≤ 2000000000) :
    Calls Tryz.prog 34 #[av, .string ⟨#[]⟩] W fun e w' => e = .returned (.string (toB (flatB out))) ∧ Below W.heap.size W w' := by
  obtain ⟨A, c, rfl, y1, y2⟩ := h
  rcases y1.2 with ⟨e1, e0⟩ | ⟨g, cap, cur, e1, hg, e3, e4, e5, e6, e7⟩
  · have : out = [] := List.eq_nil_of_length_eq_zero e0
    subst this
    refine (Tryz.strings_Join_none _ _ _ W).mono ?_
    rintro e w' ⟨rfl, rfl⟩
    exact ⟨rfl, Below.refl _ _⟩
  · injection e1 with e1 _ e2
    subst e1; subst e2
    have hgW : g < W.heap.size := by
      rcases Nat.lt_or_ge g W.heap.size with h | h
      · exact h
      · rw [Array.getElem?_eq_none h] at e3; cases e3
    refine (Tryz.strings_Join g 0 c out ⟨#[]⟩ W (fun j x hx => ?_) hgW (by omega) e4 ?_).mono ?_
    · have hj : j < out.length := by
        rcases Nat.lt_or_ge j out.length with h | h
        · exact h
        · rw [List.getElem?_eq_none h] at hx; cases hx
      have hk := (show Blk W g 9 cur from e3).cell j
      rw [Nat.zero_add, hk]
      have h2 : (cur.toList.take (out.length * 1))[j]? = some (.string x) := by rw [e7, List.getElem?_map, hx]; rfl
      rw [List.getElem?_take_of_lt (by omega)] at h2
      rw [← h2, Array.getElem?_toList]
    · show (Lib.join _ []).length ≤ _
      rw [join_flat]
      show (flatB out).length ≤ _
      omega
    · rintro e w' ⟨rfl, hb⟩
      refine ⟨?_, hb⟩
      show Ending.returned (.string (toB (Lib.join _ []))) = _
      rw [join_flat]
      rfl

set_option maxHeartbeats 8000000 in
set_option maxRecDepth 100000 in
theorem patch_any (s : ByteArray) (hs : List (Hk.HK ByteArray)) (A : Option Addr) (cA : Nat) (hsz : s.size ≤ 100000) (hok : Hk.PatOk (linesB s) hs) (hn : hs.length ≤ 1000000) (hout : (Hk.pst (linesB s) hs).1.length ≤ 1000000000) (hlen : ∀ h ∈ hs, h.ls.length ≤ 1000000000) (hkind : ∀ h ∈ hs, ∀ x ∈ h.ls, x.1 ≤ 2)
    (htot : (flatB ((Hk.pst (linesB s) hs).1 ++ (linesB s).drop (Hk.pst (linesB s) hs).2)).length ≤ 1000000000) (w : World) (hA : HksAt w A hs) :
    Calls Tryz.prog 15 #[.string s, .slice A hs.length cA, .bool false] w fun e w' => e = .returned (.tuple #[.string (toB (flatB ((Hk.pst (linesB s) hs).1 ++ (linesB s).drop (Hk.pst (linesB s) hs).2))), .bool true]) ∧ Below w.heap.size w w' := by
  obtain ⟨i0, hi0, hz0, hz1, hzb⟩ := info_parts info_str
  have HA := hide hA
  have HOk := hide hok
  have HLen := hide hlen
  have HKd := hide hkind
  have HTot := hide htot
  have HLs := hide (fun W => lines_any s (by omega) W)
  have hM2 : (linesB s).length ≤ 100000 := by have := linesB_le_size s; omega
  obtain ⟨M, hMM⟩ : ∃ M, (linesB s).length = M := ⟨_, rfl⟩
  unfold LinesRes at HLs
  rw [hMM] at HLs hM2
  have HM := hide hMM
  obtain ⟨m, hmm⟩ : ∃ m, hs.length = m := ⟨_, rfl⟩
  have HMm := hide hmm
  rw [hmm] at hn ⊢
  have HOut := hide (fun k (h : k ≤ m) => Nat.le_trans (pst_mono (linesB s) hs k (by omega)) hout)
  clear hA hok hlen hkind htot hMM hmm hout
  go_enter Tryz.func15, Tryz.ntmps15
  go_wp2_with fail
  refine (HLs.out _).mono ?_
  rintro e wl ⟨L, cL, rfl, hcL, hL, hbL⟩
  have HL := hide hL
  have HAl := hide (HA.out.kept hbL)
  have HBl := hide hbL
  clear hL hbL HLs HA
  have H0 : Hid (∀ W, W = wl.alloc (.cells #[] 9) → PtRel wl W [] (.slice (some ⟨wl.heap.size, 0, none⟩) 0 0)) := hide (by
    rintro W rfl
    exact ⟨_, 0, rfl, ⟨rfl, Or.inr ⟨wl.heap.size, 0, #[], rfl, Nat.le_refl _, Blk.new _ _ _, Nat.le_refl _, by unfold maxLen; omega, rfl, rfl⟩⟩, by go_grown⟩)
  go_wp2_with fail
  go_loopw [9, 10, 20] (fun av pv jv wr => ∃ k : Nat, jv = .int .i64 k ∧ k ≤ m ∧ pv = .int .i64 ((Hk.pst (linesB s) (hs.take k)).2 : Nat) ∧ Hid (PtRel wl wr (Hk.pst (linesB s) (hs.take k)).1 av)) (fun _ _ jv _ => m - (intOf jv).toNat)
  case atStart => exact ⟨0, rfl, Nat.zero_le _, rfl, hide (H0.out _ rfl)⟩
  case round =>
    obtain ⟨k, rfl, hk, rfl, hr⟩ := hrel
    clear H0
    by_cases hlt : k < m
    · have hlt2 : k < hs.length := by have := HMm.out; omega
      obtain ⟨q, q1, q2, q3, q4⟩ := HOk.out k hlt2
      have hnext := pst_next (linesB s) hlt2
      have hle := HLen.out _ (List.getElem_mem hlt2)
      have hkdk := HKd.out _ (List.getElem_mem hlt2)
      obtain ⟨Aw, cw, hav, r1, r2⟩ := hr.out
      obtain ⟨b, o, L2, c2, rfl, c0', c1', c3', hrw⟩ := HAl.out k hlt2
      have c0 := kcell r2 c0'
      have c1 := kcell r2 c1'
      have c3 := kcell r2 c3'
      clear c0' c1' c3'
      obtain ⟨h, hh⟩ : ∃ h, hs[k] = h := ⟨_, rfl⟩
      rw [hh] at q1 q3 q4 hnext hle hkdk c0 c1 c3 hrw
      have ho1 := HOut.out k (by omega)
      have ho2 := HOut.out (k + 1) (by omega)
      rw [hnext] at ho2
      generalize Hk.pst (linesB s) (hs.take k) = pp at *
      obtain ⟨out, at_⟩ := pp
      obtain ⟨hf, hg, ls⟩ := h
      dsimp only at q1 q2 q3 q4 hle hkdk c0 c1 c3 hrw ho1 hav r1 ⊢
      have hpst : Hk.pstep (linesB s) (out, at_) ⟨hf, hg, ls⟩ = (out ++ Hk.seg (linesB s) at_ q ++ Hk.news ls, q + (Hk.olds ls).length) := by
        unfold Hk.pstep; dsimp only; rw [Hk.hok_q (h := ⟨hf, hg, ls⟩) q1]
      rw [hpst] at hnext ho2
      dsimp only at ho2
      rw [List.length_append, List.length_append] at ho2
      subst q1
      have hqM : q ≤ M := by have := HM.out; omega
      have hsl : (Hk.seg (linesB s) at_ q).length = q - at_ := by rw [Hk.seg_len]; have := HM.out; omega
      have HKk := hide hkdk
      clear hkdk
      have HNext := hide hnext
      have HRw := hide hrw
      have HQ4 := hide q4
      have hq3 : q + (Hk.olds ls).length ≤ M := by have := HM.out; omega
      have HQ3 := hide hq3
      have HR := hide hr.out
      have HStrs := hide (HL.out.kept r2)
      subst hav
      clear hnext hrw q4 q3 hq3 hr hpst hlt2 r1 hh
      have hB2 := hide r2
      clear r2
      go_upto_region 6 with fail
      refine wp_gen ?_
      intro W0 hW0
      have kH := (show Blk W0 wr.heap.size 60 #[.int .i64 ((q : Int) + 1), .int .i64 hg, .slice L2 ls.length c2] by rw [hW0]; exact Blk.new _ _ _)
      have HR0 := hide (HR.out.kept (w1 := W0) (by rw [hW0]; go_grown))
      clear hW0 c0 c1 c3
      generalize wr.heap.size = gH at *
      have fH := kH.three
      have lH := kH.lt
      have hd0 : decide ((M : Int) < (q : Int)) = false := by simp; omega
      go_upto_region 8 with fail
      go_cut [9] (fun s9 wx => PtRel wl wx (out ++ Hk.seg (linesB s) at_ q) s9 ∧ Blk wx gH 60 #[.int .i64 ((q : Int) + 1), .int .i64 hg, .slice L2 ls.length c2])
      case first =>
        by_cases hq0 : at_ = q
        · subst hq0
          have hPt := HR0.out
          have HF : Hid (PtRel wl W0 (out ++ Hk.seg (linesB s) at_ at_) (.slice Aw out.length cw)) := hide (by rw [Hk.seg_self, List.append_nil]; exact hPt)
          have KH := hide kH
          obtain ⟨Az, cz, e1, y1, y2⟩ := hPt
          injection e1 with e1 _ e2
          subst e1; subst e2
          have HOwn := hide y1
          generalize out.map Value.string = X at *
          generalize out.length = Nn at *
          clear y1 y2 kH
          by_cases hcap : cL = at_
          · subst hcap
            cases L
            all_goals
              go_wp2_with (at_builtin; refine wpList_append_own_zero rfl _ _ 38 rfl wl.heap.size 9 i0 1 Tryz.underlying38 hi0 _ Nn X (by rfl) HOwn.out _ _ (by rfl) ?_)
              go_meet
              exact ⟨HF.out, KH.out⟩
          · cases L
            all_goals
              go_wp2_with (at_builtin; refine wpList_append_own_zero rfl _ _ 38 rfl wl.heap.size 9 i0 1 Tryz.underlying38 hi0 _ Nn X (by rfl) HOwn.out _ _ (by rfl) ?_)
              go_meet
              exact ⟨HF.out, KH.out⟩
        · have hqlt : at_ < q := by omega
          have hM3 : q ≤ (linesB s).length := by have := HM.out; omega
          have hst := HStrs.out
          obtain ⟨bL, oL, rfl, _⟩ := hst at_ (by omega)
          have hlW : Below wl.heap.size wl W0 := by obtain ⟨_, _, _, _, h⟩ := HR0.out; exact h
          have hstW := HL.out.kept hlW
          obtain ⟨sg, hsg⟩ : ∃ sg, Hk.seg (linesB s) at_ q = sg := ⟨_, rfl⟩
          have hnews : ∀ j u, (sg.map Value.string)[j]? = some u → W0.cell? ((⟨bL, oL + at_, none⟩ : Addr).add j) = some u := by
            intro j u hj
            rw [List.getElem?_map] at hj
            have hjl : j < q - at_ := by
              rcases Nat.lt_or_ge j (q - at_) with h | h
              · exact h
              · rw [← hsg, List.getElem?_eq_none (by rw [hsl]; exact h)] at hj; simp at hj
            obtain ⟨b', o', e, hc⟩ := hstW (at_ + j) (by omega)
            injection e with e
            injection e with e1 e2
            subst e1; subst e2
            have hg : sg[j]? = some ((linesB s).getD (at_ + j) ByteArray.empty) := by
              rw [← hsg]
              unfold Hk.seg
              rw [List.getElem?_take_of_lt hjl, List.getElem?_drop, List.getD_eq_getElem?_getD, List.getElem?_eq_getElem (by omega)]; rfl
            rw [hg] at hj
            simp only [Option.map_some, Option.some.injEq] at hj
            subst hj
            rw [Addr.add_lit, Nat.add_assoc]
            exact hc
          have hln : (sg.map Value.string).length = (q - at_) * 1 := by rw [List.length_map, ← hsg, hsl, Nat.mul_one]
          have hcs : ∀ u ∈ sg.map Value.string, u.oneCell' = true := by
            intro u hu
            obtain ⟨x, _, rfl⟩ := List.mem_map.1 hu
            rfl
          have hsgl : sg.length = q - at_ := by rw [← hsg]; exact hsl
          have hPt := HR0.out
          have HPush : Hid (∀ (w1 : World) (g cap : Nat), w1.ownsRow wl.heap.size 9 1 (.slice (some ⟨g, 0, none⟩) (out.length + (q - at_)) cap) (out.length + (q - at_)) (out.map Value.string ++ sg.map Value.string) → W0.grownBy w1 (Value.slice Aw out.length cw).ownBlock →
              PtRel wl w1 (out ++ sg) (.slice (some ⟨g, 0, none⟩) (out.length + (q - at_)) cap) ∧ Blk w1 gH 60 #[.int .i64 ((q : Int) + 1), .int .i64 hg, .slice L2 ls.length c2]) := hide (fun w1 g cap h1 h2 => by
            rw [← hsgl] at h1 ⊢
            refine ⟨hPt.push0 h1 h2, kH.grown h2 (fun e => ?_)⟩
            obtain ⟨_, _, _, y1, _⟩ := hPt
            rcases y1.2 with ⟨e1, _⟩ | ⟨g1, c1, cur, e1, _, e3, _⟩
            · rw [e1] at e; simp [Value.ownBlock] at e
            · rw [e1] at e
              simp [Value.ownBlock] at e
              subst e
              exact Blk.ne_ kH (show Blk W0 gH 9 cur from e3) (by decide) rfl)
          obtain ⟨Az, cz, e1, y1, y2⟩ := hPt
          injection e1 with e1 _ e2
          subst e1; subst e2
          have HOwn := hide y1
          have hwl := y2.size
          have hcapne : ¬ cL = at_ := by omega
          have hcq : q ≤ cL := by omega
          have hmlen : out.length + (q - at_) ≤ 1000000000 := by omega
          obtain ⟨Y, hY⟩ : ∃ Y, sg.map Value.string = Y := ⟨_, rfl⟩
          rw [hY] at hnews hln hcs HPush
          have HSg := hide hsg
          obtain ⟨X, hX⟩ : ∃ X, out.map Value.string = X := ⟨_, rfl⟩
          rw [hX] at HOwn HPush
          obtain ⟨Nn, hNn⟩ : ∃ Nn, out.length = Nn := ⟨_, rfl⟩
          rw [hNn] at HOwn HPush hmlen ⊢
          have HCs := hide hcs
          have HNews := hide hnews
          clear y1 y2 kH hsg hsl hsgl hst hstW hX hNn hY hcs hnews hlW
          go_wp2_with (first
            | (at_builtin; refine wpList_append_lies _ rfl _ _ 38 rfl wl.heap.size 9 i0 _ 1 16 Tryz.underlying38 hi0 hz0 hz1 hzb rfl (by omega) (.slice Aw Nn cw) Nn X (by rfl) HOwn.out ⟨bL, oL + at_, none⟩ (q - at_) (cL - at_) Y (by rfl) hln HNews.out HCs.out (by omega) (by unfold maxLen; omega) (by omega) (by omega) W0.heap.size rfl ?_; intro g2 cap2 w5 hown1 hgrow hat hlt2))
          have HF := hide (HPush.out _ _ _ hown1 hgrow)
          clear hown1 hgrow hat HPush
          go_wp2_with fail
          go_meet
          rw [HSg.out]
          exact HF.out
      case rest =>
        obtain ⟨hP1, kH1⟩ := hcut
        have fH1 := kH1.three
        obtain ⟨out1, ho1'⟩ : ∃ out1, out ++ Hk.seg (linesB s) at_ q = out1 := ⟨_, rfl⟩
        rw [ho1'] at hP1 HNext
        have hol : out1.length = out.length + (q - at_) := by rw [← ho1', List.length_append, hsl]
        have hol2 : out1.length + (Hk.news ls).length ≤ 1000000000 := by omega
        have HP1 := hide hP1
        have I0 : Hid (PtRel wl wc (out1 ++ Hk.news (ls.take 0)) u9) := hide (by simpa [Hk.news] using hP1)
        clear hP1 kH1 ho1' hol ho2 ho1 hsl HR HR0 HStrs hB2 fH lH kH
        go_wp2_with fail
        go_loopw [9, 10, 60] (fun av pv jv wr => ∃ j : Nat, jv = .int .i64 j ∧ j ≤ ls.length ∧ pv = .int .i64 ((q + (Hk.olds (ls.take j)).length : Nat) : Int) ∧ Hid (PtRel wl wr (out1 ++ Hk.news (ls.take j)) av)) (fun _ _ jv _ => ls.length - (intOf jv).toNat)
        case atStart => exact ⟨0, rfl, Nat.zero_le _, by simp [Hk.olds], I0⟩
        case round =>
          obtain ⟨j, rfl, hj, rfl, hr⟩ := hrel
          clear I0
          by_cases hjl : j < ls.length
          · obtain ⟨Aw, cw, rfl, r1, r2⟩ := hr.out
            have hrw := HRw.out.kept r2
            have hjm : j < (ls.map lnCells).length := by simpa using hjl
            obtain ⟨bl, ol, rfl, d0⟩ := hrw j 0 hjm (by omega)
            obtain ⟨bl', ol', e1, d1⟩ := hrw j 1 hjm (by omega)
            injection e1 with e1
            injection e1 with e2 e3
            subst e2; subst e3
            have hv : (ls.map lnCells).getD j [] = lnCells ls[j] := by rw [List.getD_eq_getElem?_getD, List.getElem?_map, List.getElem?_eq_getElem hjl]; rfl
            rw [hv] at d0 d1
            have hot := olds_take hjl
            have hnt := news_take hjl
            have hat := olds_at HQ4.out (by have := HQ3.out; have := HM.out; omega) hjl
            have hos := olds_split ls (j + 1)
            have hns := news_split ls (j + 1)
            have hol3 := congrArg List.length hos
            have hnl3 := congrArg List.length hns
            rw [List.length_append] at hol3 hnl3
            obtain ⟨x, hx⟩ : ∃ x, ls[j] = x := ⟨_, rfl⟩
            have hk3 := HKk.out _ (List.getElem_mem hjl)
            rw [hx] at d0 d1 hot hnt hat hk3
            obtain ⟨xk, xt⟩ := x
            simp only [lnCells, List.getD_cons_zero, List.getD_cons_succ, Nat.add_zero] at d0 d1
            have g1 : wr.cell? ⟨bl, ol + j * 2 + 1, none⟩ = some (.string xt) := d1
            clear d1
            dsimp only at hot hnt hat hk3
            have hq5 := HQ3.out
            obtain ⟨ot, hot2⟩ : ∃ ot, (Hk.olds (ls.take j)).length = ot := ⟨_, rfl⟩
            obtain ⟨ap, hap⟩ : ∃ ap, q + ot = ap := ⟨_, rfl⟩
            rw [hot2] at hat ⊢
            rw [hap] at hat ⊢
            have hotl := congrArg List.length hot
            obtain ⟨nt, hnt2⟩ : ∃ nt, Hk.news (ls.take j) = nt := ⟨_, rfl⟩
            rw [hnt2] at hnt r1 hr ⊢
            have hntl := congrArg List.length hnt
            have hNl0 : out1.length + nt.length ≤ 1000000000 := by
              have := congrArg List.length (news_split ls j)
              rw [List.length_append, hnt2] at this
              omega
            by_cases hk1 : xk = 1
            · subst hk1
              rw [if_pos rfl] at hot hotl
              rw [if_neg (by omega)] at hnt hntl
              have HOt : Hid (q + (Hk.olds (ls.take (j + 1))).length = ap) := hide (by rw [hot, hot2, hap])
              go_upto_region 15 with fail
              refine wp_gen ?_
              intro WW hWW
              have hPW : PtRel wl WW (out1 ++ nt) (.slice Aw (out1 ++ nt).length cw) := hr.out.kept (w1 := WW) (by rw [hWW]; go_grown)
              have HPush : Hid (∀ (w1 : World) (g cap : Nat) (o : Obj), w1.ownsRow wl.heap.size 9 1 (.slice (some ⟨g, 0, none⟩) ((out1 ++ nt).length + 1) cap) ((out1 ++ nt).length + 1) ((out1 ++ nt).map Value.string ++ [.string xt]) → (WW.alloc o).grownBy w1 (Value.slice Aw (out1 ++ nt).length cw).ownBlock →
                  PtRel wl w1 (out1 ++ Hk.news (ls.take (j + 1))) (.slice (some ⟨g, 0, none⟩) ((out1 ++ nt).length + 1) cap)) := hide (fun w1 g cap o h1 h2 => by
                have := hPW.push (xs := [xt]) h1 h2
                rw [List.append_assoc] at this
                rw [hnt]
                exact this)
              have HOwn : Hid (WW.ownsRow wl.heap.size 9 1 (.slice Aw (out1 ++ nt).length cw) (out1 ++ nt).length ((out1 ++ nt).map Value.string)) := hide (by obtain ⟨_, _, e1, y1, _⟩ := hPW; exact y1)
              have hwlW : wl.heap.size ≤ WW.heap.size := by obtain ⟨_, _, _, _, y2⟩ := hPW; exact y2.size
              have hNl : (out1 ++ nt).length ≤ 1000000000 := by rw [List.length_append]; exact hNl0
              generalize (out1 ++ nt).map Value.string = X at *
              generalize (out1 ++ nt).length = Nn at *
              have kL : Blk WW wr.heap.size 65 #[.int .i64 1, .string xt] := by rw [hWW]; exact Blk.new _ _ _
              have fL0 := kL.cell 0
              have fL1 := kL.cell 1
              simp at fL0 fL1
              clear hrw hv hx hot hnt hos hns hot2 hnt2 hap hat r1 r2 hr hPW hjm kL hotl hntl hol3 hnl3
              clear hWW d0 g1
              go_wp2_with (first
                | (at_builtin; refine wpList_append_lies _ rfl _ _ 38 rfl wl.heap.size 9 i0 _ 1 16 Tryz.underlying38 hi0 hz0 hz1 hzb rfl (by omega) (.slice Aw Nn cw) Nn X (by rfl) ((HOwn.out).alloc _) ⟨WW.heap.size, 0, none⟩ 1 1 [.string xt] (by rfl) (by rfl) (World.news_of_block (cs := #[.string xt]) (t := 9) (fr := (0, 0)) (heap_alloc_new WW _)) (by simp [Value.oneCell']) (by omega) (by unfold maxLen; omega) (by omega) (by simp; omega) (WW.heap.size + 1) (by simp) ?_; intro g2 cap2 w5 hown1 hgrow hat2 hlt2))
              have HR := hide (HPush.out _ _ _ _ hown1 hgrow)
              clear hown1 hgrow hat2 HPush
              go_roundw
              case rel => exact ⟨j + 1, by go_num, by omega, by rw [HOt.out], HR⟩
              case measure => simp [intOf]; omega
            · by_cases hk0 : xk = 0
              · have hk2 : xk = 0 := by omega
                subst hk2
                rw [if_neg (by omega)] at hot hotl
                rw [if_pos rfl] at hnt
                obtain ⟨hapM, hape⟩ := hat (by omega)
                have hapM2 : ap < M := by have := HM.out; omega
                have HOt : Hid (q + (Hk.olds (ls.take (j + 1))).length = ap + 1) := hide (by rw [hot, List.length_append, hot2, List.length_singleton]; omega)
                obtain ⟨bL, oL, rfl, hcl⟩ := HL.out.kept r2 ap (by have := HM.out; omega)
                have hce : (linesB s).getD ap ByteArray.empty = xt := by rw [List.getD_eq_getElem?_getD, List.getElem?_eq_getElem hapM]; exact hape
                rw [hce] at hcl
                have heq : (xt.toList == xt.toList) = true := by simp
                have hge : ¬ (M : Int) ≤ (ap : Int) := by omega
                go_upto_region 16 with fail
                refine wp_gen ?_
                intro WY hWY
                have hbY : Below wr.heap.size wr WY := by rw [hWY]; go_grown
                have kY : Blk WY wr.heap.size 65 #[.int .i64 0, .string xt] := by rw [hWY]; exact Blk.new _ _ _
                have hclY := kcell hbY hcl
                have fY0 := kY.cell 0
                have fY1 := kY.cell 1
                simp at fY0 fY1
                have lY := kY.lt
                have lLc := lt_of_cell hclY
                have HrY := hide (hr.out.kept hbY)
                have KY := hide kY
                have HNt := hide hnt
                have HNl := hide hntl
                clear hWY d0 g1 hcl hrw hv hx hot hotl hnt hntl hat hos hns hot2 hnt2 hap hce hape hapM r1 r2 hr hjm kY hol3 hnl3 hbY
                refine wp_region_held_drew (S := fun wS => (∀ b o, b < WY.heap.size → wS.cell? ⟨b, o, none⟩ = WY.cell? ⟨b, o, none⟩) ∧ WY.heap.size ≤ wS.heap.size ∧ Below (WY.heap.size) WY wS) (by kernel_rfl) (by with_reducible exact SB.start (by omega)) (fun hHeldH10 => ?_)
                refine wpAnyH_take (i := 0) (oi := ?oH1_0) (v := ?vH1_0) ?hiH1_0 (by kernel_rfl) (by kernel_rfl) (by kernel_rfl) ?hqH1_0 ?hyH1_0 (by assumption) ?restH1_0
                case hiH1_0 => (simp only [List.getElem?_toArray, List.getElem?_cons_zero, List.getElem?_cons_succ]; rfl)
                case hqH1_0 => exact fun _ _ _ h => h
                case hyH1_0 => (refine Or.inl ⟨rfl, ?_⟩; intro w hSw; (try dsimp only at hSw); go_split_ands; (first | (go_simp; done) | (go_simp; with_reducible rfl)))
                simp only [Act.put, List.setIfInBounds_toArray, List.set_cons_zero, List.set_cons_succ]
                refine wpAnyH_take (i := 1) (oi := ?oH1_1) (v := ?vH1_1) ?hiH1_1 (by kernel_rfl) (by kernel_rfl) (by kernel_rfl) ?hqH1_1 ?hyH1_1 (by assumption) ?restH1_1
                case hiH1_1 => (simp only [List.getElem?_toArray, List.getElem?_cons_zero, List.getElem?_cons_succ]; rfl)
                case hqH1_1 => exact fun _ _ _ h => h
                case hyH1_1 => (refine Or.inl ⟨rfl, ?_⟩; intro w hSw; (try dsimp only at hSw); go_split_ands; (first | (go_simp; done) | (go_simp; with_reducible rfl)))
                simp only [Act.put, List.setIfInBounds_toArray, List.set_cons_zero, List.set_cons_succ]
                refine wpAnyH_take (i := 2) (oi := ?oH1_2) (v := ?vH1_2) ?hiH1_2 (by kernel_rfl) (by kernel_rfl) (by kernel_rfl) ?hqH1_2 ?hyH1_2 (by assumption) ?restH1_2
                case hiH1_2 => (simp only [List.getElem?_toArray, List.getElem?_cons_zero, List.getElem?_cons_succ]; rfl)
                case hqH1_2 => exact fun _ _ _ h => h
                case hyH1_2 => (refine Or.inl ⟨rfl, ?_⟩; intro w hSw; (try dsimp only at hSw); go_split_ands; (first | (go_simp; done) | (go_simp; with_reducible rfl)))
                simp only [Act.put, List.setIfInBounds_toArray, List.set_cons_zero, List.set_cons_succ]
                refine wpAnyH_take (i := 3) (oi := ?oH1_3) (v := ?vH1_3) ?hiH1_3 (by kernel_rfl) (by kernel_rfl) (by kernel_rfl) ?hqH1_3 ?hyH1_3 (by assumption) ?restH1_3
                case hiH1_3 => (simp only [List.getElem?_toArray, List.getElem?_cons_zero, List.getElem?_cons_succ]; rfl)
                case hqH1_3 => exact fun _ _ _ h => h
                case hyH1_3 => (refine Or.inl ⟨rfl, ?_⟩; intro w hSw; (try dsimp only at hSw); go_split_ands; (first | (go_simp; done) | (go_simp; with_reducible rfl)))
                simp only [Act.put, List.setIfInBounds_toArray, List.set_cons_zero, List.set_cons_succ]
                refine wpAnyH_take (i := 4) (oi := ?oH1_4) (v := ?vH1_4) ?hiH1_4 (by kernel_rfl) (by kernel_rfl) (by kernel_rfl) ?hqH1_4 ?hyH1_4 (by assumption) ?restH1_4
                case hiH1_4 => (simp only [List.getElem?_toArray, List.getElem?_cons_zero, List.getElem?_cons_succ]; rfl)
                case hqH1_4 => exact fun _ _ _ h => h
                case hyH1_4 => (refine Or.inl ⟨rfl, ?_⟩; intro w hSw; (try dsimp only at hSw); go_split_ands; (first | (go_simp; done) | (go_simp; with_reducible rfl)))
                simp only [Act.put, List.setIfInBounds_toArray, List.set_cons_zero, List.set_cons_succ]
                refine wpAnyH_take (i := 5) (oi := ?oH1_5) (v := ?vH1_5) ?hiH1_5 (by kernel_rfl) (by kernel_rfl) (by kernel_rfl) ?hqH1_5 ?hyH1_5 (by assumption) ?restH1_5
                case hiH1_5 => (simp only [List.getElem?_toArray, List.getElem?_cons_zero, List.getElem?_cons_succ]; rfl)
                case hqH1_5 => exact fun _ _ _ h => h
                case hyH1_5 => (refine Or.inl ⟨rfl, ?_⟩; intro w hSw; (try dsimp only at hSw); go_split_ands; (first | (go_simp; done) | (go_simp; with_reducible rfl)))
                simp only [Act.put, List.setIfInBounds_toArray, List.set_cons_zero, List.set_cons_succ]
                refine wpAnyH_take (i := 6) (oi := ?oH1_6) (v := ?vH1_6) ?hiH1_6 (by kernel_rfl) (by kernel_rfl) (by kernel_rfl) ?hqH1_6 ?hyH1_6 (by assumption) ?restH1_6
                case hiH1_6 => (simp only [List.getElem?_toArray, List.getElem?_cons_zero, List.getElem?_cons_succ]; rfl)
                case hqH1_6 => exact fun _ _ _ h => h
                case hyH1_6 => (refine Or.inl ⟨rfl, ?_⟩; intro w hSw; (try dsimp only at hSw); go_split_ands; (first | (go_simp; done) | (go_simp; with_reducible rfl)))
                simp only [Act.put, List.setIfInBounds_toArray, List.set_cons_zero, List.set_cons_succ]
                refine wpAnyH_take (i := 7) (oi := ?oH1_7) (v := ?vH1_7) ?hiH1_7 (by kernel_rfl) (by kernel_rfl) (by kernel_rfl) ?hqH1_7 ?hyH1_7 (by assumption) ?restH1_7
                case hiH1_7 => (simp only [List.getElem?_toArray, List.getElem?_cons_zero, List.getElem?_cons_succ]; rfl)
                case hqH1_7 => exact fun _ _ _ h => h
                case hyH1_7 => (refine Or.inl ⟨rfl, ?_⟩; intro w hSw; (try dsimp only at hSw); go_split_ands; (first | (go_simp; done) | (go_simp; with_reducible rfl)))
                simp only [Act.put, List.setIfInBounds_toArray, List.set_cons_zero, List.set_cons_succ]
                refine wpAnyH_take (i := 8) (oi := ?oH1_8) (v := ?vH1_8) ?hiH1_8 (by kernel_rfl) (by kernel_rfl) (by kernel_rfl) ?hqH1_8 ?hyH1_8 (by assumption) ?restH1_8
                case hiH1_8 => (simp only [List.getElem?_toArray, List.getElem?_cons_zero, List.getElem?_cons_succ]; rfl)
                case hqH1_8 => exact fun _ _ _ h => h
                case hyH1_8 => (refine Or.inl ⟨rfl, ?_⟩; intro w hSw; (try dsimp only at hSw); go_split_ands; (first | (go_simp; done) | (go_simp; with_reducible rfl)))
                simp only [Act.put, List.setIfInBounds_toArray, List.set_cons_zero, List.set_cons_succ]
                refine wpAnyH_take (i := 9) (oi := ?oH1_9) (v := ?vH1_9) ?hiH1_9 (by kernel_rfl) (by kernel_rfl) (by kernel_rfl) ?hqH1_9 ?hyH1_9 (by assumption) ?restH1_9
                case hiH1_9 => (simp only [List.getElem?_toArray, List.getElem?_cons_zero, List.getElem?_cons_succ]; rfl)
                case hqH1_9 => exact fun _ _ _ h => h
                case hyH1_9 => (refine Or.inl ⟨rfl, ?_⟩; intro w hSw; (try dsimp only at hSw); go_split_ands; (first | (go_simp; done) | (go_simp; with_reducible rfl)))
                simp only [Act.put, List.setIfInBounds_toArray, List.set_cons_zero, List.set_cons_succ]
                refine wpAnyH_take (i := 10) (oi := ?oH1_10) (v := ?vH1_10) ?hiH1_10 (by kernel_rfl) (by kernel_rfl) (by kernel_rfl) ?hqH1_10 ?hyH1_10 (by assumption) ?restH1_10
                case hiH1_10 => (simp only [List.getElem?_toArray, List.getElem?_cons_zero, List.getElem?_cons_succ]; rfl)
                case hqH1_10 => exact fun _ _ _ h => h
                case hyH1_10 => (refine Or.inl ⟨rfl, ?_⟩; intro w hSw; (try dsimp only at hSw); go_split_ands; (first | (go_simp; done) | (go_simp; with_reducible rfl)))
                simp only [Act.put, List.setIfInBounds_toArray, List.set_cons_zero, List.set_cons_succ]
                refine wpAnyH_take (i := 11) (oi := ?oH1_11) (v := ?vH1_11) ?hiH1_11 (by kernel_rfl) (by kernel_rfl) (by kernel_rfl) ?hqH1_11 ?hyH1_11 (by assumption) ?restH1_11
                case hiH1_11 => (simp only [List.getElem?_toArray, List.getElem?_cons_zero, List.getElem?_cons_succ]; rfl)
                case hqH1_11 => exact fun _ _ _ h => h
                case hyH1_11 => (refine Or.inl ⟨rfl, ?_⟩; intro w hSw; (try dsimp only at hSw); go_split_ands; (first | (go_simp; done) | (go_simp; with_reducible rfl)))
                simp only [Act.put, List.setIfInBounds_toArray, List.set_cons_zero, List.set_cons_succ]
                refine wpAnyH_take (i := 12) (oi := ?oH1_12) (v := ?vH1_12) ?hiH1_12 (by kernel_rfl) (by kernel_rfl) (by kernel_rfl) ?hqH1_12 ?hyH1_12 (by assumption) ?restH1_12
                case hiH1_12 => (simp only [List.getElem?_toArray, List.getElem?_cons_zero, List.getElem?_cons_succ]; rfl)
                case hqH1_12 => exact fun _ _ _ h => h
                case hyH1_12 => (refine Or.inl ⟨rfl, ?_⟩; intro w hSw; (try dsimp only at hSw); go_split_ands; (first | (go_simp; done) | (go_simp; with_reducible rfl)))
                simp only [Act.put, List.setIfInBounds_toArray, List.set_cons_zero, List.set_cons_succ]
                refine wpAnyH_done (by kernel_rfl) ?_ _
                go_upto_region 18 with fail
                refine wp_gen ?_
                intro WW hWW
                have HF : Hid (PtRel wl WW (out1 ++ Hk.news (ls.take (j + 1))) (.slice Aw (out1 ++ nt).length cw)) := hide (by rw [HNt.out, hWW]; exact HrY.out.kept (below_first (Below.refl _ _)))
                have kL : Blk WW wr.heap.size 65 #[.int .i64 0, .string xt] := by rw [hWW]; exact KY.out.drew
                have fL0 := kL.cell 0
                simp at fL0
                clear hWW hclY fY0 fY1 lY lLc HrY KY kL
                go_wp2
                go_roundw
                case rel => exact ⟨j + 1, by go_num, by omega, by rw [HOt.out]; go_num, HF⟩
                case measure => simp [intOf]; omega
              · have hk2 : xk = 2 := by omega
                subst hk2
                rw [if_neg (by omega)] at hot hotl
                rw [if_neg (by omega)] at hnt hntl
                obtain ⟨hapM, hape⟩ := hat (by omega)
                have hapM2 : ap < M := by have := HM.out; omega
                have HOt : Hid (q + (Hk.olds (ls.take (j + 1))).length = ap + 1) := hide (by rw [hot, List.length_append, hot2, List.length_singleton]; omega)
                obtain ⟨bL, oL, rfl, hcl⟩ := HL.out.kept r2 ap (by have := HM.out; omega)
                have hce : (linesB s).getD ap ByteArray.empty = xt := by rw [List.getD_eq_getElem?_getD, List.getElem?_eq_getElem hapM]; exact hape
                rw [hce] at hcl
                have heq : (xt.toList == xt.toList) = true := by simp
                have hge : ¬ (M : Int) ≤ (ap : Int) := by omega
                go_upto_region 16 with fail
                refine wp_gen ?_
                intro WY hWY
                have hbY : Below wr.heap.size wr WY := by rw [hWY]; go_grown
                have kY : Blk WY wr.heap.size 65 #[.int .i64 2, .string xt] := by rw [hWY]; exact Blk.new _ _ _
                have hclY := kcell hbY hcl
                have fY0 := kY.cell 0
                have fY1 := kY.cell 1
                simp at fY0 fY1
                have lY := kY.lt
                have lLc := lt_of_cell hclY
                have HrY := hide (hr.out.kept hbY)
                have KY := hide kY
                have HNt := hide hnt
                have HNl := hide hntl
                clear hWY d0 g1 hcl hrw hv hx hot hotl hnt hntl hat hos hns hot2 hnt2 hap hce hape hapM r1 r2 hr hjm kY hol3 hnl3 hbY
                refine wp_region_held_drew (S := fun wS => (∀ b o, b < WY.heap.size → wS.cell? ⟨b, o, none⟩ = WY.cell? ⟨b, o, none⟩) ∧ WY.heap.size ≤ wS.heap.size ∧ Below (WY.heap.size) WY wS) (by kernel_rfl) (by with_reducible exact SB.start (by omega)) (fun hHeldH20 => ?_)
                refine wpAnyH_take (i := 0) (oi := ?oH2_0) (v := ?vH2_0) ?hiH2_0 (by kernel_rfl) (by kernel_rfl) (by kernel_rfl) ?hqH2_0 ?hyH2_0 (by assumption) ?restH2_0
                case hiH2_0 => (simp only [List.getElem?_toArray, List.getElem?_cons_zero, List.getElem?_cons_succ]; rfl)
                case hqH2_0 => exact fun _ _ _ h => h
                case hyH2_0 => (refine Or.inl ⟨rfl, ?_⟩; intro w hSw; (try dsimp only at hSw); go_split_ands; (first | (go_simp; done) | (go_simp; with_reducible rfl)))
                simp only [Act.put, List.setIfInBounds_toArray, List.set_cons_zero, List.set_cons_succ]
                refine wpAnyH_take (i := 1) (oi := ?oH2_1) (v := ?vH2_1) ?hiH2_1 (by kernel_rfl) (by kernel_rfl) (by kernel_rfl) ?hqH2_1 ?hyH2_1 (by assumption) ?restH2_1
                case hiH2_1 => (simp only [List.getElem?_toArray, List.getElem?_cons_zero, List.getElem?_cons_succ]; rfl)
                case hqH2_1 => exact fun _ _ _ h => h
                case hyH2_1 => (refine Or.inl ⟨rfl, ?_⟩; intro w hSw; (try dsimp only at hSw); go_split_ands; (first | (go_simp; done) | (go_simp; with_reducible rfl)))
                simp only [Act.put, List.setIfInBounds_toArray, List.set_cons_zero, List.set_cons_succ]
                refine wpAnyH_take (i := 2) (oi := ?oH2_2) (v := ?vH2_2) ?hiH2_2 (by kernel_rfl) (by kernel_rfl) (by kernel_rfl) ?hqH2_2 ?hyH2_2 (by assumption) ?restH2_2
                case hiH2_2 => (simp only [List.getElem?_toArray, List.getElem?_cons_zero, List.getElem?_cons_succ]; rfl)
                case hqH2_2 => exact fun _ _ _ h => h
                case hyH2_2 => (refine Or.inl ⟨rfl, ?_⟩; intro w hSw; (try dsimp only at hSw); go_split_ands; (first | (go_simp; done) | (go_simp; with_reducible rfl)))
                simp only [Act.put, List.setIfInBounds_toArray, List.set_cons_zero, List.set_cons_succ]
                refine wpAnyH_take (i := 3) (oi := ?oH2_3) (v := ?vH2_3) ?hiH2_3 (by kernel_rfl) (by kernel_rfl) (by kernel_rfl) ?hqH2_3 ?hyH2_3 (by assumption) ?restH2_3
                case hiH2_3 => (simp only [List.getElem?_toArray, List.getElem?_cons_zero, List.getElem?_cons_succ]; rfl)
                case hqH2_3 => exact fun _ _ _ h => h
                case hyH2_3 => (refine Or.inl ⟨rfl, ?_⟩; intro w hSw; (try dsimp only at hSw); go_split_ands; (first | (go_simp; done) | (go_simp; with_reducible rfl)))
                simp only [Act.put, List.setIfInBounds_toArray, List.set_cons_zero, List.set_cons_succ]
                refine wpAnyH_take (i := 4) (oi := ?oH2_4) (v := ?vH2_4) ?hiH2_4 (by kernel_rfl) (by kernel_rfl) (by kernel_rfl) ?hqH2_4 ?hyH2_4 (by assumption) ?restH2_4
                case hiH2_4 => (simp only [List.getElem?_toArray, List.getElem?_cons_zero, List.getElem?_cons_succ]; rfl)
                case hqH2_4 => exact fun _ _ _ h => h
                case hyH2_4 => (refine Or.inl ⟨rfl, ?_⟩; intro w hSw; (try dsimp only at hSw); go_split_ands; (first | (go_simp; done) | (go_simp; with_reducible rfl)))
                simp only [Act.put, List.setIfInBounds_toArray, List.set_cons_zero, List.set_cons_succ]
                refine wpAnyH_take (i := 5) (oi := ?oH2_5) (v := ?vH2_5) ?hiH2_5 (by kernel_rfl) (by kernel_rfl) (by kernel_rfl) ?hqH2_5 ?hyH2_5 (by assumption) ?restH2_5
                case hiH2_5 => (simp only [List.getElem?_toArray, List.getElem?_cons_zero, List.getElem?_cons_succ]; rfl)
                case hqH2_5 => exact fun _ _ _ h => h
                case hyH2_5 => (refine Or.inl ⟨rfl, ?_⟩; intro w hSw; (try dsimp only at hSw); go_split_ands; (first | (go_simp; done) | (go_simp; with_reducible rfl)))
                simp only [Act.put, List.setIfInBounds_toArray, List.set_cons_zero, List.set_cons_succ]
                refine wpAnyH_take (i := 6) (oi := ?oH2_6) (v := ?vH2_6) ?hiH2_6 (by kernel_rfl) (by kernel_rfl) (by kernel_rfl) ?hqH2_6 ?hyH2_6 (by assumption) ?restH2_6
                case hiH2_6 => (simp only [List.getElem?_toArray, List.getElem?_cons_zero, List.getElem?_cons_succ]; rfl)
                case hqH2_6 => exact fun _ _ _ h => h
                case hyH2_6 => (refine Or.inl ⟨rfl, ?_⟩; intro w hSw; (try dsimp only at hSw); go_split_ands; (first | (go_simp; done) | (go_simp; with_reducible rfl)))
                simp only [Act.put, List.setIfInBounds_toArray, List.set_cons_zero, List.set_cons_succ]
                refine wpAnyH_take (i := 7) (oi := ?oH2_7) (v := ?vH2_7) ?hiH2_7 (by kernel_rfl) (by kernel_rfl) (by kernel_rfl) ?hqH2_7 ?hyH2_7 (by assumption) ?restH2_7
                case hiH2_7 => (simp only [List.getElem?_toArray, List.getElem?_cons_zero, List.getElem?_cons_succ]; rfl)
                case hqH2_7 => exact fun _ _ _ h => h
                case hyH2_7 => (refine Or.inl ⟨rfl, ?_⟩; intro w hSw; (try dsimp only at hSw); go_split_ands; (first | (go_simp; done) | (go_simp; with_reducible rfl)))
                simp only [Act.put, List.setIfInBounds_toArray, List.set_cons_zero, List.set_cons_succ]
                refine wpAnyH_take (i := 8) (oi := ?oH2_8) (v := ?vH2_8) ?hiH2_8 (by kernel_rfl) (by kernel_rfl) (by kernel_rfl) ?hqH2_8 ?hyH2_8 (by assumption) ?restH2_8
                case hiH2_8 => (simp only [List.getElem?_toArray, List.getElem?_cons_zero, List.getElem?_cons_succ]; rfl)
                case hqH2_8 => exact fun _ _ _ h => h
                case hyH2_8 => (refine Or.inl ⟨rfl, ?_⟩; intro w hSw; (try dsimp only at hSw); go_split_ands; (first | (go_simp; done) | (go_simp; with_reducible rfl)))
                simp only [Act.put, List.setIfInBounds_toArray, List.set_cons_zero, List.set_cons_succ]
                refine wpAnyH_take (i := 9) (oi := ?oH2_9) (v := ?vH2_9) ?hiH2_9 (by kernel_rfl) (by kernel_rfl) (by kernel_rfl) ?hqH2_9 ?hyH2_9 (by assumption) ?restH2_9
                case hiH2_9 => (simp only [List.getElem?_toArray, List.getElem?_cons_zero, List.getElem?_cons_succ]; rfl)
                case hqH2_9 => exact fun _ _ _ h => h
                case hyH2_9 => (refine Or.inl ⟨rfl, ?_⟩; intro w hSw; (try dsimp only at hSw); go_split_ands; (first | (go_simp; done) | (go_simp; with_reducible rfl)))
                simp only [Act.put, List.setIfInBounds_toArray, List.set_cons_zero, List.set_cons_succ]
                refine wpAnyH_take (i := 10) (oi := ?oH2_10) (v := ?vH2_10) ?hiH2_10 (by kernel_rfl) (by kernel_rfl) (by kernel_rfl) ?hqH2_10 ?hyH2_10 (by assumption) ?restH2_10
                case hiH2_10 => (simp only [List.getElem?_toArray, List.getElem?_cons_zero, List.getElem?_cons_succ]; rfl)
                case hqH2_10 => exact fun _ _ _ h => h
                case hyH2_10 => (refine Or.inl ⟨rfl, ?_⟩; intro w hSw; (try dsimp only at hSw); go_split_ands; (first | (go_simp; done) | (go_simp; with_reducible rfl)))
                simp only [Act.put, List.setIfInBounds_toArray, List.set_cons_zero, List.set_cons_succ]
                refine wpAnyH_take (i := 11) (oi := ?oH2_11) (v := ?vH2_11) ?hiH2_11 (by kernel_rfl) (by kernel_rfl) (by kernel_rfl) ?hqH2_11 ?hyH2_11 (by assumption) ?restH2_11
                case hiH2_11 => (simp only [List.getElem?_toArray, List.getElem?_cons_zero, List.getElem?_cons_succ]; rfl)
                case hqH2_11 => exact fun _ _ _ h => h
                case hyH2_11 => (refine Or.inl ⟨rfl, ?_⟩; intro w hSw; (try dsimp only at hSw); go_split_ands; (first | (go_simp; done) | (go_simp; with_reducible rfl)))
                simp only [Act.put, List.setIfInBounds_toArray, List.set_cons_zero, List.set_cons_succ]
                refine wpAnyH_take (i := 12) (oi := ?oH2_12) (v := ?vH2_12) ?hiH2_12 (by kernel_rfl) (by kernel_rfl) (by kernel_rfl) ?hqH2_12 ?hyH2_12 (by assumption) ?restH2_12
                case hiH2_12 => (simp only [List.getElem?_toArray, List.getElem?_cons_zero, List.getElem?_cons_succ]; rfl)
                case hqH2_12 => exact fun _ _ _ h => h
                case hyH2_12 => (refine Or.inl ⟨rfl, ?_⟩; intro w hSw; (try dsimp only at hSw); go_split_ands; (first | (go_simp; done) | (go_simp; with_reducible rfl)))
                simp only [Act.put, List.setIfInBounds_toArray, List.set_cons_zero, List.set_cons_succ]
                refine wpAnyH_done (by kernel_rfl) ?_ _
                go_upto_region 18 with fail
                refine wp_gen ?_
                intro WW hWW
                have hPW : PtRel wl WW (out1 ++ nt) (.slice Aw (out1 ++ nt).length cw) := by rw [hWW]; exact HrY.out.kept (below_first (Below.refl _ _))
                have kL : Blk WW wr.heap.size 65 #[.int .i64 2, .string xt] := by rw [hWW]; exact KY.out.drew
                have hnt := HNt.out
                have hntl := HNl.out
                have HPush : Hid (∀ (w1 : World) (g cap : Nat) (o : Obj), w1.ownsRow wl.heap.size 9 1 (.slice (some ⟨g, 0, none⟩) ((out1 ++ nt).length + 1) cap) ((out1 ++ nt).length + 1) ((out1 ++ nt).map Value.string ++ [.string xt]) → (WW.alloc o).grownBy w1 (Value.slice Aw (out1 ++ nt).length cw).ownBlock →
                    PtRel wl w1 (out1 ++ Hk.news (ls.take (j + 1))) (.slice (some ⟨g, 0, none⟩) ((out1 ++ nt).length + 1) cap)) := hide (fun w1 g cap o h1 h2 => by
                  have := hPW.push (xs := [xt]) h1 h2
                  rw [List.append_assoc] at this
                  rw [hnt]
                  exact this)
                have HOwn : Hid (WW.ownsRow wl.heap.size 9 1 (.slice Aw (out1 ++ nt).length cw) (out1 ++ nt).length ((out1 ++ nt).map Value.string)) := hide (by obtain ⟨_, _, e1, y1, _⟩ := hPW; exact y1)
                have hwlW : wl.heap.size ≤ WW.heap.size := by obtain ⟨_, _, _, _, y2⟩ := hPW; exact y2.size
                have hNl : (out1 ++ nt).length ≤ 1000000000 := by rw [List.length_append]; exact hNl0
                generalize (out1 ++ nt).map Value.string = X at *
                generalize (out1 ++ nt).length = Nn at *
                have fL0 := kL.cell 0
                have fL1 := kL.cell 1
                simp at fL0 fL1
                clear hWW hclY fY0 fY1 lY lLc HrY KY kL hPW hnt hntl
                go_wp2_with (first
                  | (at_builtin; refine wpList_append_lies _ rfl _ _ 38 rfl wl.heap.size 9 i0 _ 1 16 Tryz.underlying38 hi0 hz0 hz1 hzb rfl (by omega) (.slice Aw Nn cw) Nn X (by rfl) ((HOwn.out).alloc _) ⟨WW.heap.size, 0, none⟩ 1 1 [.string xt] (by rfl) (by rfl) (World.news_of_block (cs := #[.string xt]) (t := 9) (fr := (0, 0)) (heap_alloc_new WW _)) (by simp [Value.oneCell']) (by omega) (by unfold maxLen; omega) (by omega) (by simp; omega) (WW.heap.size + 1) (by simp) ?_; intro g2 cap2 w5 hown1 hgrow hat2 hlt2))
                have HR := hide (HPush.out _ _ _ _ hown1 hgrow)
                clear hown1 hgrow hat2 HPush
                go_roundw
                case rel => exact ⟨j + 1, by go_num, by omega, by rw [HOt.out]; go_num, HR⟩
                case measure => simp [intOf]; omega
          · obtain rfl : j = ls.length := by omega
            have hr2 := hr.out
            rw [List.take_length] at hr2 ⊢
            have HF : Hid (PtRel wl wr (Hk.pst (linesB s) (hs.take (k + 1))).1 u9) := hide (by rw [HNext.out]; exact hr2)
            have HP : Hid ((Hk.pst (linesB s) (hs.take (k + 1))).2 = q + (Hk.olds ls).length) := hide (by rw [HNext.out])
            have hq5 := HQ3.out
            obtain ⟨ap, hap⟩ : ∃ ap, q + (Hk.olds ls).length = ap := ⟨_, rfl⟩
            rw [hap] at HP ⊢
            clear hr hr2 hjl hap hq5
            go_wp2
            go_roundw
            case rel => exact ⟨k + 1, by go_num, by omega, by rw [HP.out], HF⟩
            case measure => simp [intOf]; omega
    · obtain rfl : k = m := by omega
      have hfull : hs.take k = hs := List.take_of_length_le (by have := HMm.out; omega)
      have hatM : (Hk.pst (linesB s) hs).2 ≤ M := by
        rcases List.eq_nil_or_concat hs with h | ⟨l, x, h⟩
        · rw [h]; exact Nat.zero_le _
        · rw [List.concat_eq_append] at h
          have hp := HOk.out
          rw [h] at hp ⊢
          obtain ⟨_, q, q1, q2, q3, q4⟩ := Hk.getLast_snoc hp
          rw [Hk.pst_snoc]
          unfold Hk.pstep
          simp only
          rw [Hk.hok_q q1]
          have := HM.out
          omega
      have hol := HOut.out k (Nat.le_refl _)
      rw [hfull] at hr hol ⊢
      have htot := HTot.out
      obtain ⟨pp, hpp⟩ : ∃ pp, Hk.pst (linesB s) hs = pp := ⟨_, rfl⟩
      rw [hpp] at hatM hol hr htot ⊢
      obtain ⟨out, at_⟩ := pp
      dsimp only at hatM hol hr htot ⊢
      have HPp := hide hpp
      clear hpp hfull HOk HOut HLen HKd HMm HTot hlt
      have hdl : ((linesB s).drop at_).length = M - at_ := by rw [List.length_drop, HM.out]
      obtain ⟨tl, htl⟩ : ∃ tl, (linesB s).drop at_ = tl := ⟨_, rfl⟩
      rw [htl] at hdl htot
      have HTl := hide htl
      clear htl
      have hll : (out ++ tl).length ≤ 2000000000 := by rw [List.length_append]; omega
      have HJn := hide (fun W av (h : PtRel wl W (out ++ tl) av) => join_rel (W := W) (av := av) h htot hll)
      have HRes : Hid (flatB ((Hk.pst (linesB s) hs).1 ++ (linesB s).drop (Hk.pst (linesB s) hs).2) = flatB (out ++ tl)) := hide (by rw [HPp.out]; dsimp only; rw [HTl.out])
      clear htot hll
      by_cases hq0 : at_ = M
      · subst hq0
        have htn : tl = [] := List.eq_nil_of_length_eq_zero (by omega)
        subst htn
        have hPt := hr.out
        have HF : Hid (PtRel wl wr (out ++ []) u9) := hide (by rw [List.append_nil]; exact hPt)
        obtain ⟨Aw, cw, rfl, y1, y2⟩ := hPt
        have HOwn := hide y1
        generalize out.map Value.string = X at *
        generalize out.length = Nn at *
        clear y1 y2 hr hdl
        by_cases hcap : cL = at_
        · subst hcap
          cases L
          all_goals
            go_wp2_with (at_builtin; refine wpList_append_own_zero rfl _ _ 38 rfl wl.heap.size 9 i0 1 Tryz.underlying38 hi0 _ Nn X (by rfl) HOwn.out _ _ (by rfl) ?_)
            refine (HJn.out _ _ HF.out).mono ?_
            rintro e w9 ⟨rfl, hb9⟩
            have HB9 := hide (HBl.out.trans ((HF.out.low.trans (hb9.mono HF.out.low.size)).mono HBl.out.size))
            clear hb9
            go_wp2
            go_ret2
            exact ⟨(by rw [HRes.out]; try rw [List.append_nil]; try rfl), HB9.out⟩
        · cases L
          all_goals
            go_wp2_with (at_builtin; refine wpList_append_own_zero rfl _ _ 38 rfl wl.heap.size 9 i0 1 Tryz.underlying38 hi0 _ Nn X (by rfl) HOwn.out _ _ (by rfl) ?_)
            refine (HJn.out _ _ HF.out).mono ?_
            rintro e w9 ⟨rfl, hb9⟩
            have HB9 := hide (HBl.out.trans ((HF.out.low.trans (hb9.mono HF.out.low.size)).mono HBl.out.size))
            clear hb9
            go_wp2
            go_ret2
            exact ⟨(by rw [HRes.out]; try rw [List.append_nil]; try rfl), HB9.out⟩
      · have hqlt : at_ < M := by omega
        have hM3 : M ≤ (linesB s).length := by have := HM.out; omega
        have hlW : Below wl.heap.size wl wr := by obtain ⟨_, _, _, _, h⟩ := hr.out; exact h
        have hstW := HL.out.kept hlW
        obtain ⟨bL, oL, rfl, _⟩ := hstW at_ (by omega)
        have hnews : ∀ j u, (tl.map Value.string)[j]? = some u → wr.cell? ((⟨bL, oL + at_, none⟩ : Addr).add j) = some u := by
          intro j u hj
          rw [List.getElem?_map] at hj
          have hjl : j < M - at_ := by
            rcases Nat.lt_or_ge j (M - at_) with h | h
            · exact h
            · rw [List.getElem?_eq_none (by rw [hdl]; exact h)] at hj; simp at hj
          obtain ⟨b', o', e, hc⟩ := hstW (at_ + j) (by omega)
          injection e with e
          injection e with e1 e2
          subst e1; subst e2
          have hg : tl[j]? = some ((linesB s).getD (at_ + j) ByteArray.empty) := by
            rw [← HTl.out]
            rw [List.getElem?_drop, List.getD_eq_getElem?_getD, List.getElem?_eq_getElem (by omega)]; rfl
          rw [hg] at hj
          simp only [Option.map_some, Option.some.injEq] at hj
          subst hj
          rw [Addr.add_lit, Nat.add_assoc]
          exact hc
        have hln : (tl.map Value.string).length = (M - at_) * 1 := by rw [List.length_map, hdl, Nat.mul_one]
        have hcs : ∀ u ∈ tl.map Value.string, u.oneCell' = true := by
          intro u hu
          obtain ⟨x, _, rfl⟩ := List.mem_map.1 hu
          rfl
        have hPt := hr.out
        obtain ⟨Aw, cw, rfl, y1, y2⟩ := hPt
        have HPush : Hid (∀ (w1 : World) (g cap : Nat), w1.ownsRow wl.heap.size 9 1 (.slice (some ⟨g, 0, none⟩) (out.length + (M - at_)) cap) (out.length + (M - at_)) (out.map Value.string ++ tl.map Value.string) → wr.grownBy w1 (Value.slice Aw out.length cw).ownBlock →
            PtRel wl w1 (out ++ tl) (.slice (some ⟨g, 0, none⟩) (out.length + (M - at_)) cap)) := hide (fun w1 g cap h1 h2 => by
          rw [← hdl] at h1 ⊢
          exact hr.out.push0 h1 h2)
        have HOwn := hide y1
        have hwl := y2.size
        have hcapne : ¬ cL = at_ := by omega
        have hmlen : out.length + (M - at_) ≤ 2000000000 := by omega
        obtain ⟨Y, hY⟩ : ∃ Y, tl.map Value.string = Y := ⟨_, rfl⟩
        rw [hY] at hnews hln hcs HPush
        obtain ⟨X, hX⟩ : ∃ X, out.map Value.string = X := ⟨_, rfl⟩
        rw [hX] at HOwn HPush
        obtain ⟨Nn, hNn⟩ : ∃ Nn, out.length = Nn := ⟨_, rfl⟩
        rw [hNn] at HOwn HPush hmlen ⊢
        have HCs := hide hcs
        have HNews := hide hnews
        have HDl := hide hdl
        clear y1 y2 hdl hstW hX hNn hY hcs hnews hlW hr
        go_wp2_with (first
          | (at_builtin; refine wpList_append_lies _ rfl _ _ 38 rfl wl.heap.size 9 i0 _ 1 16 Tryz.underlying38 hi0 hz0 hz1 hzb rfl (by omega) (.slice Aw Nn cw) Nn X (by rfl) HOwn.out ⟨bL, oL + at_, none⟩ (M - at_) (cL - at_) Y (by rfl) hln HNews.out HCs.out (by omega) (by unfold maxLen; omega) (by omega) (by omega) wr.heap.size rfl ?_; intro g2 cap2 w5 hown1 hgrow hat hlt2))
        have HF := hide (HPush.out _ _ _ hown1 hgrow)
        clear hown1 hgrow hat HPush
        refine (HJn.out _ _ HF.out).mono ?_
        rintro e w9 ⟨rfl, hb9⟩
        have HB9 := hide (HBl.out.trans ((HF.out.low.trans (hb9.mono HF.out.low.size)).mono HBl.out.size))
        clear hb9
        go_wp2
        go_ret2
        exact ⟨(by rw [HRes.out]; generalize toB (flatB (out ++ tl)) = z; first | rfl | exact rfl | simp), HB9.out⟩
end Go.Proofs.YtgegialfhkgggaaGreatDoor
