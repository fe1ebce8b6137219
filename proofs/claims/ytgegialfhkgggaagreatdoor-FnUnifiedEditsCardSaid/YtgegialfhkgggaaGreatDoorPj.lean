/- Walks and plain laws: edits at offsets and at places, turned, applied; arguments that are slices. No condition but sizes. -/
import Derived.Test.YtgegialfhkgggaaGreatDoorPb
import Derived.ChangeSlices
import Derived.SliceStrings
import Derived.Test.YtgegialfhkgggaaGreatDoorPi
import Derived.BigRegion
import Derived.Test.YtgegialfhkgggaaGreatDoorPc
set_option linter.unusedVariables false
set_option linter.unusedSimpArgs false
namespace Go.Proofs.YtgegialfhkgggaaGreatDoor
open Go.RowKit Go.ChangeShapes Go.ChangeShapes

section
variable {H : Type} {enc : TypeId × Value → H} {P : Program} {w : World} {base : Nat} {spare : Nat → Bool} {held : Bool} {t e : TypeId} {A : Option Addr} {n c : Nat} {d : DataW H} {ps : List MemPlace}
theorem ints_opened (ht : P.underlying t = some (.slice e)) (he : P.underlying e = some (.int .i64)) (hc : P.cellsOf e = 1) (h : DataW.Trod enc P w base spare held t (.slice A n c) d ps) : ∃ zs : List Int, zs.length = n ∧ Ints w A zs := by
  obtain ⟨fuel, hf⟩ := h
  rcases open_ints ht he hc hf with ⟨h1, h2⟩ | ⟨a, len, cap, zs, h1, _, hl, _, hz, _, hcell, _⟩
  · simp [Value.cells] at h1
    obtain ⟨rfl, rfl, rfl⟩ := h1
    exact ⟨[], rfl, fun i hi => absurd hi (Nat.not_lt_zero _)⟩
  · simp [Value.cells] at h1
    obtain ⟨rfl, rfl, rfl⟩ := h1
    have hlz : n ≤ zs.length := by rw [hz]; split <;> omega
    refine ⟨zs.take n, by rw [List.length_take]; omega, fun i hi => ?_⟩
    rw [List.length_take] at hi
    have hsp := World.cell?_spot (hcell 0 (by omega))
    have hc := hcell i (by omega)
    obtain ⟨b, off, spot⟩ := a
    obtain rfl : spot = none := by simpa [Addr.add] using hsp
    refine ⟨b, off, rfl, ?_⟩
    rw [Addr.add_lit] at hc
    rw [hc, List.getD_eq_getElem?_getD, List.getD_eq_getElem?_getD, List.getElem?_take_of_lt (by omega)]
theorem strs_opened (ht : P.underlying t = some (.slice e)) (he : P.underlying e = some .string) (hc : P.cellsOf e = 1) (h : DataW.Trod enc P w base spare held t (.slice A n c) d ps) : ∃ zs : List ByteArray, zs.length = n ∧ Strs w A zs := by
  obtain ⟨fuel, hf⟩ := h
  rcases open_strings ht he hc hf with ⟨h1, h2⟩ | ⟨a, len, cap, zs, h1, _, hl, _, hz, _, hcell, _⟩
  · simp [Value.cells] at h1
    obtain ⟨rfl, rfl, rfl⟩ := h1
    exact ⟨[], rfl, fun i hi => absurd hi (Nat.not_lt_zero _)⟩
  · simp [Value.cells] at h1
    obtain ⟨rfl, rfl, rfl⟩ := h1
    have hlz : n ≤ zs.length := by rw [hz]; split <;> omega
    refine ⟨zs.take n, by rw [List.length_take]; omega, fun i hi => ?_⟩
    rw [List.length_take] at hi
    have hsp := World.cell?_spot (hcell 0 (by omega))
    have hc := hcell i (by omega)
    obtain ⟨b, off, spot⟩ := a
    obtain rfl : spot = none := by simpa [Addr.add] using hsp
    refine ⟨b, off, rfl, ?_⟩
    rw [Addr.add_lit] at hc
    rw [hc, List.getD_eq_getElem?_getD, List.getD_eq_getElem?_getD, List.getElem?_take_of_lt (by omega)]
end
end Go.Proofs.YtgegialfhkgggaaGreatDoor
namespace Go.Proofs.YtgegialfhkgggaaGreatDoor
open Go.RowKit
attribute [local go_sem ↓] Go.wp_at_zero Go.wp_at_succ

/-- Texts that are not too many and not too long. -/
def Fits (ts : List ByteArray) : Prop := ts.length ≤ 2147483647 ∧ ∀ t ∈ ts, t.size ≤ 2147483647
/-- It answers true only if p holds. -/
def Says (p : Prop) (w : World) (e : Ending) (w' : World) : Prop := ∃ b : Bool, e = .returned (.bool b) ∧ (b = true → p) ∧ w = w'
def SaysB (p : Prop) (w : World) (e : Ending) (w' : World) : Prop := ∃ b : Bool, e = .returned (.bool b) ∧ (b = true → p) ∧ Below w.heap.size w w'
theorem Says.no {p : Prop} {w : World} : Says p w (.returned (.bool false)) w := ⟨false, rfl, fun h => Bool.noConfusion h, rfl⟩
theorem Says.yes {p : Prop} {w : World} (h : p) : Says p w (.returned (.bool true)) w := ⟨true, rfl, fun _ => h, rfl⟩
theorem SaysB.no {p : Prop} {w w' : World} (hb : Below w.heap.size w w') : SaysB p w (.returned (.bool false)) w' := ⟨false, rfl, fun h => Bool.noConfusion h, hb⟩
theorem SaysB.yes {p : Prop} {w w' : World} (h : p) (hb : Below w.heap.size w w') : SaysB p w (.returned (.bool true)) w' := ⟨true, rfl, fun _ => h, hb⟩
theorem getD_mem_B {ts : List ByteArray} {k : Nat} (h : k < ts.length) : ts.getD k ByteArray.empty ∈ ts := by
  rw [List.getD_eq_getElem?_getD, List.getElem?_eq_getElem h]; exact List.getElem_mem _
set_option maxHeartbeats 1000000 in
theorem zzFits_any (A : Option Addr) (c : Nat) (ts : List ByteArray) (w : World) (hA : Strs w A ts) :
    Calls Tryz.prog 16 #[.slice A ts.length c] w (Says (Fits ts) w) := by
  have HA := hide hA
  clear hA
  go_enter Tryz.func16, Tryz.ntmps16
  by_cases hn : 2147483647 < ts.length
  · have hn' : (2147483647 : Int) < (ts.length : Int) := by omega
    go_wp2
    go_ret
    exact Says.no
  · have hn' : ¬ (2147483647 : Int) < (ts.length : Int) := by omega
    go_wp2
    go_loop [10] (fun iv => ∃ k : Nat, k ≤ ts.length ∧ iv = .int .i64 k ∧ Hid (∀ i, i < k → (ts.getD i ByteArray.empty).size ≤ 2147483647)) (fun iv => ts.length - (intOf iv).toNat)
    case atStart => exact ⟨0, Nat.zero_le _, rfl, hide (fun i hi => absurd hi (Nat.not_lt_zero _))⟩
    case round =>
      obtain ⟨k, hk, rfl, hall⟩ := hrel
      by_cases hlt : k < ts.length
      · obtain ⟨b, o, rfl, hc⟩ := HA.out k hlt
        have hX : Hid (∀ x, ts.getD k ByteArray.empty = x → x.size ≤ 2147483647 → ∀ i, i < k + 1 → (ts.getD i ByteArray.empty).size ≤ 2147483647) := hide (by
          intro x hx h i hi
          by_cases e : i = k
          · rw [e, hx]; exact h
          · exact hall.out i (by omega))
        obtain ⟨x, hx⟩ : ∃ x, ts.getD k ByteArray.empty = x := ⟨_, rfl⟩
        have HX := hide (hX.out x hx)
        rw [hx] at hc
        clear hX hx hall
        by_cases h1 : 2147483647 < x.size
        · have h1' : (2147483647 : Int) < (x.size : Int) := by omega
          go_wp2
          go_ret
          exact Says.no
        · have h1' : ¬ (2147483647 : Int) < (x.size : Int) := by omega
          go_wp2
          go_round
          case rel => exact ⟨k + 1, by omega, by go_num, hide (HX.out (by omega))⟩
          case measure => simp [intOf]; omega
      · have : k = ts.length := by omega
        subst this
        have HF : Hid (Fits ts) := hide ⟨by omega, fun t ht => by
          obtain ⟨i, hi, rfl⟩ := List.getElem_of_mem ht
          have := hall.out i hi
          rw [List.getD_eq_getElem?_getD, List.getElem?_eq_getElem hi] at this
          exact this⟩
        clear hall
        go_wp2
        go_ret
        exact Says.yes HF.out

/-- Two offsets for each text, each at least the one before and no more than n, no two edits with one start. -/
def CutOk (n : Nat) (cs : List Int) (i : Nat) : Prop := (0 ≤ cs.getD i 0 ∧ (0 < i → cs.getD (i - 1) 0 ≤ cs.getD i 0)) ∧ cs.getD i 0 ≤ n ∧ (0 < i → i % 2 = 0 → cs.getD i 0 ≠ cs.getD (i - 2) 0)
def Cuts (s : ByteArray) (cs : List Int) (ts : List ByteArray) : Prop := cs.length = 2 * ts.length ∧ ts.length ≤ 50 ∧ shortB (s :: ts) = true ∧ ∀ i, i < cs.length → CutOk s.size cs i
def lastC (cs : List Int) : Nat → Int
  | 0 => 0
  | i + 1 => cs.getD i 0
/-- The numbers of a slice as they lie. -/
def IntsN (w : World) (A : Option Addr) (n : Nat) (f : Nat → Int) : Prop := ∀ i, i < n → ∃ b o, A = some ⟨b, o, none⟩ ∧ w.cell? ⟨b, o + i, none⟩ = some (.int .i64 (f i))
set_option maxHeartbeats 4000000 in
set_option maxRecDepth 100000 in
theorem areCuts_any (s : ByteArray) (A B : Option Addr) (ca cb : Nat) (cs : List Int) (ts : List ByteArray) (hs : s.size ≤ 2147483647) (hn : cs.length ≤ 2147483647) (hf : Fits ts) (w : World) (hA : Ints w A cs) (hB : Strs w B ts) :
    Calls Tryz.prog 35 #[.string s, .slice A cs.length ca, .slice B ts.length cb] w (SaysB (Cuts s cs ts) w) := by
  obtain ⟨i0, hi0, hz0, hz1, hzb⟩ := info_parts info_str
  have HA := hide hA
  have HB := hide hB
  clear hA hB
  have hf1 := hf.1
  have HFit := hide hf.2
  clear hf
  obtain ⟨N, hN⟩ : ∃ N, cs.length = N := ⟨_, rfl⟩
  obtain ⟨M, hM⟩ : ∃ M, ts.length = M := ⟨_, rfl⟩
  rw [hM] at hf1
  rw [hN] at hn
  rw [hN, hM]
  by_cases c1 : N = 2 * M
  · subst c1
    by_cases c2 : 50 < M
    · have t2 : decide ((50 : Int) < (M : Int)) = true := by simp; omega
      clear hN hM
      go_enter Tryz.func35, Tryz.ntmps35
      go_wp2
      go_ret
      exact SaysB.no (by go_grown)
    · have t2 : decide ((50 : Int) < (M : Int)) = false := by simp; omega
      have HSh : ∀ W A c, Strs W A (s :: ts) → Calls Tryz.prog 6 #[.slice A (1 + M) c] W fun e w' => e = .returned (.bool (shortB (s :: ts))) ∧ W = w' := fun W A c h => by
        have := isShort_any A c (s :: ts) (by simp; omega) (fun t ht => by
          rcases List.mem_cons.1 ht with rfl | ht
          · omega
          · have := HFit.out t ht; omega) W h
        rw [List.length_cons, hM, Nat.add_comm] at this
        exact this
      have HSH := hide HSh
      clear HSh
      have hst : ∀ (W w2 : World) (g2 cap2 : Nat), w2.ownsRow W.heap.size 9 1 (.slice (some ⟨g2, 0, none⟩) (1 + M) cap2) (1 + M) ([.string s] ++ ts.map Value.string) → Strs w2 (some ⟨g2, 0, none⟩) (s :: ts) := by
        intro W w2 g2 cap2 h
        refine own_strs (base := W.heap.size) (t := 9) (c := cap2) ?_
        rw [List.length_cons, hM, Nat.add_comm]
        exact h
      have HST := hide hst
      clear hst
      by_cases hM0 : M = 0
      · subst hM0
        obtain rfl : ts = [] := List.length_eq_zero_iff.1 hM
        have HCut := hide (fun (q : shortB [s] = true) => (show Cuts s cs [] from ⟨by rw [hN]; rfl, by simp, q, fun i hi => by omega⟩))
        have HS1 := hide (fun (W : World) (h : Blk W w.heap.size 9 #[.string s]) => (show Strs W (some ⟨w.heap.size, 0, none⟩) [s] from Strs.blk h rfl))
        generalize shortB [s] = sh at *
        clear HST HB HA HFit hM hN
        cases sh
        · cases B
          all_goals
            go_enter Tryz.func35, Tryz.ntmps35
            go_wp2_with fail
            refine (HSH.out _ _ _ (HS1.out _ (Blk.newAt (by simp)))).mono ?_
            rintro e w3 ⟨rfl, rfl⟩
            go_wp2
            go_ret
            exact SaysB.no (by go_grown)
        · have HF := hide (HCut.out rfl)
          clear HCut
          cases B
          all_goals
            go_enter Tryz.func35, Tryz.ntmps35
            go_wp2_with fail
            refine (HSH.out _ _ _ (HS1.out _ (Blk.newAt (by simp)))).mono ?_
            rintro e w3 ⟨rfl, rfl⟩
            clear HSH HS1
            go_wp2
            go_loop [7, 31] (fun lv iv => iv = .int .i64 0 ∧ lv = .int .i64 0) (fun _ _ => 0)
            case atStart => exact ⟨rfl, rfl⟩
            case round =>
              obtain ⟨rfl, rfl⟩ := hrel
              go_wp2
              go_ret
              exact SaysB.yes HF.out (by go_grown)
      · obtain ⟨b, o, rfl, hc0⟩ := HB.out 0 (by omega)
        have hnews : ∀ j u, (ts.map Value.string)[j]? = some u → w.cell? ((⟨b, o, none⟩ : Addr).add j) = some u := by
          intro j u hj
          have hlt : j < ts.length := by
            rcases Nat.lt_or_ge j ts.length with h | h
            · exact h
            · rw [List.getElem?_eq_none (by simpa using h)] at hj; cases hj
          obtain ⟨b', o', e, hc⟩ := HB.out j hlt
          injection e with e
          injection e with e1 e2
          subst e1; subst e2
          rw [List.getElem?_map, List.getElem?_eq_getElem hlt] at hj
          rw [List.getD_eq_getElem?_getD, List.getElem?_eq_getElem hlt] at hc
          simp only [Option.map_some, Option.some.injEq] at hj
          subst hj
          rw [Addr.add_lit]
          simpa using hc
        have hlen : (ts.map Value.string).length = M * 1 := by rw [List.length_map, hM, Nat.mul_one]
        have hcs : ∀ u ∈ ts.map Value.string, u.oneCell' = true := by
          intro u hu
          obtain ⟨x, _, rfl⟩ := List.mem_map.1 hu
          rfl
        obtain ⟨X, hX⟩ : ∃ X, ts.map Value.string = X := ⟨_, rfl⟩
        rw [hX] at HST hnews hlen hcs
        clear hX hc0
        go_enter Tryz.func35, Tryz.ntmps35
        go_wp2_with (first
          | (at_builtin; refine BigFrame.wpList_want (by rfl) (fun K hK => ?_); refine wp_append_lies _ _ _ 38 rfl w.heap.size 9 i0 _ 1 16 Tryz.underlying38 hi0 hz0 hz1 hzb rfl (by omega) (.slice (some ⟨w.heap.size, 0, none⟩) 1 1) 1 [.string s] (by rfl) ⟨rfl, Or.inr ⟨w.heap.size, 1, #[.string s], rfl, Nat.le_refl _, Blk.new _ _ _, Nat.le_refl _, by unfold maxLen; omega, rfl, rfl⟩⟩ ⟨b, o, none⟩ M cb X (by rfl) hlen (fun j u h => kcell (by go_grown) (hnews j u h)) hcs (by omega) (by unfold maxLen; omega) (by omega) (by simp) (w.heap.size + 1) (by simp) ?_; intro g2 cap2 w2 hown2 hgrow hat hlt2; refine hK _ _ ?_))
        have hbl2 : Below w.heap.size w w2 := Below.grown (w := w.alloc (.cells #[.string s] 9)) (by go_grown) hgrow (by simp) (fun k hk => by simp [Value.ownBlock] at hk; omega)
        have hS2 := hide (HST.out _ _ _ _ hown2)
        clear hown2 hgrow hat hlt2 hnews hlen hcs
        refine (HSH.out _ _ _ hS2.out).mono ?_
        rintro e w3 ⟨rfl, rfl⟩
        clear hS2 HST HSH
        have HAk := hide (show ∀ i, i < 2 * M → ∃ b o, A = some ⟨b, o, none⟩ ∧ w2.cell? ⟨b, o + i, none⟩ = some (.int .i64 (cs.getD i 0)) from fun i hi => (HA.out.kept hbl2) i (by omega))
        have HCut := hide (fun (q : shortB (s :: ts) = true) (h : ∀ i, i < 2 * M → CutOk s.size cs i) => (show Cuts s cs ts from ⟨by omega, by omega, q, by rw [hN]; exact h⟩))
        generalize shortB (s :: ts) = sh at *
        clear HB HA HFit hM hi0 hz0 hz1 hzb hN
        have HBl := hide hbl2
        clear hbl2
        cases sh
        · go_wp2
          go_ret
          exact SaysB.no HBl.out
        · go_wp2
          go_loop [7, 31] (fun lv iv => ∃ k : Nat, k ≤ 2 * M ∧ iv = .int .i64 k ∧ lv = .int .i64 (lastC cs k) ∧ Hid (∀ i, i < k → CutOk s.size cs i)) (fun _ iv => 2 * M - (intOf iv).toNat)
          case atStart => exact ⟨0, Nat.zero_le _, rfl, rfl, hide (fun i hi => absurd hi (Nat.not_lt_zero _))⟩
          case round =>
            obtain ⟨k, hk, rfl, rfl, hall⟩ := hrel
            by_cases hlt : k < 2 * M
            · obtain ⟨p, q, rfl, hc⟩ := HAk.out k hlt
              have hX : Hid (∀ v l, cs.getD k 0 = v → lastC cs k = l → l ≤ v ∧ v ≤ s.size → (0 < k → k % 2 = 0 → cs.getD (k - 2) 0 ≠ v) → ∀ i, i < k + 1 → CutOk s.size cs i) := hide (by
                rintro v l rfl rfl ⟨h1, h2⟩ h3 i hi
                by_cases e : i = k
                · subst e
                  refine ⟨⟨?_, ?_⟩, h2, fun q1 q2 e => h3 q1 q2 e.symm⟩
                  · cases i with
                    | zero => exact h1
                    | succ i => have := (hall.out i (by omega)).1.1; exact Int.le_trans this h1
                  · cases i with
                    | zero => intro h; omega
                    | succ i => intro _; exact h1
                · exact hall.out i (by omega))
              have hL : lastC cs (k + 1) = cs.getD k 0 := rfl
              have hY := HAk.out
              obtain ⟨v, hv⟩ : ∃ v, cs.getD k 0 = v := ⟨_, rfl⟩
              obtain ⟨l, hl⟩ : ∃ l, lastC cs k = l := ⟨_, rfl⟩
              have HX := hide (hX.out v l hv hl)
              rw [hv] at hc hL
              rw [hl]
              have HL := hide hL
              clear hX hl hL hall
              by_cases d1 : v < l
              · have t1 : decide (v < l) = true := by simpa using d1
                clear hY hv HX d1
                go_wp2
                go_ret
                exact SaysB.no HBl.out
              · have t1 : decide (v < l) = false := by simp; omega
                by_cases d2 : (s.size : Int) < v
                · have t2 : decide ((s.size : Int) < v) = true := by simpa using d2
                  clear hY hv HX d1 d2
                  go_wp2
                  go_ret
                  exact SaysB.no HBl.out
                · have t2 : decide ((s.size : Int) < v) = false := by simp; omega
                  have d3 : l ≤ v ∧ v ≤ s.size := by omega
                  have HD := hide d3
                  by_cases k0 : k = 0
                  · subst k0
                    have HR := hide (HX.out HD.out (fun h => by omega))
                    rw [Nat.add_zero] at hc
                    clear hY hv HX d1 d2 d3
                    go_wp2
                    go_round
                    case rel => exact ⟨1, by omega, by go_num, by rw [← HL.out], HR⟩
                    case measure => simp [intOf]; omega
                  · have k1 : (0 : Int) < (k : Int) := by omega
                    by_cases ke : k % 2 = 0
                    · obtain ⟨m, rfl⟩ : ∃ m, k = m + 2 := ⟨k - 2, by omega⟩
                      obtain ⟨p', q', e, hc2⟩ := hY m (by omega)
                      injection e with e
                      injection e with e1 e2
                      subst e1; subst e2
                      have t5 : Int.tmod ((m : Int) + 2) 2 = 0 := by rw [Int.tmod_eq_emod_of_nonneg (by omega)]; omega
                      by_cases d4 : cs.getD m 0 = v
                      · have t6 : (v == v) = true := by simp
                        rw [d4] at hc2
                        clear hY hv HX d1 d2 d3 d4 ke
                        go_wp2
                        go_ret
                        exact SaysB.no HBl.out
                      · have HR := hide (HX.out HD.out (fun _ _ h => d4 h))
                        obtain ⟨v2, hv2⟩ : ∃ v2, cs.getD m 0 = v2 := ⟨_, rfl⟩
                        rw [hv2] at hc2 d4
                        have t6 : (v == v2) = false := by simp; omega
                        clear hY hv HX d1 d2 d3 d4 ke hv2
                        go_wp2
                        go_round
                        case rel => exact ⟨m + 3, by omega, by go_num, by rw [← HL.out], HR⟩
                        case measure => simp [intOf]; omega
                    · have t5 : Int.tmod (k : Int) 2 = 1 := by rw [Int.tmod_eq_emod_of_nonneg (by omega)]; omega
                      have HR := hide (HX.out HD.out (fun _ h => absurd h ke))
                      clear hY hv HX d1 d2 d3 ke
                      go_wp2
                      all_goals first
                        | exact ⟨⟨k + 1, by omega, by go_num, by rw [← HL.out], HR⟩, by simp [intOf]; omega⟩
                        | (go_round <;> first | exact ⟨k + 1, by omega, by go_num, by rw [← HL.out], HR⟩ | (simp [intOf]; omega))
            · have : k = 2 * M := by omega
              subst this
              have HF := hide (HCut.out trivial hall.out)
              clear hall HCut
              go_wp2
              go_ret
              exact SaysB.yes HF.out HBl.out
  · have t1 : ¬ ((N : Int) = 2 * (M : Int)) := by omega
    clear c1 hN hM
    go_enter Tryz.func35, Tryz.ntmps35
    go_wp2
    go_ret
    exact SaysB.no (by go_grown)
end Go.Proofs.YtgegialfhkgggaaGreatDoor
namespace Go.Proofs.YtgegialfhkgggaaGreatDoor
open Go.RowKit
attribute [local go_sem ↓] Go.wp_at_zero Go.wp_at_succ

def peAgg (e : Pe) : Value := .agg #[.int .i64 e.l, .int .i64 e.c, .int .i64 e.o, .int .i64 e.l2, .int .i64 e.c2, .int .i64 e.o2, .string e.t]
/-- It leaves plain edits. -/
def PeRes (w : World) (n : Nat) (g : Nat → Pe) (e : Ending) (w' : World) : Prop := ∃ A c, e = .returned (.slice A n c) ∧ RowsAt w' A 7 ((List.range n).map fun i => peCells (g i)) ∧ Below w.heap.size w w'
/-- The list behind j rounds. -/
def PeRel (w wr : World) (g : Nat → Pe) (j : Nat) (ev : Value) : Prop := ∃ A c, ev = .slice A j c ∧ wr.ownsRow w.heap.size 80 7 (.slice A j c) j ((List.range j).map fun i => peCells (g i)).flatten ∧ Below w.heap.size w wr
theorem PeRel.start {w wr : World} {g : Nat → Pe} (h : wr = w.alloc (.cells #[] 80)) : PeRel w wr g 0 (.slice (some ⟨w.heap.size, 0, none⟩) 0 0) := by
  subst h
  exact ⟨some ⟨w.heap.size, 0, none⟩, 0, rfl, ⟨rfl, Or.inr ⟨w.heap.size, 0, #[], rfl, Nat.le_refl _, Blk.new _ _ _, Nat.le_refl _, by unfold maxLen; omega, rfl, rfl⟩⟩, by go_grown⟩
theorem PeRel.step {w wr w1 : World} {g : Nat → Pe} {j c g2 cap2 : Nat} {A : Option Addr} {o : Obj} {x : Pe} (hx : g j = x) (hown : wr.ownsRow w.heap.size 80 7 (.slice A j c) j ((List.range j).map fun i => peCells (g i)).flatten)
    (hbl : Below w.heap.size w wr) (h1 : w1.ownsRow w.heap.size 80 7 (.slice (some ⟨g2, 0, none⟩) (j + 1) cap2) (j + 1) (((List.range j).map fun i => peCells (g i)).flatten ++ peCells x)) (hg : (wr.alloc o).grownBy w1 (Value.slice A j c).ownBlock) :
    PeRel w w1 g (j + 1) (.slice (some ⟨g2, 0, none⟩) (j + 1) cap2) := by
  subst hx
  have hB := below_grown_alloc hbl hbl.size hg (fun k hk => own_ge hown k hk)
  refine ⟨_, _, rfl, ?_, hB⟩
  have e : ((List.range (j + 1)).map fun i => peCells (g i)).flatten = ((List.range j).map fun i => peCells (g i)).flatten ++ peCells (g j) := by
    rw [List.range_succ, List.map_append, List.flatten_append]; simp
  rw [e]
  exact h1
theorem PeRel.done {w wr : World} {g : Nat → Pe} {n : Nat} {ev : Value} (h : PeRel w wr g n ev) : PeRes w n g (.returned ev) wr := by
  obtain ⟨A, c, rfl, hown, hbl⟩ := h
  have he : ((List.range n).map fun i => peCells (g i)).length = n := by rw [List.length_map, List.length_range]
  refine ⟨A, c, rfl, ?_, hbl⟩
  refine own_rows (base := w.heap.size) (c := c) (t := 80) (by rw [he]; exact hown) (fun r hr => ?_)
  obtain ⟨x, _, rfl⟩ := List.mem_map.1 hr; rfl

/-- Which one comes at place i of a list that is turned. -/
def turnIx (n B : Nat) (ar : Bool) (i : Nat) : Nat := if ar then n - 1 - (i + B % n + n) % n else (i + B % n + n) % n
theorem turnIx_lt {n B i : Nat} {ar : Bool} (h : 0 < n) : turnIx n B ar i < n := by
  unfold turnIx
  have := Nat.mod_lt (i + B % n + n) h
  split <;> omega
end Go.Proofs.YtgegialfhkgggaaGreatDoor
namespace Go.Proofs.YtgegialfhkgggaaGreatDoor
open Go.RowKit
attribute [local go_sem ↓] Go.wp_at_zero Go.wp_at_succ

/-- Cuts as they lie: 2 n offsets and n texts. -/
def NatsAt (w : World) (A : Option Addr) (m : Nat) (N : Nat → Nat) : Prop := ∀ i, i < m → ∃ b o, A = some ⟨b, o, none⟩ ∧ w.cell? ⟨b, o + i, none⟩ = some (.int .i64 (N i : Nat))
def TextsAt (w : World) (A : Option Addr) (n : Nat) (T : Nat → ByteArray) : Prop := ∀ i, i < n → ∃ b o, A = some ⟨b, o, none⟩ ∧ w.cell? ⟨b, o + i, none⟩ = some (.string (T i))
theorem NatsAt.kept {w w1 : World} {A : Option Addr} {m : Nat} {N : Nat → Nat} (h : NatsAt w A m N) (hb : Below w.heap.size w w1) : NatsAt w1 A m N := by
  intro i hi
  obtain ⟨b, o, e, hc⟩ := h i hi
  exact ⟨b, o, e, kcell hb hc⟩
theorem TextsAt.kept {w w1 : World} {A : Option Addr} {m : Nat} {T : Nat → ByteArray} (h : TextsAt w A m T) (hb : Below w.heap.size w w1) : TextsAt w1 A m T := by
  intro i hi
  obtain ⟨b, o, e, hc⟩ := h i hi
  exact ⟨b, o, e, kcell hb hc⟩
/-- Where the edit before ends. -/
def lastN (N : Nat → Nat) : Nat → Nat
  | 0 => 0
  | i + 1 => N (2 * i + 1)
/-- The text behind i edits. -/
def aftB (s : ByteArray) (N : Nat → Nat) (T : Nat → ByteArray) : Nat → ByteArray
  | 0 => ⟨#[]⟩
  | i + 1 => aftB s N T i ++ (s.extract (lastN N i) (N (2 * i)) ++ T i)
def aftR (w : World) (x : ByteArray) (e : Ending) (w' : World) : Prop := e = .returned (.string x) ∧ w = w'
set_option maxHeartbeats 4000000 in
set_option maxRecDepth 100000 in
theorem after_any (s : ByteArray) (n : Nat) (N : Nat → Nat) (T : Nat → ByteArray) (A B : Option Addr) (ca cb : Nat) (hs : s.size ≤ 2147483647) (hn : n ≤ 1000000) (hN : ∀ i, i < n → lastN N i ≤ N (2 * i) ∧ N (2 * i) ≤ N (2 * i + 1) ∧ N (2 * i + 1) ≤ s.size)
    (hz : ∀ i, i ≤ n → (aftB s N T i).size ≤ 1000000000) (hT : ∀ i, i < n → (T i).size ≤ 1000000000) (w : World) (hA : NatsAt w A (2 * n) N) (hB : TextsAt w B n T) :
    Calls Tryz.prog 18 #[.string s, .slice A (2 * n) ca, .slice B n cb] w (aftR w (aftB s N T n ++ s.extract (lastN N n) s.size)) := by
  have HA := hide hA
  have HB := hide hB
  have HN := hide hN
  have HZ := hide hz
  have HT := hide hT
  have hlast : ∀ i, i ≤ n → lastN N i ≤ s.size := fun i hi => by
    cases i with
    | zero => exact Nat.zero_le _
    | succ i => exact (hN i (by omega)).2.2
  have HL := hide hlast
  clear hA hB hN hz hT hlast
  go_enter Tryz.func18, Tryz.ntmps18
  go_wp2
  go_loop [7, 8, 13] (fun ov lv jv => ∃ j : Nat, j ≤ n ∧ jv = .int .i64 j ∧ ov = .string (aftB s N T j) ∧ lv = .int .i64 (lastN N j : Nat)) (fun _ _ jv => n - (intOf jv).toNat)
  case atStart => exact ⟨0, Nat.zero_le _, rfl, rfl, rfl⟩
  case round =>
    obtain ⟨j, hj, rfl, rfl, rfl⟩ := hrel
    by_cases hlt : j < n
    · obtain ⟨b, o, rfl, c1⟩ := HA.out (2 * j) (by omega)
      obtain ⟨b', o', e, c2⟩ := HA.out (2 * j + 1) (by omega)
      injection e with e
      injection e with e1 e2
      subst e1; subst e2
      obtain ⟨p, q, rfl, c3⟩ := HB.out j hlt
      obtain ⟨h1, h2, h3⟩ := HN.out j hlt
      have hR : aftB s N T (j + 1) = aftB s N T j ++ (s.extract (lastN N j) (N (2 * j)) ++ T j) := rfl
      have hR2 : lastN N (j + 1) = N (2 * j + 1) := rfl
      have z1 := HZ.out j hj
      have z2 := HZ.out (j + 1) (by omega)
      have z3 := HT.out j hlt
      rw [hR] at z2
      obtain ⟨x, hx⟩ : ∃ x, aftB s N T j = x := ⟨_, rfl⟩
      obtain ⟨t, ht⟩ : ∃ t, T j = t := ⟨_, rfl⟩
      obtain ⟨L, hL⟩ : ∃ L, lastN N j = L := ⟨_, rfl⟩
      obtain ⟨a1, ha1⟩ : ∃ a1, N (2 * j) = a1 := ⟨_, rfl⟩
      obtain ⟨a2, ha2⟩ : ∃ a2, N (2 * j + 1) = a2 := ⟨_, rfl⟩
      rw [hx, ht, hL, ha1] at hR
      rw [hx, hL, ha1, ht] at z2
      rw [hx] at z1
      rw [ht] at c3 z3
      rw [ha1] at c1 h1 h2
      rw [ha2] at c2 h2 h3 hR2
      rw [hL] at h1
      rw [hx, hL]
      have HR := hide hR
      have HR2 := hide hR2
      clear hx ht hL ha1 ha2 hR hR2
      obtain ⟨m, hm⟩ : ∃ m, m = 2 * j := ⟨_, rfl⟩
      rw [← hm] at c1 c2
      have e0 : IntKind.i64.wrap (2 * (j : Int)) = (m : Int) := by rw [IntWalk.i64_in _ (by omega)]; omega
      have e1 : (m : Int) < 2 * (n : Int) := by omega
      have e2 : (m : Int) + 1 < 2 * (n : Int) := by omega
      have e3 : IntKind.i64.wrap ((m : Int) + 1) = ((m + 1 : Nat) : Int) := by rw [IntWalk.i64_in _ (by omega)]; omega
      clear hm
      go_wp2
      go_round
      case rel => exact ⟨j + 1, by omega, by go_num, by rw [HR.out], by rw [HR2.out]⟩
      case measure => simp [intOf]; omega
    · have : j = n := by omega
      subst this
      have hl := HL.out j (by omega)
      have z1 := HZ.out j (by omega)
      obtain ⟨x, hx⟩ : ∃ x, aftB s N T j = x := ⟨_, rfl⟩
      obtain ⟨L, hL⟩ : ∃ L, lastN N j = L := ⟨_, rfl⟩
      rw [hx] at z1
      rw [hL] at hl
      rw [hx, hL]
      have hF : Hid (∀ (W : World), aftR W (aftB s N T j ++ s.extract (lastN N j) s.size) (.returned (.string (x ++ s.extract L s.size))) W) := hide (fun W => ⟨by rw [hx, hL], rfl⟩)
      clear hx hL
      go_wp2
      go_ret
      exact hF.out _
end Go.Proofs.YtgegialfhkgggaaGreatDoor
namespace Go.Proofs.YtgegialfhkgggaaGreatDoor
open Go.RowKit
attribute [local go_sem ↓] Go.wp_at_zero Go.wp_at_succ

/-- An edit that is told by offsets. -/
def peOff (N : Nat → Nat) (T : Nat → ByteArray) (i : Nat) : Pe := ⟨0, 0, (N (2 * i) : Nat), 0, 0, (N (2 * i + 1) : Nat), T i⟩
set_option maxHeartbeats 4000000 in
set_option maxRecDepth 100000 in
theorem editsOff_any (s : ByteArray) (n : Nat) (N : Nat → Nat) (T : Nat → ByteArray) (A B : Option Addr) (ca cb : Nat) (hn : n ≤ 1000000) (w : World) (hA : NatsAt w A (2 * n) N) (hB : TextsAt w B n T) :
    Calls Tryz.prog 19 #[.string s, .slice A (2 * n) ca, .slice B n cb, .bool false] w (PeRes w n (peOff N T)) := by
  obtain ⟨i0, hi0, hz0, hz1, hzb⟩ := info_parts info_ed
  have HA := hide hA
  have HB := hide hB
  clear hA hB
  go_enter Tryz.func19, Tryz.ntmps19
  go_wp2
  go_loopw [9, 16] (fun ev jv wr => ∃ j : Nat, jv = .int .i64 j ∧ j ≤ n ∧ Hid (PeRel w wr (peOff N T) j ev)) (fun _ jv _ => n - (intOf jv).toNat)
  case atStart => exact ⟨0, rfl, Nat.zero_le _, hide (PeRel.start rfl)⟩
  case round =>
    obtain ⟨j, rfl, hj, hcr⟩ := hrel
    obtain ⟨A2, c2, rfl, hown, hbl⟩ := hcr.out
    by_cases hlt : j < n
    · have HA2 := HA.out.kept hbl
      obtain ⟨b, o, rfl, d1⟩ := HA2 (2 * j) (by omega)
      obtain ⟨b', o', e, d2⟩ := HA2 (2 * j + 1) (by omega)
      injection e with e
      injection e with e1 e2
      subst e1; subst e2
      obtain ⟨p, q, rfl, d3⟩ := HB.out.kept hbl j hlt
      have hS : ∀ (x : Pe), peOff N T j = x → ∀ (w1 : World) (g2 cap2 : Nat) (W : World) (o : Obj), Below wr.heap.size wr W → _ → (W.alloc o).grownBy w1 (Value.slice A2 j c2).ownBlock → PeRel w w1 (peOff N T) (j + 1) (.slice (some ⟨g2, 0, none⟩) (j + 1) cap2) := fun x hx w1 g2 cap2 W o hW h1 h2 => PeRel.step (wr := W) (w1 := w1) (g2 := g2) (cap2 := cap2) (o := o) (x := x) hx (own_kept hown hW) (hbl.trans (hW.mono hbl.size)) h1 h2
      have hx : peOff N T j = ⟨0, 0, (N (2 * j) : Nat), 0, 0, (N (2 * j + 1) : Nat), T j⟩ := rfl
      obtain ⟨m, hm⟩ : ∃ m, m = 2 * j := ⟨_, rfl⟩
      rw [← hm] at d1 d2 hx
      obtain ⟨a1, ha1⟩ : ∃ a1, N m = a1 := ⟨_, rfl⟩
      obtain ⟨a2, ha2⟩ : ∃ a2, N (m + 1) = a2 := ⟨_, rfl⟩
      obtain ⟨t, ht⟩ : ∃ t, T j = t := ⟨_, rfl⟩
      rw [ha1] at d1 hx
      rw [ha2] at d2 hx
      rw [ht] at d3 hx
      have HS := hide (hS _ hx)
      have HOwn := hide hown
      obtain ⟨Y, hY⟩ : ∃ Y, ((List.range j).map fun i => peCells (peOff N T i)).flatten = Y := ⟨_, rfl⟩
      rw [hY] at HS HOwn
      have e0 : IntKind.i64.wrap (2 * (j : Int)) = (m : Int) := by rw [IntWalk.i64_in _ (by omega)]; omega
      have e1 : (m : Int) < 2 * (n : Int) := by omega
      have e2 : (m : Int) + 1 < 2 * (n : Int) := by omega
      have e3 : IntKind.i64.wrap ((m : Int) + 1) = ((m + 1 : Nat) : Int) := by rw [IntWalk.i64_in _ (by omega)]; omega
      have hblz := hbl.size
      have e4 : (0 : Int) ≤ (m : Int) + 1 := by omega
      have l1 := lt_of_cell d1
      dsimp only at l1
      have n1 : ¬ b = wr.heap.size := by omega
      have n2 : ¬ wr.heap.size = b := by omega
      clear hS hx hY hm ha1 ha2 ht hown hcr HA2
      go_upto_region 5 with fail
      go_region
      have hW1 : ∀ cs, Below wr.heap.size wr (wr.alloc (.cells cs 80)).drew := fun cs => by go_grown
      go_wp2_with (first
          | (at_builtin; refine wpList_append_lies _ rfl _ _ 24 rfl w.heap.size 80 i0 _ 7 64 Tryz.underlying24 hi0 hz0 hz1 hzb rfl (by omega) (.slice A2 j c2) j Y (by rfl) ((own_kept HOwn.out (hW1 _)).alloc _) ⟨wr.heap.size + 1, 0, none⟩ 1 1 (peCells ⟨0, 0, (a1 : Nat), 0, 0, (a2 : Nat), t⟩) (by rfl) (by rfl) (World.news_of_block (cs := #[.int .i64 0, .int .i64 0, .int .i64 (a1 : Nat), .int .i64 0, .int .i64 0, .int .i64 (a2 : Nat), .string t]) (t := 80) (fr := (0, 0)) (Blk.newAt (by simp))) (by simp [peCells, Value.oneCell']) (by omega) (by unfold maxLen; omega) (by omega) (by simp; omega) (wr.heap.size + 2) (by simp) ?_; intro g2 cap2 w1 hown1 hgrow hat hlt2))
      go_roundw
      case rel => exact ⟨j + 1, by go_num, by omega, hide (HS.out _ _ _ _ _ (hW1 _) hown1 hgrow)⟩
      case measure => simp [intOf]; omega
    · have : j = n := by omega
      subst this
      have hfin := hide (PeRel.done hcr.out)
      clear hlt hown hcr
      go_wp2
      go_ret
      exact hfin.out
end Go.Proofs.YtgegialfhkgggaaGreatDoor
namespace Go.Proofs.YtgegialfhkgggaaGreatDoor
open Go.RowKit
attribute [local go_sem ↓] Go.wp_at_zero Go.wp_at_succ

/-- An edit that is told by lines and columns. -/
def pePl (s : ByteArray) (N : Nat → Nat) (T : Nat → ByteArray) (i : Nat) : Pe := ⟨(nlTo s (N (2 * i)) : Int) + 1, (N (2 * i) : Int) - lastNl s (N (2 * i)), -1, (nlTo s (N (2 * i + 1)) : Int) + 1, (N (2 * i + 1) : Int) - lastNl s (N (2 * i + 1)), -1, T i⟩
set_option maxHeartbeats 4000000 in
set_option maxRecDepth 100000 in
theorem editsPl_any (s : ByteArray) (n : Nat) (N : Nat → Nat) (T : Nat → ByteArray) (A B : Option Addr) (ca cb : Nat) (hn : n ≤ 1000000) (hs : s.size ≤ 2147483647) (hN : ∀ i, i < 2 * n → N i ≤ s.size) (w : World) (hA : NatsAt w A (2 * n) N) (hB : TextsAt w B n T) :
    Calls Tryz.prog 19 #[.string s, .slice A (2 * n) ca, .slice B n cb,   .bool true] w (PeRes w n (pePl s N T)) := by
  obtain ⟨i0, hi0, hz0, hz1, hzb⟩ := info_parts info_ed
  have HA := hide hA
  have HB := hide hB
  have HN := hide hN
  clear hA hB hN
  go_enter Tryz.func19, Tryz.ntmps19
  go_wp2
  go_loopw [9, 16] (fun ev jv wr => ∃ j : Nat, jv = .int .i64 j ∧ j ≤ n ∧ Hid (PeRel w wr (pePl s N T) j ev)) (fun _ jv _ => n - (intOf jv).toNat)
  case atStart => exact ⟨0, rfl, Nat.zero_le _, hide (PeRel.start rfl)⟩
  case round =>
    obtain ⟨j, rfl, hj, hcr⟩ := hrel
    obtain ⟨A2, c2, rfl, hown, hbl⟩ := hcr.out
    by_cases hlt : j < n
    · have HA2 := HA.out.kept hbl
      obtain ⟨b, o, rfl, d1⟩ := HA2 (2 * j) (by omega)
      obtain ⟨b', o', e, d2⟩ := HA2 (2 * j + 1) (by omega)
      injection e with e
      injection e with e1 e2
      subst e1; subst e2
      obtain ⟨p, q, rfl, d3⟩ := HB.out.kept hbl j hlt
      have hS : ∀ (x : Pe), pePl s N T j = x → ∀ (w1 : World) (g2 cap2 : Nat) (W : World) (o : Obj), Below wr.heap.size wr W → _ → (W.alloc o).grownBy w1 (Value.slice A2 j c2).ownBlock → PeRel w w1 (pePl s N T) (j + 1) (.slice (some ⟨g2, 0, none⟩) (j + 1) cap2) := fun x hx w1 g2 cap2 W o hW h1 h2 => PeRel.step (wr := W) (w1 := w1) (g2 := g2) (cap2 := cap2) (o := o) (x := x) hx (own_kept hown hW) (hbl.trans (hW.mono hbl.size)) h1 h2
      have hx : pePl s N T j = ⟨(nlTo s (N (2 * j)) : Int) + 1, (N (2 * j) : Int) - lastNl s (N (2 * j)), -1, (nlTo s (N (2 * j + 1)) : Int) + 1, (N (2 * j + 1) : Int) - lastNl s (N (2 * j + 1)), -1, T j⟩ := rfl
      have hp1 := HN.out (2 * j) (by omega)
      have hp2 := HN.out (2 * j + 1) (by omega)
      obtain ⟨m, hm⟩ : ∃ m, m = 2 * j := ⟨_, rfl⟩
      rw [← hm] at d1 d2 hx hp1 hp2
      obtain ⟨a1, ha1⟩ : ∃ a1, N m = a1 := ⟨_, rfl⟩
      obtain ⟨a2, ha2⟩ : ∃ a2, N (m + 1) = a2 := ⟨_, rfl⟩
      obtain ⟨t, ht⟩ : ∃ t, T j = t := ⟨_, rfl⟩
      rw [ha1] at d1 hx hp1
      rw [ha2] at d2 hx hp2
      rw [ht] at d3 hx
      have HP1 := hide (fun W => place_any s a1 hp1 hs W)
      have HP2 := hide (fun W => place_any s a2 hp2 hs W)
      generalize (nlTo s a1 : Int) + 1 = L1 at *
      generalize (a1 : Int) - lastNl s a1 = C1 at *
      generalize (nlTo s a2 : Int) + 1 = L2 at *
      generalize (a2 : Int) - lastNl s a2 = C2 at *
      have HS := hide (hS _ hx)
      have HOwn := hide hown
      obtain ⟨Y, hY⟩ : ∃ Y, ((List.range j).map fun i => peCells (pePl s N T i)).flatten = Y := ⟨_, rfl⟩
      rw [hY] at HS HOwn
      have e0 : IntKind.i64.wrap (2 * (j : Int)) = (m : Int) := by rw [IntWalk.i64_in _ (by omega)]; omega
      have e1 : (m : Int) < 2 * (n : Int) := by omega
      have e2 : (m : Int) + 1 < 2 * (n : Int) := by omega
      have e3 : IntKind.i64.wrap ((m : Int) + 1) = ((m + 1 : Nat) : Int) := by rw [IntWalk.i64_in _ (by omega)]; omega
      have hblz := hbl.size
      have e4 : (0 : Int) ≤ (m : Int) + 1 := by omega
      have l1 := lt_of_cell d1
      dsimp only at l1
      have n1 : ¬ b = wr.heap.size := by omega
      have n2 : ¬ wr.heap.size = b := by omega
      clear hS hx hY hm ha1 ha2 ht hown hcr HA2
      go_upto_region 5 with fail
      go_region
      go_upto_region 7 with fail
      refine wp_gen ?_
      intro W hW
      have hbW : Below wr.heap.size wr W := by rw [hW]; go_grown
      have k7 : Blk W wr.heap.size 80 #[.int .i64 0, .int .i64 0, .int .i64 (a1 : Nat), .int .i64 0, .int .i64 0, .int .i64 (a2 : Nat), .string t] := by rw [hW]; exact Blk.drew (Blk.new _ _ _)
      have g1 := kcell (hbW) d1
      have D2 := hide d2
      have lt7 := k7.lt
      have K7 := hide k7
      clear hW k7 d1 d2 d3
      go_upto_region 8 with (first
        | (go_at_call 36; refine (HP1.out _).mono ?_; rintro e w1 ⟨rfl, hb1⟩; have f7 := (K7.out.kept hb1).seven))
      refine wp_gen ?_
      intro W2 hW2
      have hbx : Below wr.heap.size wr w1 := hbW.trans (hb1.mono hbW.size)
      have hbW2 : Below wr.heap.size wr W2 := by rw [hW2]; exact (((hbx.setCell (Nat.le_refl _) _).setCell (Nat.le_refl _) _).setCell (Nat.le_refl _) _)
      have k7 : Blk W2 wr.heap.size 80 #[.int .i64 L1, .int .i64 C1, .int .i64 (a1 : Nat), .int .i64 0, .int .i64 0, .int .i64 (a2 : Nat), .string t] := by rw [hW2]; exact (((K7.out.kept hb1).set_ 0 _).set_ 1 _).set_ 2 _
      have g2 := kcell hbW2 D2.out
      have K72 := hide k7
      clear hW2 k7 K7 hb1 g1 hbx HP1
      go_upto_region 11 with (first
        | (go_at_call 36; refine (HP2.out _).mono ?_; rintro e w1 ⟨rfl, hb1⟩; have f7 := (K72.out.kept hb1).seven))
      refine wp_gen ?_
      intro W3 hW3
      have hbx : Below wr.heap.size wr w1 := hbW2.trans (hb1.mono hbW2.size)
      have hbW3 : Below wr.heap.size wr W3 := by rw [hW3]; exact (((((hbx.setCell (Nat.le_refl _) _).setCell (Nat.le_refl _) _).setCell (Nat.le_refl _) _).setCell (Nat.le_refl _) _).setCell (Nat.le_refl _) _)
      have k7 : Blk W3 wr.heap.size 80 #[.int .i64 L1, .int .i64 C1, .int .i64 (-1), .int .i64 L2, .int .i64 C2, .int .i64 (-1), .string t] := by
        rw [hW3]
        have h0 : Blk _ wr.heap.size 80 #[.int .i64 L1, .int .i64 C1, .int .i64 (a1 : Nat), .int .i64 L2, .int .i64 C2, .int .i64 (a2 : Nat), .string t] := (((K72.out.kept hb1).set_ 3 (.int .i64 L2)).set_ 4 (.int .i64 C2)).set_ 5 (.int .i64 (a2 : Nat))
        have h1 : Blk _ wr.heap.size 80 #[.int .i64 L1, .int .i64 C1, .int .i64 (-1), .int .i64 L2, .int .i64 C2, .int .i64 (a2 : Nat), .string t] := h0.set_ 2 (.int .i64 (-1))
        exact h1.set_ 5 (.int .i64 (-1))
      have f7 := k7.seven
      have hz3 := hbW3.size
      clear hW3 K72 hb1 hbx HP2 k7 g2
      go_wp2_with (first
          | (at_builtin; refine wpList_append_lies _ rfl _ _ 24 rfl w.heap.size 80 i0 _ 7 64 Tryz.underlying24 hi0 hz0 hz1 hzb rfl (by omega) (.slice A2 j c2) j Y (by rfl) ((own_kept HOwn.out hbW3).alloc _) ⟨W3.heap.size, 0, none⟩ 1 1 (peCells ⟨L1, C1, -1, L2, C2, -1, t⟩) (by rfl) (by rfl) (World.news_of_block (cs := #[.int .i64 L1, .int .i64 C1, .int .i64 (-1), .int .i64 L2, .int .i64 C2, .int .i64 (-1), .string t]) (t := 80) (fr := (0, 0)) (Blk.newAt (by simp))) (by simp [peCells, Value.oneCell']) (by omega) (by unfold maxLen; omega) (by omega) (by simp; omega) (W3.heap.size + 1) (by simp) ?_; intro g2 cap2 w1 hown1 hgrow hat hlt2))
      go_roundw
      case rel => exact ⟨j + 1, by go_num, by omega, hide (HS.out _ _ _ _ _ hbW3 hown1 hgrow)⟩
      case measure => simp [intOf]; omega
    · have : j = n := by omega
      subst this
      have hfin := hide (PeRel.done hcr.out)
      clear hlt hown hcr
      go_wp2
      go_ret
      exact hfin.out
end Go.Proofs.YtgegialfhkgggaaGreatDoor
namespace Go.Proofs.YtgegialfhkgggaaGreatDoor
open Go.RowKit Stab Go.Proofs.YtgegialfhkgggaaGreatDoor.Lines Mye

theorem turnIx_inj {n B : Nat} {ar : Bool} {i j : Nat} (hi : i < n) (hj : j < n) (h : turnIx n B ar i = turnIx n B ar j) : i = j := by
  have hq : B % n < n := Nat.mod_lt _ (by omega)
  have key : ∀ x, x < n → (x + B % n + n) % n = if x + B % n < n then x + B % n else x + B % n - n := by
    intro x hx
    rw [Nat.add_mod_right]
    by_cases c : x + B % n < n
    · rw [if_pos c, Nat.mod_eq_of_lt c]
    · rw [if_neg c, Nat.mod_eq_sub_mod (by omega), Nat.mod_eq_of_lt (by omega)]
  unfold turnIx at h
  rw [key i hi, key j hj] at h
  generalize B % n = q at *
  cases ar
  · simp only [Bool.false_eq_true, if_false] at h
    split at h <;> split at h <;> omega
  · simp only [if_true] at h
    split at h <;> split at h <;> omega

/-- A list that was in strict order before it was turned: sorted, each one is back at its place. -/
theorem sorted_back {n : Nat} {h : Nat → Ed} {p t : Nat → Nat} (hW : Weak n (ltE h)) (hp : Into p n) (hinj : ∀ i j, i < n → j < n → p i = p j → i = j) (hasc : ∀ i j, i < j → j < n → ltE h i j = true) (hS : Sorted (ltE fun i => h (p i)) t n) :
    ∀ i, i < n → p (t i) = i := by
  refine asc_id (t := fun i => p (t i)) (fun i hi => hp _ (hS.into i hi)) (fun i j hij hj => ?_)
  have ti := hS.into i (by omega)
  have tj := hS.into j hj
  have pi := hp _ ti
  have pj := hp _ tj
  rcases hS.srt i j (Nat.zero_le _) hij hj with h1 | ⟨h1, h2⟩
  · have h1 : ltE h (p (t i)) (p (t j)) = true := h1
    rcases Nat.lt_trichotomy (p (t i)) (p (t j)) with c | c | c
    · exact c
    · rw [c] at h1; have := hW.asym _ _ pj pj h1; rw [h1] at this; cases this
    · have := hasc _ _ c pi; have h3 := hW.asym _ _ pi pj h1; rw [this] at h3; cases h3
  · have h1 : ltE h (p (t j)) (p (t i)) = false := h1
    rcases Nat.lt_trichotomy (p (t i)) (p (t j)) with c | c | c
    · exact c
    · have := hinj _ _ ti tj c; omega
    · have := hasc _ _ c pi; rw [this] at h1; cases h1

section
variable (s : ByteArray) (N : Nat → Nat) (T : Nat → ByteArray)
/-- The edit with its lines, columns and offsets, as the converter gives them for offsets, and for places. -/
def hOff (i : Nat) : Ed := ⟨⟨#[97]⟩, posLine s.size (stTo s s.size) (N (2 * i)), posCol s.size (stTo s s.size) (N (2 * i)), (N (2 * i) : Nat), posLine s.size (stTo s s.size) (N (2 * i + 1)), posCol s.size (stTo s s.size) (N (2 * i + 1)), (N (2 * i + 1) : Nat), T i⟩
def hPl (i : Nat) : Ed := ⟨⟨#[97]⟩, (nlTo s (N (2 * i)) : Int) + 1, (N (2 * i) : Int) - lastNl s (N (2 * i)), (N (2 * i) : Nat), (nlTo s (N (2 * i + 1)) : Int) + 1, (N (2 * i + 1) : Int) - lastNl s (N (2 * i + 1)), (N (2 * i + 1) : Nat), T i⟩
end

theorem nlTo_mono (s : ByteArray) (i : Nat) : ∀ j, i ≤ j → j ≤ s.size → nlTo s i ≤ nlTo s j := by
  intro m
  induction m with
  | zero => intro h _; have : i = 0 := by omega
            rw [this]; exact Nat.le_refl _
  | succ q ih =>
    intro h hq
    by_cases e : i = q + 1
    · rw [e]; exact Nat.le_refl _
    · have := ih (by omega) (by omega)
      rw [nlTo_succ s q (by omega)]
      omega
/-- On one line the beginning of the line is the same. -/
theorem one_line (s : ByteArray) (i : Nat) : ∀ j, i ≤ j → j ≤ s.size → nlTo s i = nlTo s j → lastNl s i = lastNl s j := by
  intro j
  induction j with
  | zero => intro h _ _; have : i = 0 := by omega
            rw [this]
  | succ k ih =>
    intro h hk hn
    by_cases he : i = k + 1
    · rw [he]
    · have hm := nlTo_mono s i k (by omega) (by omega)
      rw [nlTo_succ s k (by omega)] at hn
      have hb : ¬ bt s k = 10 := by intro hb; rw [if_pos hb] at hn; omega
      rw [if_neg hb] at hn
      rw [lastNl, if_neg hb]
      exact ih (by omega) (by omega) (by omega)
theorem lineOf_all (L : List Int) (n : Int) (h : ∀ x ∈ L, x ≤ n) : lineOf L n L.length = L.length := by
  cases hL : L.length with
  | zero => rfl
  | succ m =>
    rw [lineOf, if_pos]
    have hm : m < L.length := by omega
    rw [List.getD_eq_getElem?_getD, List.getElem?_eq_getElem hm]
    exact h _ (List.getElem_mem hm)
theorem nlTo_lt (s : ByteArray) (k : Nat) (hlt : k < s.size) : nlTo s k < (stTo s s.size).length := by
  obtain ⟨r, hr, _⟩ := stTo_prefix s (k + 1) s.size hlt
  have := stTo_length s k hlt
  rw [hr, List.length_append]; omega
/-- The line and the column of the end. -/
theorem pos_end (s : ByteArray) : posLine s.size (stTo s s.size) s.size = ((stTo s s.size).length : Int) + 1 ∧ posCol s.size (stTo s s.size) s.size = 1 := by
  unfold posLine posCol
  rw [if_pos rfl, if_pos rfl, lineOf_all _ _ (fun x hx => by have := stTo_bound s s.size x hx; omega)]
  exact ⟨rfl, rfl⟩
theorem pos_line1 (s : ByteArray) (k : Nat) (h : k ≤ s.size) : 1 ≤ posLine s.size (stTo s s.size) k := by
  by_cases c : k < s.size
  · rw [(pos_at s k c).1]; omega
  · have : k = s.size := by omega
    rw [this, (pos_end s).1]; omega
/-- Places are in the order of their offsets. -/
theorem pos_lt (s : ByteArray) (i j : Nat) (hij : i < j) (hj : j ≤ s.size) : posLine s.size (stTo s s.size) i < posLine s.size (stTo s s.size) j ∨ (posLine s.size (stTo s s.size) i = posLine s.size (stTo s s.size) j ∧ posCol s.size (stTo s s.size) i < posCol s.size (stTo s s.size) j) := by
  obtain ⟨e1, e2⟩ := pos_at s i (by omega)
  by_cases c : j < s.size
  · obtain ⟨e3, e4⟩ := pos_at s j c
    have hm := nlTo_mono s i j (by omega) hj
    rw [e1, e2, e3, e4]
    by_cases h : nlTo s i = nlTo s j
    · have := one_line s i j (by omega) hj h
      right; omega
    · left; omega
  · have : j = s.size := by omega
    subst this
    have := nlTo_lt s i hij
    rw [e1, (pos_end s).1]
    left; omega
theorem place_lt (s : ByteArray) (i j : Nat) (hij : i < j) (hj : j ≤ s.size) : nlTo s i < nlTo s j ∨ (nlTo s i = nlTo s j ∧ (i : Int) - lastNl s i < (j : Int) - lastNl s j) := by
  have hm := nlTo_mono s i j (by omega) hj
  by_cases h : nlTo s i = nlTo s j
  · have := one_line s i j (by omega) hj h
    right; omega
  · left; omega

/-- Offsets that are cuts: each start behind the one before. -/
structure CutsN (s : ByteArray) (n : Nat) (N : Nat → Nat) : Prop where
  in_ : ∀ i, i < n → lastN N i ≤ N (2 * i) ∧ N (2 * i) ≤ N (2 * i + 1) ∧ N (2 * i + 1) ≤ s.size
  ne : ∀ i, i + 1 < n → N (2 * i) ≠ N (2 * i + 2)
theorem CutsN.lt {s : ByteArray} {n : Nat} {N : Nat → Nat} (h : CutsN s n N) : ∀ j i, i < j → j < n → N (2 * i) < N (2 * j) := by
  intro j
  induction j with
  | zero => intro i h; omega
  | succ j ih =>
    intro i hij hj
    have h1 := (h.in_ j (by omega)).2.1
    have h2 := (h.in_ (j + 1) hj).1
    have h2 : N (2 * j + 1) ≤ N (2 * (j + 1)) := h2
    have h3 := h.ne j hj
    have e : 2 * (j + 1) = 2 * j + 2 := by omega
    rw [e] at h2 ⊢
    by_cases e : i = j
    · subst e; omega
    · have := ih i (by omega) (by omega); omega
theorem hOff_asc {s : ByteArray} {n : Nat} {N : Nat → Nat} (T : Nat → ByteArray) (h : CutsN s n N) : ∀ i j, i < j → j < n → ltE (hOff s N T) i j = true := by
  intro i j hij hj
  have h1 := h.lt j i hij hj
  have h2 := h.in_ j hj
  have h3 := pos_lt s (N (2 * i)) (N (2 * j)) h1 (by omega)
  have h4 := pos_line1 s (N (2 * i)) (by omega)
  unfold ltE cmpEd cmpS hOff
  simp only [cmpU_self, if_true, cmpP, sgn, decide_eq_true_eq]
  (repeat' split) <;> omega
theorem hPl_asc {s : ByteArray} {n : Nat} {N : Nat → Nat} (T : Nat → ByteArray) (h : CutsN s n N) : ∀ i j, i < j → j < n → ltE (hPl s N T) i j = true := by
  intro i j hij hj
  have h1 := h.lt j i hij hj
  have h2 := h.in_ j hj
  have h3 := place_lt s (N (2 * i)) (N (2 * j)) h1 (by omega)
  unfold ltE cmpEd cmpS hPl
  simp only [cmpU_self, if_true, cmpP, sgn, decide_eq_true_eq]
  (repeat' split) <;> omega

/-- The text behind edits in order is the text that the statement makes. -/
theorem appP_aft {s : ByteArray} {N : Nat → Nat} {T : Nat → ByteArray} {h : Nat → Ed} {n : Nat} (hc : CutsN s n N) (ho : ∀ i, i < n → toO (h i) = ⟨N (2 * i), N (2 * i + 1), (T i).data.toList⟩) : ∀ i, i ≤ n → appP s.data.toList h i = ((aftB s N T i).data.toList, lastN N i) := by
  intro i
  induction i with
  | zero => intro _; rfl
  | succ i ih =>
    intro hi
    have h1 := (hc.in_ i (by omega)).1
    rw [appP, ih (by omega), ho i (by omega)]
    unfold appS
    simp only
    have e : (aftB s N T (i + 1)).data.toList = (aftB s N T i).data.toList ++ ((s.data.toList.drop (lastN N i)).take (N (2 * i) - lastN N i) ++ (T i).data.toList) := by
      rw [aftB]
      simp only [ByteArray.data_append, Array.toList_append, extract_list]
    rw [e]
    by_cases c : lastN N i < N (2 * i)
    · rw [if_pos c, List.append_assoc]; rfl
    · rw [if_neg c, show N (2 * i) - lastN N i = 0 by omega]; simp; rfl
theorem appF_aft {s : ByteArray} {N : Nat → Nat} {T : Nat → ByteArray} {h : Nat → Ed} {n : Nat} (hc : CutsN s n N) (ho : ∀ i, i < n → toO (h i) = ⟨N (2 * i), N (2 * i + 1), (T i).data.toList⟩) : toB (appF s.data.toList h n) = aftB s N T n ++ s.extract (lastN N n) s.size := by
  refine eq_of_list ?_
  rw [toB_list]
  unfold appF
  rw [appP_aft hc ho n (Nat.le_refl _)]
  simp only [ByteArray.data_append, Array.toList_append, extract_list]
  by_cases c : lastN N n < s.data.toList.length
  · rw [if_pos c, List.take_of_length_le (by rw [List.length_drop, size_list]; omega)]
  · rw [if_neg c, List.drop_of_length_le (by omega)]; simp
end Go.Proofs.YtgegialfhkgggaaGreatDoor
namespace Go.Proofs.YtgegialfhkgggaaGreatDoor
open Go.RowKit Stab Go.Proofs.YtgegialfhkgggaaGreatDoor.Lines Mye
attribute [local go_sem ↓] Go.wp_at_zero Go.wp_at_succ

theorem atSt_off2 {n : Int} (h : 1 ≤ n) : atSt 0 0 n = false := by
  unfold atSt
  have h1 : decide ((0 : Int) ≤ n) = true := by simp; omega
  have h2 : (n == 0) = false := by simp; omega
  simp [h1, h2]
theorem toEd_off {N : Nat → Nat} {T : Nat → ByteArray} {i : Nat} (h : N (2 * i) ≤ N (2 * i + 1)) : toEd (peOff N T i) = ⟨⟨#[97]⟩, 0, 0, (N (2 * i) : Nat), 0, 0, (N (2 * i + 1) : Nat), T i⟩ := by
  have c0 : ∀ k : Nat, co 0 0 (k : Int) = k := fun k => by unfold co; rw [if_neg]; simp [cl, cc]
  have e0 : ∀ k : Nat, eN 0 0 (k : Int) 0 0 = 0 := fun k => by unfold eN; split <;> rfl
  have ej : eN 0 0 (N (2 * i + 1) : Int) (N (2 * i) : Nat) (N (2 * i + 1) : Nat) = (N (2 * i + 1) : Nat) := by
    by_cases hj0 : N (2 * i + 1) = 0
    · have : N (2 * i) = 0 := by omega
      rw [this, hj0]; unfold eN; split <;> rfl
    · exact eN_keep (atSt_off2 (by omega))
  simp only [toEd, peOff, c0, show cl 0 = 0 from rfl, show cc 0 0 = 0 from rfl, e0, ej]
theorem toEd_pl {s : ByteArray} {N : Nat → Nat} {T : Nat → ByteArray} {i : Nat} : toEd (pePl s N T i) = ⟨⟨#[97]⟩, (nlTo s (N (2 * i)) : Int) + 1, (N (2 * i) : Int) - lastNl s (N (2 * i)), -1, (nlTo s (N (2 * i + 1)) : Int) + 1, (N (2 * i + 1) : Int) - lastNl s (N (2 * i + 1)), -1, T i⟩ := by
  have hb1 := lastNl_bd s (N (2 * i))
  have hb2 := lastNl_bd s (N (2 * i + 1))
  have e1 : ∀ l : Int, 1 ≤ l → cl l = l := fun l h => by unfold cl; rw [if_neg (by omega)]
  have e2 : ∀ l c : Int, 1 ≤ c → cc l c = c := fun l c h => by unfold cc; rw [if_neg (by omega)]
  have e3 : ∀ l c : Int, co l c (-1) = -1 := fun l c => by unfold co; rw [if_neg (by omega)]
  have e4 : ∀ l c x y : Int, 1 ≤ l → eN l c (-1) x y = y := fun l c x y h => eN_keep (by unfold atSt; simp; omega)
  simp only [toEd, pePl, e1 _ (show 1 ≤ (nlTo s (N (2 * i)) : Int) + 1 by omega), e1 _ (show 1 ≤ (nlTo s (N (2 * i + 1)) : Int) + 1 by omega), e2 _ _ (show 1 ≤ (N (2 * i) : Int) - lastNl s (N (2 * i)) by omega), e2 _ _ (show 1 ≤ (N (2 * i + 1) : Int) - lastNl s (N (2 * i + 1)) by omega), e3, e4 _ _ _ _ (show 1 ≤ (nlTo s (N (2 * i + 1)) : Int) + 1 by omega)]

theorem wa_off (s : ByteArray) (N : Nat → Nat) (T : Nat → ByteArray) (i : Nat) (hs : s.size ≤ 2147483647) (h1 : N (2 * i) ≤ N (2 * i + 1)) (h2 : N (2 * i + 1) ≤ s.size) (p : Nat) (W : World) (hC : Conv W p s.size (stTo s s.size)) :
    Calls Tryz.prog 73 #[spV (toEd (peOff N T i)), .iface 101 (.pointer (some ⟨p, 0, none⟩))] W fun e W' => e = .returned (.tuple #[spV (hOff s N T i), .nilIface]) ∧ Below W.heap.size W W' := by
  rw [toEd_off h1]
  have hL := stTo_len s s.size
  have hLb : ∀ x ∈ stTo s s.size, (0 : Int) ≤ x ∧ x ≤ 2147483647 := fun x hx => by have := stTo_bound s s.size x hx; omega
  have l1 := pos_line1 s (N (2 * i)) (by omega)
  have l2 := pos_line1 s (N (2 * i + 1)) h2
  unfold hOff
  generalize N (2 * i) = a at *
  generalize N (2 * i + 1) = b at *
  by_cases hne : b = a
  · subst hne
    exact withAll_of ⟨#[97]⟩ 0 0 b 0 0 b _ _ _ _ _ _ p W (fun W' hb hB => updB_one true ⟨#[97]⟩ b W.heap.size p s.size (stTo s s.size) W W' hC hb (Nat.le_refl _) hB (by omega) (by omega) (by omega) hs hLb (by omega))
  · have hne' : ((b : Int) == (a : Int)) = false := by simp; omega
    exact withAll_of ⟨#[97]⟩ 0 0 a 0 0 b _ _ _ _ _ _ p W (fun W' hb hB => updB_two true ⟨#[97]⟩ a b W.heap.size p s.size (stTo s s.size) W W' hC hb (Nat.le_refl _) hB (by omega) (by omega) (by omega) (by omega) hne' (by omega) hs hLb (by omega))
theorem wa_pl (s : ByteArray) (N : Nat → Nat) (T : Nat → ByteArray) (i : Nat) (hs : s.size ≤ 2147483647) (h1 : N (2 * i) ≤ N (2 * i + 1)) (h2 : N (2 * i + 1) ≤ s.size) (p : Nat) (W : World) (hC : Conv W p s.size (stTo s s.size)) :
    Calls Tryz.prog 73 #[spV (toEd (pePl s N T i)), .iface 101 (.pointer (some ⟨p, 0, none⟩))] W fun e W' => e = .returned (.tuple #[spV (hPl s N T i), .nilIface]) ∧ Below W.heap.size W W' := by
  rw [toEd_pl]
  unfold hPl
  generalize N (2 * i) = a at *
  generalize N (2 * i + 1) = b at *
  have hb1 := lastNl_bd s a
  have hb2 := lastNl_bd s b
  have hT1 := fun p W hC => toOffset_place s a (by omega) hs p W hC
  have hT2 := fun p W hC => toOffset_place s b h2 hs p W hC
  dsimp only [spV]
  refine withAll_of ⟨#[97]⟩ _ _ _ _ _ _ _ _ _ _ _ _ p W (fun W' hb hB => ?_)
  by_cases h3 : nlTo s a = nlTo s b
  · have q1 : (((nlTo s b : Int) + 1) == ((nlTo s a : Int) + 1)) = true := by simp; omega
    have hl := one_line s a b h1 h2 h3
    by_cases h4 : a = b
    · subst h4
      exact updA_one true _ _ _ _ _ _ _ a W.heap.size p s.size (stTo s s.size) W W' hC hb (Nat.le_refl _) hB (by omega) (by omega) (Or.inl (by decide)) q1 (by simp) (fun W hC => hT1 p W hC)
    · have q2 : (((b : Int) - lastNl s b) == ((a : Int) - lastNl s a)) = false := by simp; omega
      exact updA_twoC true _ _ _ _ _ _ _ a b W.heap.size p s.size (stTo s s.size) W W' hC hb (Nat.le_refl _) hB (by omega) (by omega) (Or.inl (by decide)) q1 q2 (fun W hC => hT1 p W hC) (fun W hC => hT2 p W hC)
  · have q1 : (((nlTo s b : Int) + 1) == ((nlTo s a : Int) + 1)) = false := by simp; omega
    exact updA_twoL true _ _ _ _ _ _ _ a b W.heap.size p s.size (stTo s s.size) W W' hC hb (Nat.le_refl _) hB (by omega) (by omega) (Or.inl (by decide)) q1 (fun W hC => hT1 p W hC) (fun W hC => hT2 p W hC)

/-- ApplyEdits of edits in whatever order, if sorted they are cuts. -/
theorem apply_turned (s : ByteArray) (n B : Nat) (ar : Bool) (N : Nat → Nat) (T : Nat → ByteArray) (P : Nat → Pe) (h : Nat → Ed) (hs : s.size ≤ 400000) (hn : n ≤ 10000) (hc : CutsN s n N) (hasc : ∀ i j, i < j → j < n → ltE h i j = true)
    (ho : ∀ i, i < n → toO (h i) = ⟨N (2 * i), N (2 * i + 1), (T i).data.toList⟩ ∧ (h i).u = ⟨#[97]⟩ ∧ 1 ≤ (h i).l ∧ 1 ≤ (h i).l2 ∧ (h i).o = (N (2 * i) : Nat) ∧ (h i).o2 = (N (2 * i + 1) : Nat) ∧ (h i).t = T i ∧ (toEd (P i)).t = T i ∧ (T i).size ≤ 400000)
    (hw : ∀ i, i < n → ∀ p W, Conv W p s.size (stTo s s.size) → Calls Tryz.prog 73 #[spV (toEd (P i)), .iface 101 (.pointer (some ⟨p, 0, none⟩))] W fun e W' => e = .returned (.tuple #[spV (h i), .nilIface]) ∧ Below W.heap.size W W')
    (A : Option Addr) (c : Nat) (w : World) (hA : RowsF w A n (fun i => toEd (P (turnIx n B ar i)))) :
    Calls Tryz.prog 23 #[.string s, .slice A n c] w fun e w' => e = .returned (.string (aftB s N T n ++ s.extract (lastN N n) s.size)) ∧ Below w.heap.size w w' := by
  by_cases h0 : n = 0
  · subst h0
    refine (apply_zero s A c w).mono ?_
    rintro e w' ⟨rfl, rfl⟩
    refine ⟨?_, Below.refl _ _⟩
    congr 2
    refine eq_of_list ?_
    simp [aftB, lastN]
  · have hp : ∀ i, i < n → turnIx n B ar i < n := fun i _ => turnIx_lt (by omega)
    have hweak : Weak n (ltE h) := weak_pos ⟨#[97]⟩ (fun i hi => ⟨(ho i hi).2.1, (ho i hi).2.2.1, (ho i hi).2.2.2.1⟩)
    have happ := apply_any s n (fun i => toEd (P (turnIx n B ar i))) (fun i => h (turnIx n B ar i)) A c hs (by omega) hn w hA
      (fun i hi p W hC => hw _ (hp i hi) p W hC)
      (fun i hi => by have := ho _ (hp i hi); rw [this.2.2.2.2.2.2.1, this.2.2.2.2.2.2.2.1])
      (fun i hi => by have := ho _ (hp i hi); refine ⟨this.2.2.1, this.2.2.2.1, ?_⟩; rw [this.2.2.2.2.1]; omega)
      (weak_pos ⟨#[97]⟩ (fun i hi => by have := ho _ (hp i hi); exact ⟨this.2.1, this.2.2.1, this.2.2.2.1⟩))
      (fun i hi => by
        have h1 := ho _ (hp i hi)
        have h2 := hc.in_ _ (hp i hi)
        rw [h1.2.2.2.2.1, h1.2.2.2.2.2.1, h1.2.2.2.2.2.2.1]
        exact ⟨by omega, by omega, by omega, h1.2.2.2.2.2.2.2.2⟩)
    refine happ.mono ?_
    rintro e w' ⟨t, hS, rfl, hb⟩
    refine ⟨?_, hb⟩
    have hback := sorted_back (p := turnIx n B ar) hweak hp (fun i j hi hj e => turnIx_inj hi hj e) hasc hS
    rw [appF_congr (h' := h) (fun i hi => congrArg h (hback i hi)), appF_aft hc (fun i hi => (ho i hi).1)]

set_option maxHeartbeats 4000000 in
/-- impl.Apply of these. -/
theorem iApply_turned (s x : ByteArray) (n : Nat) (Q : Nat → Pe) (hn : n ≤ 10000) (hap : ∀ A c W, RowsF W A n (fun i => toEd (Q i)) → Calls Tryz.prog 23 #[.string s, .slice A n c] W fun e w' => e = .returned (.string x) ∧ Below W.heap.size W w')
    (A : Option Addr) (c : Nat) (w : World) (hA : RowsAt w A 7 ((List.range n).map fun i => peCells (Q i))) : Calls Tryz.prog 9 #[.string s, .slice A n c] w fun e w' => e = .returned (.string x) ∧ Below w.heap.size w w' := by
  have hl : ((List.range n).map Q).length = n := by rw [List.length_map, List.length_range]
  have HT := hide (fun W h => editsTo_any ((List.range n).map Q) A c (by rw [hl]; omega) W h)
  have HA := hide hap
  have HR : Hid (RowsAt w A 7 (((List.range n).map Q).map peCells)) := hide (by rw [List.map_map]; exact hA)
  have HF : Hid (∀ W A1, RowsAt W A1 8 ((((List.range n).map Q).map toEd).map edCells) → RowsF W A1 n (fun i => toEd (Q i))) := hide (fun W A1 h => by
    have h2 := rowsF_of h
    intro i j hi hj
    rw [List.length_map, hl] at h2
    obtain ⟨b, o, e, hc⟩ := h2 i j hi hj
    refine ⟨b, o, e, ?_⟩
    rw [hc, edAt_get (by rw [List.length_map, hl]; exact hi)]
    simp)
  unfold EdsRes at HT
  simp only [List.length_map, List.length_range] at HT
  clear hap hA
  go_enter Tryz.func9, Tryz.ntmps9
  go_wp2_with fail
  refine (HT.out _ HR.out).mono ?_
  rintro e w1 ⟨A1, c1, rfl, _, hr, hb1⟩
  have hr2 := HF.out _ _ hr
  clear hr
  go_wp2_with fail
  refine (HA.out _ _ _ hr2).mono ?_
  rintro e w2 ⟨rfl, hb2⟩
  have hbl := hb1.trans (hb2.mono hb1.size)
  clear hr2 hb1 hb2
  go_wp2
  go_ret
  exact ⟨rfl, hbl⟩
end Go.Proofs.YtgegialfhkgggaaGreatDoor
namespace Go.Proofs.YtgegialfhkgggaaGreatDoor
open Go.RowKit Stab Go.Proofs.YtgegialfhkgggaaGreatDoor.Lines Mye

/-- The cuts and the texts as they lie. -/
def nOf (cs : List Int) (i : Nat) : Nat := (cs.getD i 0).toNat
def tOf (ts : List ByteArray) (i : Nat) : ByteArray := ts.getD i ByteArray.empty
section
variable {s : ByteArray} {cs : List Int} {ts : List ByteArray}
theorem Cuts.nat (h : Cuts s cs ts) {i : Nat} (hi : i < cs.length) : cs.getD i 0 = (nOf cs i : Nat) := by
  have := (h.2.2.2 i hi).1.1
  unfold nOf; omega
theorem Cuts.nats (h : Cuts s cs ts) {w : World} {A : Option Addr} (hA : Ints w A cs) : NatsAt w A (2 * ts.length) (nOf cs) := by
  intro i hi
  obtain ⟨b, o, e, hc⟩ := hA i (by rw [h.1]; exact hi)
  exact ⟨b, o, e, by rw [hc, h.nat (by rw [h.1]; exact hi)]⟩
theorem texts_at {w : World} {B : Option Addr} (hB : Strs w B ts) : TextsAt w B ts.length (tOf ts) := hB
theorem Cuts.mono (h : Cuts s cs ts) {i : Nat} (hi : i + 1 < cs.length) : nOf cs i ≤ nOf cs (i + 1) := by
  have h1 := (h.2.2.2 (i + 1) hi).1.2 (by omega)
  have h2 := h.nat (show i < cs.length by omega)
  have h3 := h.nat hi
  have e : i + 1 - 1 = i := by omega
  rw [e] at h1
  omega
theorem Cuts.le (h : Cuts s cs ts) {i : Nat} (hi : i < cs.length) : nOf cs i ≤ s.size := by
  have h1 := (h.2.2.2 i hi).2.1
  have h2 := h.nat hi
  omega
theorem Cuts.n (h : Cuts s cs ts) : CutsN s ts.length (nOf cs) := by
  have hl := h.1
  refine ⟨fun i hi => ⟨?_, h.mono (by omega), h.le (by omega)⟩, fun i hi e => ?_⟩
  · cases i with
    | zero => exact Nat.zero_le _
    | succ i =>
      have := h.mono (i := 2 * i + 1) (by omega)
      exact this
  · have h1 := (h.2.2.2 (2 * i + 2) (by omega)).2.2 (by omega) (by omega)
    have e2 : 2 * i + 2 - 2 = 2 * i := by omega
    rw [e2, h.nat (by omega), h.nat (by omega), e] at h1
    exact h1 rfl
theorem sumSz_mem {ss : List ByteArray} {x : ByteArray} (h : x ∈ ss) : x.size ≤ sumSz ss := by
  unfold sumSz
  induction ss with
  | nil => cases h
  | cons a r ih =>
    rw [List.map_cons, List.sum_cons]
    rcases List.mem_cons.1 h with rfl | h
    · omega
    · have := ih h; omega
theorem Cuts.sizes (h : Cuts s cs ts) : s.size ≤ 100000 ∧ ∀ i, i < ts.length → (tOf ts i).size ≤ 100000 := by
  have h1 := h.2.2.1
  unfold shortB at h1
  rw [Bool.and_eq_true] at h1
  have h2 : sumSz (s :: ts) ≤ 100000 := by simpa using h1.1
  refine ⟨Nat.le_trans (sumSz_mem (List.mem_cons_self ..)) h2, fun i hi => Nat.le_trans (sumSz_mem (List.mem_cons_of_mem _ (getD_mem_B hi))) h2⟩
theorem aft_size {s : ByteArray} {N : Nat → Nat} {T : Nat → ByteArray} {n : Nat} (hs : s.size ≤ 100000) (hT : ∀ i, i < n → (T i).size ≤ 100000) : ∀ i, i ≤ n → (aftB s N T i).size ≤ i * 200000 := by
  intro i
  induction i with
  | zero => intro _; exact Nat.zero_le _
  | succ i ih =>
    intro hi
    have h1 := ih (by omega)
    have h2 := hT i (by omega)
    rw [aftB, ByteArray.size_append, ByteArray.size_append, ByteArray.size_extract]
    omega
theorem Cuts.toO_off (h : Cuts s cs ts) (i : Nat) (hi : i < ts.length) : toO (hOff s (nOf cs) (tOf ts) i) = ⟨nOf cs (2 * i), nOf cs (2 * i + 1), (tOf ts i).data.toList⟩ ∧ (hOff s (nOf cs) (tOf ts) i).u = ⟨#[97]⟩ ∧ 1 ≤ (hOff s (nOf cs) (tOf ts) i).l ∧ 1 ≤ (hOff s (nOf cs) (tOf ts) i).l2 ∧ (hOff s (nOf cs) (tOf ts) i).o = (nOf cs (2 * i) : Nat) ∧ (hOff s (nOf cs) (tOf ts) i).o2 = (nOf cs (2 * i + 1) : Nat) ∧ (hOff s (nOf cs) (tOf ts) i).t = tOf ts i ∧ (toEd (peOff (nOf cs) (tOf ts) i)).t = tOf ts i ∧ (tOf ts i).size ≤ 400000 := by
  have hl := h.1
  refine ⟨?_, rfl, pos_line1 s _ (h.le (by omega)), pos_line1 s _ (h.le (by omega)), rfl, rfl, rfl, rfl, ?_⟩
  · unfold toO hOff; simp
  · have := h.sizes.2 i hi; omega
theorem Cuts.toO_pl (h : Cuts s cs ts) (i : Nat) (hi : i < ts.length) : toO (hPl s (nOf cs) (tOf ts) i) = ⟨nOf cs (2 * i), nOf cs (2 * i + 1), (tOf ts i).data.toList⟩ ∧ (hPl s (nOf cs) (tOf ts) i).u = ⟨#[97]⟩ ∧ 1 ≤ (hPl s (nOf cs) (tOf ts) i).l ∧ 1 ≤ (hPl s (nOf cs) (tOf ts) i).l2 ∧ (hPl s (nOf cs) (tOf ts) i).o = (nOf cs (2 * i) : Nat) ∧ (hPl s (nOf cs) (tOf ts) i).o2 = (nOf cs (2 * i + 1) : Nat) ∧ (hPl s (nOf cs) (tOf ts) i).t = tOf ts i ∧ (toEd (pePl s (nOf cs) (tOf ts) i)).t = tOf ts i ∧ (tOf ts i).size ≤ 400000 := by
  have hl := h.1
  refine ⟨?_, rfl, by unfold hPl; simp only; omega, by unfold hPl; simp only; omega, rfl, rfl, rfl, rfl, ?_⟩
  · unfold toO hPl; simp
  · have := h.sizes.2 i hi; omega
/-- The text behind the edits. -/
def aftS (s : ByteArray) (cs : List Int) (ts : List ByteArray) : ByteArray := aftB s (nOf cs) (tOf ts) ts.length ++ s.extract (lastN (nOf cs) ts.length) s.size
theorem Cuts.after (h : Cuts s cs ts) (A B : Option Addr) (ca cb : Nat) (w : World) (hA : Ints w A cs) (hB : Strs w B ts) : Calls Tryz.prog 18 #[.string s, .slice A (2 * ts.length) ca, .slice B ts.length cb] w (aftR w (aftS s cs ts)) := by
  have hz := h.sizes
  have h50 := h.2.1
  exact after_any s ts.length (nOf cs) (tOf ts) A B ca cb (by omega) (by omega) h.n.in_ (fun i hi => by have := aft_size (N := nOf cs) hz.1 hz.2 i hi; have := Nat.mul_le_mul_right 200000 (Nat.le_trans hi h50); omega)
    (fun i hi => by have := hz.2 i hi; omega) w (h.nats hA) (texts_at hB)
theorem Cuts.apply_off (h : Cuts s cs ts) (B : Nat) (ar : Bool) (A : Option Addr) (c : Nat) (w : World) (hA : RowsAt w A 7 ((List.range ts.length).map fun i => peCells (peOff (nOf cs) (tOf ts) (turnIx ts.length B ar i)))) :
    Calls Tryz.prog 9 #[.string s, .slice A ts.length c] w fun e w' => e = .returned (.string (aftS s cs ts)) ∧ Below w.heap.size w w' := by
  have hz := h.sizes
  have h50 := h.2.1
  exact iApply_turned s (aftS s cs ts) ts.length (fun i => peOff (nOf cs) (tOf ts) (turnIx ts.length B ar i)) (by omega)
    (fun A c W hR => apply_turned s ts.length B ar (nOf cs) (tOf ts) (peOff (nOf cs) (tOf ts)) (hOff s (nOf cs) (tOf ts)) (by omega) (by omega) h.n (hOff_asc _ h.n) h.toO_off
      (fun i hi p W hC => wa_off s (nOf cs) (tOf ts) i (by omega) (h.n.in_ i hi).2.1 (h.n.in_ i hi).2.2 p W hC) A c W hR) A c w hA
theorem Cuts.apply_pl (h : Cuts s cs ts) (B : Nat) (ar : Bool) (A : Option Addr) (c : Nat) (w : World) (hA : RowsAt w A 7 ((List.range ts.length).map fun i => peCells (pePl s (nOf cs) (tOf ts) (turnIx ts.length B ar i)))) :
    Calls Tryz.prog 9 #[.string s, .slice A ts.length c] w fun e w' => e = .returned (.string (aftS s cs ts)) ∧ Below w.heap.size w w' := by
  have hz := h.sizes
  have h50 := h.2.1
  exact iApply_turned s (aftS s cs ts) ts.length (fun i => pePl s (nOf cs) (tOf ts) (turnIx ts.length B ar i)) (by omega)
    (fun A c W hR => apply_turned s ts.length B ar (nOf cs) (tOf ts) (pePl s (nOf cs) (tOf ts)) (hPl s (nOf cs) (tOf ts)) (by omega) (by omega) h.n (hPl_asc _ h.n) h.toO_pl
      (fun i hi p W hC => wa_pl s (nOf cs) (tOf ts) i (by omega) (h.n.in_ i hi).2.1 (h.n.in_ i hi).2.2 p W hC) A c W hR) A c w hA
end
end Go.Proofs.YtgegialfhkgggaaGreatDoor
