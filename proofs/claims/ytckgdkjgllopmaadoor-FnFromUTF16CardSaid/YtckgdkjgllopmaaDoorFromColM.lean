/- Walks: span.FromUTF16Column and impl.FromUTF16 at a place of a text, from the beginning of its line. No condition but sizes and the listed variables. -/
import Derived.Test.YtckgdkjgllopmaaDoorIsWholeM
import Derived.Test.YtckgdkjgllopmaaDoorDecRM
import Derived.Test.YtckgdkjgllopmaaDoorLineStM
import Derived.Test.YtckgdkjgllopmaaDoorUtfPtM
import Derived.Test.YtckgdkjgllopmaaDoorPb
import Derived.Test.YtckgdkjgllopmaaDoorPa
import Derived.Laws.IdiomStrings
set_option linter.unusedVariables false
set_option linter.unusedSimpArgs false
namespace Go.Proofs.YtckgdkjgllopmaaDoor
open Go.RowKit Go.Proofs.YtckgdkjgllopmaaDoor.Lines
attribute [local go_sem ↓] Go.wp_at_zero Go.wp_at_succ

theorem btTen {s : ByteArray} {k : Nat} : bt s k = 10 ↔ s.data.toList.getD k 0 = 10 := by
  unfold bt
  constructor
  · intro h; exact UInt8.toNat_inj.1 (by rw [h]; rfl)
  · intro h; rw [h]; rfl
theorem btDrop (s : ByteArray) (f k : Nat) : (s.data.toList.drop f).getD k 0 = s.data.toList.getD (f + k) 0 := by
  rw [List.getD_eq_getElem?_getD, List.getElem?_drop, List.getD_eq_getElem?_getD]
/-- The units from place a of a list to place m. -/
def uF (D : List UInt8) (m a : Nat) : Nat := units ((D.drop a).take (m - a))
theorem uF_end (D : List UInt8) (m : Nat) : uF D m m = 0 := by unfold uF; rw [Nat.sub_self, List.take_zero, units_nil]
theorem uF_step {D : List UInt8} {m a : Nat} (hm : m ≤ D.length) (h : goes D m a = true) (ha : a < m) : a + (dec (D.drop a)).2 ≤ m ∧ uF D m a = unit (dec (D.drop a)).1 + uF D m (a + (dec (D.drop a)).2) := units_goes hm h ha
/-- The relation of the loop. -/
def FcRel (w wr : World) (l : Int) (b a gp gr : Nat) (z : Array Value) : Prop := Blk wr gp 49 #[.int .i64 l, .int .i64 ((a : Int) + 1), .int .i64 ((b : Int) + a)] ∧ Blk wr gr 49 z ∧ Below w.heap.size w wr

set_option maxHeartbeats 8000000 in
set_option maxRecDepth 100000 in
theorem fromCol_any (s : ByteArray) (l : Int) (b m g cap : Nat) (h1 : 1 ≤ l) (hbm : b + m ≤ s.size) (hs : s.size ≤ 1073741823) (hcap : s.size ≤ cap) (hgo : goes (s.data.toList.drop b) m 0 = true) (hnt : ∀ i, b ≤ i → i < b + m → bt s i ≠ 10) (w : World) (hB : BytesAt w g s) (hT : U8Tabs w) :
    Calls Tryd.prog 23 #[.agg #[.int .i64 l, .int .i64 1, .int .i64 b], .int .i64 (1 + (uF (s.data.toList.drop b) m 0 : Nat)), .slice (some ⟨g, 0, none⟩) s.size cap] w fun e w' =>
      e = .returned (.tuple #[.agg #[.int .i64 l, .int .i64 ((m : Int) + 1), .int .i64 ((b : Int) + m)], .nilIface]) ∧ Below w.heap.size w w' := by
  have g2 : decide ((0 : Int) ≤ (b : Int)) = true := by simp
  obtain ⟨D, hD⟩ : ∃ D, s.data.toList.drop b = D := ⟨_, rfl⟩
  have hDl : D.length = s.size - b := by rw [← hD, List.length_drop, size_list]
  rw [hD] at hgo ⊢
  by_cases h0 : m = 0
  · subst h0
    rw [uF_end]
    go_enter Tryd.func23, Tryd.ntmps23
    go_wp2_with fail
    refine (qHasOffset_any _ _ _ _).mono ?_
    rintro e w1 ⟨rfl, hb1⟩
    have q0 := (blk2_1 (w := w) (t := 49) (cs := #[.int .i64 l, .int .i64 1, .int .i64 b]) rfl).kept hb1
    have q1 := (blk2_2 (w := w) (t := 49) (cs := #[.int .i64 0, .int .i64 0, .int .i64 0]) rfl).kept hb1
    have f0 := q0.three
    have f1 := q1.three
    have z0 := q1.frozen 0
    have z1 := q1.frozen 1
    have z2 := q1.frozen 2
    have hbl1 : Below w.heap.size w w1 := Below.trans (by go_grown) (hb1.mono (by simp; omega))
    go_wp2
    exact bodyPost_ret (v := .tuple #[.agg #[.int .i64 l, .int .i64 1, .int .i64 b], .nilIface]) (by simp [results, Tryd.results23, go_sem, f1, z0, z1, z2]) rfl ⟨by simp, ((hbl1.setCell (p := ⟨w.heap.size + 1, 0, none⟩) (by simp) _).setCell (p := ⟨w.heap.size + 1, 1, none⟩) (by simp) _).setCell (p := ⟨w.heap.size + 1, 2, none⟩) (by simp) _⟩
  · have hstep := fun a (h : goes D m a = true) (ha : a < m) => uF_step (D := D) (by omega) h ha
    have HStep := hide hstep
    have hU0 := (hstep 0 hgo (by omega)).2
    have hu1 := (unit_one (D.drop 0)).1
    obtain ⟨U, hU⟩ : ∃ U, uF D m 0 = U := ⟨_, rfl⟩
    have hUle : U ≤ 2147483647 := by
      have := units_le _ ((D.drop 0).take (m - 0)) (Nat.le_refl _)
      unfold uF at hU
      rw [hU, List.length_take] at this
      omega
    have hU1 : 1 ≤ U := by omega
    rw [hU] at hU0 ⊢
    have HU := hide hU
    have HEnd := hide (uF_end D m)
    have HGo := hide hgo
    have HB := hide hB
    have HT := hide hT
    have HDec : Hid (∀ (a c : Nat) (W : World), a < m → BytesAt W g s → U8Tabs W → Calls Tryd.prog 34 #[.slice (some ⟨g, b + a, none⟩) (s.size - (b + a)) c] W fun e w' => e = .returned (.tuple #[.int .i32 (dec (D.drop a)).1, .int .i64 (dec (D.drop a)).2]) ∧ Below W.heap.size W w') := hide (fun a c W ha hB hT => by
      have hsz : (s.extract (b + a) s.size).size = s.size - (b + a) := by rw [ByteArray.size_extract]; omega
      have hl : (s.extract (b + a) s.size).data.toList = D.drop a := by rw [drop_list, ← hD, List.drop_drop]
      have h := decR_any (s.extract (b + a) s.size) g (b + a) c W hT (fun j hj => by
        rw [hsz] at hj
        have hc := hB (b + a + j) (by omega)
        rw [hc, get_list, hl, ← hD, List.drop_drop]
        unfold bt
        rw [List.getD_eq_getElem?_getD, List.getD_eq_getElem?_getD, List.getElem?_drop])
      rw [decodeGo_dec _ (by omega), hsz, hl] at h
      exact h)
    have HTen : Hid (∀ a, a < m → (dec (D.drop a)).1 ≠ 10) := hide (fun a ha h => by
      have h2 := dec_ten _ h
      rw [← hD, List.drop_drop, btDrop, Nat.add_zero] at h2
      exact hnt (b + a) (by omega) (by omega) (btTen.2 h2))
    have HWd := hide (fun a => dec_wide (D.drop a))
    have c1 : decide ((1 : Int) + (U : Int) ≤ 1) = false := by simp; omega
    have c2 : decide ((s.size : Int) ≤ (b : Int)) = false := by simp; omega
    clear hstep hU0 hu1 hU hgo hB hT hD hnt
    go_enter Tryd.func23, Tryd.ntmps23
    go_wp2_with fail
    refine (qHasOffset_any _ _ _ _).mono ?_
    rintro e w1 ⟨rfl, hb1⟩
    have q0 := (blk2_1 (w := w) (t := 49) (cs := #[.int .i64 l, .int .i64 1, .int .i64 b]) rfl).kept hb1
    have q1 := (blk2_2 (w := w) (t := 49) (cs := #[.int .i64 0, .int .i64 0, .int .i64 0]) rfl).kept hb1
    have f0 := q0.three
    have hbl1 : Below w.heap.size w w1 := Below.trans (by go_grown) (hb1.mono (by simp; omega))
    have Q0 := hide q0
    have Q1 := hide q1
    clear hb1 q0 q1
    go_wp2_with fail
    refine (qOffset_any _ _ _ _ (by omega)).mono ?_
    rintro e w2 ⟨rfl, hb2⟩
    have Q2 := hide (Q0.out.kept hb2)
    have Q3 := hide (Q1.out.kept hb2)
    have f2 := Q2.out.three
    have hbl2 := hbl1.trans (hb2.mono hbl1.size)
    clear hb2 Q0 Q1 hbl1 f0
    go_wp2_with fail
    refine (qOffset_any _ _ _ _ (by omega)).mono ?_
    rintro e w3 ⟨rfl, hb3⟩
    have Q4 := hide (Q2.out.kept hb3)
    have Q5 := hide (Q3.out.kept hb3)
    have HBl := hide (hbl2.trans (hb3.mono hbl2.size))
    clear hb3 Q2 Q3 hbl2 f2
    have e1 : (b : Int).toNat = b := by simp
    have H0 : Hid (FcRel w w3 l b 0 w.heap.size (w.heap.size + 1) #[.int .i64 0, .int .i64 0, .int .i64 0]) := hide ⟨by simpa using Q4.out, Q5.out, HBl.out⟩
    clear Q4 Q5 HBl
    go_wp2_with fail
    go_loopw [8, 9] (fun rv cv wr => ∃ (a x c : Nat) (A' : Option Addr), rv = .slice A' (s.size - (b + a)) c ∧ cv = .int .i64 (1 + (x : Int)) ∧ a ≤ m ∧ s.size - (b + a) ≤ c ∧ Hid (a < m → A' = some ⟨g, b + a, none⟩) ∧ Hid (x + uF D m a = U ∧ goes D m a = true) ∧ Hid (FcRel w wr l b a w.heap.size (w.heap.size + 1) #[.int .i64 0, .int .i64 0, .int .i64 0])) (fun _ cv _ => U - ((intOf cv).toNat - 1))
    case atStart => exact ⟨0, 0, _, _, rfl, rfl, Nat.zero_le _, by omega, hide (fun _ => by first | rfl | (rw [if_neg (by omega)]; rfl) | (rw [if_neg (by omega)])), hide ⟨by rw [HU.out]; omega, HGo.out⟩, H0⟩
    case round =>
      obtain ⟨a, x, c, A', rfl, rfl, ha, hc, hA', hx, hr⟩ := hrel
      by_cases hlt : a < m
      · obtain rfl := hA'.out hlt
        clear hA'
        obtain ⟨hle, hu⟩ := HStep.out a hx.out.2 hlt
        have hbW := hr.out.2.2
        have HD := hide (fun c W h1 h2 => HDec.out a c W hlt h1 h2)
        have hten := HTen.out a hlt
        have hwd := HWd.out a
        have hun := unit_one (D.drop a)
        have hx1 := hx.out.1
        have HNx : Hid (goes D m (a + (dec (D.drop a)).2) = true) := hide (by rw [← goes_lt hlt]; exact hx.out.2)
        have hud : unit (dec (D.drop a)).1 = if 65536 ≤ (dec (D.drop a)).1 then 2 else 1 := rfl
        generalize hd : dec (D.drop a) = d at *
        obtain ⟨r, k⟩ := d
        dsimp only at hle hu hten hwd hun HNx HD hud
        obtain ⟨u, hu2⟩ : ∃ u, uF D m (a + k) = u := ⟨_, rfl⟩
        rw [hu2] at hu
        have HU2 := hide hu2
        have hxx : x + (unit r + u) = U := by rw [← hu]; exact hx1
        have hten2 : ((r : Int) == 10) = false := by simp; omega
        have kP := hr.out.1
        have fP := kP.three
        have zP1 := kP.frozen 1
        have zP2 := kP.frozen 2
        have hpl : (0 : Int) < ((s.size - (b + a) : Nat) : Int) := by omega
        have HK := hide hr.out
        clear hd hx hx1 hu hu2 hr HStep HDec HTen HWd
        go_wp2_with fail
        refine (HD.out _ _ (HB.out.kept hbW) (HT.out.on hbW)).mono ?_
        rintro e w4 ⟨rfl, hb4⟩
        have kP4 := kP.kept hb4
        have kR4 := HK.out.2.1.kept hb4
        have fP4 := kP4.three
        have zP1 := kP4.frozen 1
        have zP2 := kP4.frozen 2
        have HB4 := hide (hbW.trans (hb4.mono hbW.size))
        have KP4 := hide kP4
        have KR4 := hide kR4
        clear hb4 kP fP HK kP4 kR4 hbW HD
        by_cases h2 : 65536 ≤ r
        · have hur : unit r = 2 := by rw [hud, if_pos h2]
          rw [hur] at hxx
          have HXX := hide hxx
          have hq1 : (x : Int) + 2 ≤ (U : Int) := by omega
          have hA2 : Hid (a + k < m → (if c = k then some (⟨g, b + a, none⟩ : Addr) else some ⟨g, b + a + k, none⟩) = some ⟨g, b + (a + k), none⟩) := hide (fun h => by rw [if_neg (by omega), Nat.add_assoc])
          have HX2 : Hid (x + 2 + uF D m (a + k) = U ∧ goes D m (a + k) = true) := hide ⟨by rw [HU2.out]; have := HXX.out; omega, HNx.out⟩
          have HF : Hid (∀ W, W = (w4.setCell ⟨w.heap.size, 1, none⟩ (.int .i64 ((a : Int) + 1 + k))).setCell ⟨w.heap.size, 2, none⟩ (.int .i64 ((b : Int) + a + k)) → FcRel w W l b (a + k) w.heap.size (w.heap.size + 1) #[.int .i64 0, .int .i64 0, .int .i64 0]) := hide (fun W h => by
            subst h
            refine ⟨?_, (KR4.out.far (by simp) _).far (by simp) _, (HB4.out.setCell (p := ⟨w.heap.size, 1, none⟩) (Nat.le_refl _) _).setCell (p := ⟨w.heap.size, 2, none⟩) (Nat.le_refl _) _⟩
            have q := (KP4.out.set_ 1 (.int .i64 ((a : Int) + 1 + k))).set_ 2 (.int .i64 ((b : Int) + a + k))
            have e1 : ((a + k : Nat) : Int) + 1 = (a : Int) + 1 + k := by omega
            have e2 : (b : Int) + ((a + k : Nat) : Int) = (b : Int) + a + k := by omega
            rw [e1, e2]
            exact q)
          have hln : s.size - (b + a) - k = s.size - (b + (a + k)) := by omega
          have hr2 : decide ((65536 : Int) ≤ (r : Int)) = true := by simp; omega
          clear hud hun hur hxx h2
          have HLn := hide hln
          clear hln
          go_wp2
          go_roundw
          case rel => exact ⟨a + k, x + 2, _, _, by rw [HLn.out], by go_num, hle, by omega, hA2, HX2, hide (HF.out _ rfl)⟩
          case measure => simp [intOf]; omega
        · have hur : unit r = 1 := by rw [hud, if_neg h2]
          rw [hur] at hxx
          have HXX := hide hxx
          have hq1 : (x : Int) + 1 ≤ (U : Int) := by omega
          have hA2 : Hid (a + k < m → (if c = k then some (⟨g, b + a, none⟩ : Addr) else some ⟨g, b + a + k, none⟩) = some ⟨g, b + (a + k), none⟩) := hide (fun h => by rw [if_neg (by omega), Nat.add_assoc])
          have HX2 : Hid (x + 1 + uF D m (a + k) = U ∧ goes D m (a + k) = true) := hide ⟨by rw [HU2.out]; have := HXX.out; omega, HNx.out⟩
          have HF : Hid (∀ W, W = (w4.setCell ⟨w.heap.size, 1, none⟩ (.int .i64 ((a : Int) + 1 + k))).setCell ⟨w.heap.size, 2, none⟩ (.int .i64 ((b : Int) + a + k)) → FcRel w W l b (a + k) w.heap.size (w.heap.size + 1) #[.int .i64 0, .int .i64 0, .int .i64 0]) := hide (fun W h => by
            subst h
            refine ⟨?_, (KR4.out.far (by simp) _).far (by simp) _, (HB4.out.setCell (p := ⟨w.heap.size, 1, none⟩) (Nat.le_refl _) _).setCell (p := ⟨w.heap.size, 2, none⟩) (Nat.le_refl _) _⟩
            have q := (KP4.out.set_ 1 (.int .i64 ((a : Int) + 1 + k))).set_ 2 (.int .i64 ((b : Int) + a + k))
            have e1 : ((a + k : Nat) : Int) + 1 = (a : Int) + 1 + k := by omega
            have e2 : (b : Int) + ((a + k : Nat) : Int) = (b : Int) + a + k := by omega
            rw [e1, e2]
            exact q)
          have hln : s.size - (b + a) - k = s.size - (b + (a + k)) := by omega
          have hr2 : decide ((65536 : Int) ≤ (r : Int)) = false := by simp; omega
          clear hud hun hur hxx h2
          have HLn := hide hln
          clear hln
          go_wp2
          go_roundw
          case rel => exact ⟨a + k, x + 1, _, _, by rw [HLn.out], by go_num, hle, by omega, hA2, HX2, hide (HF.out _ rfl)⟩
          case measure => simp [intOf]; omega
      · obtain rfl : a = m := by omega
        have hx1 := hx.out.1
        rw [HEnd.out] at hx1
        obtain rfl : x = U := by omega
        have kP := hr.out.1
        have fP := kP.three
        have kR := hr.out.2.1
        have fR := kR.three
        have z0 := kR.frozen 0
        have z1 := kR.frozen 1
        have z2 := kR.frozen 2
        have HBf := hide hr.out.2.2
        clear hx hx1 hr kP kR
        go_wp2
        exact bodyPost_ret (v := .tuple #[.agg #[.int .i64 l, .int .i64 ((a : Int) + 1), .int .i64 ((b : Int) + a)], .nilIface]) (by simp [results, Tryd.results23, go_sem, fR, z0, z1, z2]) rfl ⟨rfl, ((HBf.out.setCell (p := ⟨w.heap.size + 1, 0, none⟩) (by simp) _).setCell (p := ⟨w.heap.size + 1, 1, none⟩) (by simp) _).setCell (p := ⟨w.heap.size + 1, 2, none⟩) (by simp) _⟩

set_option maxHeartbeats 4000000 in
set_option maxRecDepth 100000 in
theorem iFromUTF16_any (s : ByteArray) (l : Int) (b m : Nat) (h1 : 1 ≤ l) (hbm : b + m ≤ s.size) (h0 : b = 0 → l = 1) (hs : s.size ≤ 1073741823) (hgo : goes (s.data.toList.drop b) m 0 = true) (hnt : ∀ i, b ≤ i → i < b + m → bt s i ≠ 10) (w : World) (hT : U8Tabs w) :
    Calls Tryd.prog 10 #[.string s, .agg #[.int .i64 l, .int .i64 1, .int .i64 b], .int .i64 (1 + (uF (s.data.toList.drop b) m 0 : Nat))] w fun e w' =>
      e = .returned (.tuple #[.agg #[.int .i64 l, .int .i64 ((m : Int) + 1), .int .i64 ((b : Int) + m)], .bool true]) ∧ Below w.heap.size w w' := by
  have hcv := fun W => run_bytes_of_string (P := Tryd.prog) W 9 55 5 s Tryd.underlying9 Tryd.underlying55 Tryd.underlying5
  have hP : ∀ W, Calls Tryd.prog 24 #[.agg #[.int .i64 l, .int .i64 1, .int .i64 b]] W fun e w' => e = .returned (.agg #[.int .i64 l, .int .i64 1, .int .i64 b]) ∧ Below W.heap.size W w' := by
    intro W
    have h := pointTo_any l 1 b W
    have e1 : cl l = l := by unfold cl; rw [if_neg (by omega)]
    have e2 : cc l 1 = 1 := by unfold cc; rw [if_neg (by omega)]
    have e3 : co l 1 b = b := by
      unfold co
      rw [e1, e2]
      by_cases hk0 : b = 0
      · have := h0 hk0
        rw [if_neg (by omega)]
      · rw [if_neg (by omega)]
    rw [e1, e2, e3] at h
    exact h
  have hQ : ∀ W, Calls Tryd.prog 25 #[.agg #[.int .i64 l, .int .i64 ((m : Int) + 1), .int .i64 ((b : Int) + m)]] W fun e w' => e = .returned (.agg #[.int .i64 l, .int .i64 ((m : Int) + 1), .int .i64 ((b : Int) + m)]) ∧ Below W.heap.size W w' := by
    intro W
    have h := pointOf_any l ((m : Int) + 1) ((b : Int) + m) W
    have e1 : oL l = l := by unfold oL; rw [if_pos (by omega)]
    have e2 : oC l ((m : Int) + 1) = (m : Int) + 1 := by unfold oC; rw [if_pos (by omega)]
    have e3 : oO ((b : Int) + m) = (b : Int) + m := by unfold oO; rw [if_pos (by omega)]
    rw [e1, e2, e3] at h
    exact h
  have HP := hide hP
  have HQ := hide hQ
  have HC := hide (fun g cap hc W hB hT => fromCol_any s l b m g cap h1 hbm hs hc hgo hnt W hB hT)
  have HT := hide hT
  have hUle : uF (s.data.toList.drop b) m 0 ≤ 2147483647 := by
    unfold uF
    have := units_le _ (((s.data.toList.drop b).drop 0).take (m - 0)) (Nat.le_refl _)
    rw [List.length_take] at this
    omega
  clear hP hQ hgo hT hnt
  generalize uF (s.data.toList.drop b) m 0 = U at *
  go_enter Tryd.func10, Tryd.ntmps10
  go_wp2_with fail
  refine (HP.out _).mono ?_
  rintro e w1 ⟨rfl, hb1⟩
  have q1 := (blk2_2 (w := w) (t := 25) (cs := #[.int .i64 0, .int .i64 0, .int .i64 0]) rfl).kept hb1
  have hbl1 : Below w.heap.size w w1 := Below.trans (by go_grown) (hb1.mono (by simp; omega))
  have hz1 := hbl1.size
  clear hb1
  go_wp2_with fail
  refine (HC.out _ _ (grownCap_ge _ _ _ _) _ (bytes_new _ _ _ _ _) (HT.out.on (Below.trans hbl1 (by go_grown)))).mono ?_
  rintro e w2 ⟨rfl, hb2⟩
  have hbl2 : Below w.heap.size w w2 := Below.trans (Below.trans hbl1 (by go_grown)) (hb2.mono (by simp; omega))
  have q2 := hide (((q1.drew).alloc _).kept hb2)
  have HBl2 := hide hbl2
  clear hcv hb2 HC hbl2 q1 hbl1 hz1
  go_wp2_with fail
  refine (HQ.out _).mono ?_
  rintro e w3 ⟨rfl, hb3⟩
  have q3 := ((q2.out.alloc (.cells #[.int .i64 l, .int .i64 ((m : Int) + 1), .int .i64 ((b : Int) + m)] 49)).kept hb3)
  have f3 := q3.three
  have z0 := q3.frozen 0
  have z1 := q3.frozen 1
  have z2 := q3.frozen 2
  have hbl3 : Below w.heap.size w w3 := Below.trans (HBl2.out.alloc HBl2.out.size _) (hb3.mono (by have := HBl2.out.size; simp; omega))
  clear hb3 q3 q2
  go_wp2
  exact bodyPost_ret (v := .tuple #[.agg #[.int .i64 l, .int .i64 ((m : Int) + 1), .int .i64 ((b : Int) + m)], .bool true]) (by simp [results, Tryd.results10, go_sem, f3, z0, z1, z2]) rfl ⟨rfl, ((hbl3.setCell (p := ⟨w.heap.size + 1, 0, none⟩) (by simp) _).setCell (p := ⟨w.heap.size + 1, 1, none⟩) (by simp) _).setCell (p := ⟨w.heap.size + 1, 2, none⟩) (by simp) _⟩
end Go.Proofs.YtckgdkjgllopmaaDoor
