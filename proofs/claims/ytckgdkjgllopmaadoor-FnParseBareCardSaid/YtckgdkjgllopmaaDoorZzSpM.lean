/- Walk: (Span).ZZText. No condition but sizes, and the table that AppendInt reads. -/
import Derived.Test.YtckgdkjgllopmaaDoorAppIntM
import Derived.Test.YtckgdkjgllopmaaDoorSpansM
import Derived.Deep.RegionHeld3
import Derived.Deep.CutRange
import Derived.Deep.DeepCutAuto
set_option linter.unusedVariables false
set_option linter.unusedSimpArgs false
namespace Go.Proofs.YtckgdkjgllopmaaDoor
open Go.RowKit Go.Proofs.YtckgdkjgllopmaaDoor.Lines
attribute [local go_sem ↓] Go.wp_at_zero Go.wp_at_succ

theorem Byt.kept {B : Nat} {w w' : World} {v : Value} {l : List UInt8} (h : Byt B w v l) (hb : Below w.heap.size w w') : Byt B w' v l := by
  refine ⟨⟨h.1.1, ?_⟩, Nat.le_trans h.2 hb.size⟩
  have hlt := h.1.lt
  rcases h.1.2 with h2 | ⟨g, cap, cur, rfl, a1, a2, a3⟩
  · exact Or.inl h2
  · exact Or.inr ⟨g, cap, cur, rfl, a1, Blk.kept (t := 5) a2 hb, a3⟩
theorem SB.nb {g : Nat} {W w1 w2 : World} (h : SB g W w1) (hn : Nb g w1 w2) : SB g W w2 := SB.of (Nat.le_trans h.2.1 hn.2.1) (h.2.2.trans hn.1)
theorem SB.allocDrew {g : Nat} {W : World} {o : Obj} (h : g ≤ W.heap.size) : SB g W (W.alloc o).drew := SB.of (by show g ≤ (W.alloc o).heap.size; simp; omega) (((Below.refl _ W).alloc h o).drew)
theorem Nb.of {B : Nat} {w w' : World} (h : Below w.heap.size w w') (hB : B ≤ w.heap.size) : Nb B w w' := ⟨h.mono hB, h.size, fun _ _ _ _ hk => hk.kept h⟩
/-- What stands while the text of a span is written: the span's block, the bytes so far. -/
structure ZS (g : Nat) (w W : World) (cs : Array Value) (v : Value) (l : List UInt8) : Prop where
  s : Blk W g 63 cs
  b : Byt (g + 1) W v l
  low : Below g w W
  tab : Tab10 (g + 1) W
theorem ZS.nb {g : Nat} {w W W' : World} {cs : Array Value} {v v' : Value} {l l' : List UInt8} (H : ZS g w W cs v l) (hb : Byt (g + 1) W' v' l') (hn : Nb (g + 1) W W') : ZS g w W' cs v' l' :=
  ⟨H.s.below hn.1 (Nat.lt_succ_self _), hb, H.low.trans (hn.1.mono (Nat.le_succ _)), H.tab.on hn.1⟩
theorem ZS.kept {g : Nat} {w W W' : World} {cs : Array Value} {v : Value} {l : List UInt8} (H : ZS g w W cs v l) (hb : Below W.heap.size W W') : ZS g w W' cs v l :=
  H.nb (H.b.kept hb) (Nb.of hb H.b.2)

section
variable (u : ByteArray) (l c o l2 c2 o2 : Int) (w : World)
theorem sHasOff_any : Calls Tryd.prog 46 #[.agg #[.string u, .int .i64 l, .int .i64 c, .int .i64 o, .int .i64 l2, .int .i64 c2, .int .i64 o2]] w fun e w' => e = .returned (.bool (decide (0 ≤ o))) ∧ Below w.heap.size w w' := by
  by_cases h2 : 0 ≤ o
  all_goals
    go_enter Tryd.func46, Tryd.ntmps46
    go_wp2
    go_returns
    exact ⟨by simp [h2], by go_grown⟩
theorem sHasPos_any : Calls Tryd.prog 47 #[.agg #[.string u, .int .i64 l, .int .i64 c, .int .i64 o, .int .i64 l2, .int .i64 c2, .int .i64 o2]] w fun e w' => e = .returned (.bool (decide (0 < l))) ∧ Below w.heap.size w w' := by
  by_cases h2 : 0 < l
  all_goals
    go_enter Tryd.func47, Tryd.ntmps47
    go_wp2
    go_returns
    exact ⟨by simp [h2], by go_grown⟩
theorem sIsPoint_any : Calls Tryd.prog 49 #[.agg #[.string u, .int .i64 l, .int .i64 c, .int .i64 o, .int .i64 l2, .int .i64 c2, .int .i64 o2]] w fun e w' => e = .returned (.bool (l == l2 && (c == c2 && o == o2))) ∧ Below w.heap.size w w' := by
  go_enter Tryd.func49, Tryd.ntmps49
  go_wp2
  all_goals
    go_returns
    exact ⟨ret_bool (by simp [*]), by go_grown⟩
theorem isZero_no (h1 : ¬ (l = 1 ∧ c = 1)) (h2 : 0 < l ∨ ¬ o = 0) : Calls Tryd.prog 45 #[.agg #[.int .i64 l, .int .i64 c, .int .i64 o]] w fun e w' => e = .returned (.bool false) ∧ Below w.heap.size w w' := by
  by_cases a1 : l = 1 <;> by_cases a2 : c = 1 <;> by_cases a3 : 0 < l <;> by_cases a4 : o = 0
  all_goals first
    | (exfalso; omega)
    | (go_enter Tryd.func45, Tryd.ntmps45
       go_wp2
       go_returns
       exact ⟨by first | rfl | exact ret_bool (beq_eq_false_iff_ne.2 (by assumption)), by go_grown⟩)
end
/-- What it leaves. -/
def TxtRes (w : World) (t : List UInt8) (e : Ending) (w' : World) : Prop := e = .returned (.string (toB t)) ∧ Below w.heap.size w w'
/-- A call that answers a bool. -/
abbrev SaysTo (f : FuncId) (args : Array Value) (b : Bool) : Prop := Hid (∀ W, Calls Tryd.prog f args W fun e w' => e = .returned (.bool b) ∧ Below W.heap.size W w')

theorem ZS.start {w w1 : World} {cs : Array Value} {v : Value} {l : List UInt8} (hb : Byt (w.heap.size + 1) w1 v l) (hn : Nb (w.heap.size + 1) (w.alloc (.cells cs 63)) w1) (hT : Tab10 w.heap.size w) : ZS w.heap.size w w1 cs v l := by
  have hlow : Below w.heap.size w w1 := ((Below.refl _ w).alloc (Nat.le_refl _) _).trans (hn.1.mono (Nat.le_succ _))
  exact ⟨(Blk.new w _ cs).below hn.1 (Nat.lt_succ_self _), hb, hlow, fun w' h => hT w' (hlow.trans (h.mono (Nat.le_succ _)))⟩
theorem itoa_len20 {n : Nat} (h : n ≤ 1000000000) : (Lib.itoa (n : Int)).length ≤ 20 := by rw [Lib.itoa_nonneg]; exact dec_len n (by omega)

set_option maxHeartbeats 8000000 in
set_option maxRecDepth 100000 in
/-- uri:L:C#O -/
theorem zs_fp (u : ByteArray) (L C O : Nat) (L2 C2 O2 : Int) (p : Bool) (hu0 : 1 ≤ u.size) (hu : u.size ≤ 1000) (hL : L ≤ 1000000) (hC : C ≤ 1000000) (hO : O ≤ 1000000)
    (HV : SaysTo 42 #[.agg #[.string u, .int .i64 L, .int .i64 C, .int .i64 O, .int .i64 L2, .int .i64 C2, .int .i64 O2]] true) (HO : SaysTo 46 #[.agg #[.string u, .int .i64 L, .int .i64 C, .int .i64 O, .int .i64 L2, .int .i64 C2, .int .i64 O2]] true) (HP : SaysTo 47 #[.agg #[.string u, .int .i64 L, .int .i64 C, .int .i64 O, .int .i64 L2, .int .i64 C2, .int .i64 O2]] true) (HQ : SaysTo 49 #[.agg #[.string u, .int .i64 L, .int .i64 C, .int .i64 O, .int .i64 L2, .int .i64 C2, .int .i64 O2]] true) (w : World) (hT : Tab10 w.heap.size w) :
    Calls Tryd.prog 29 #[.agg #[.string u, .int .i64 L, .int .i64 C, .int .i64 O, .int .i64 L2, .int .i64 C2, .int .i64 O2], .bool true, .bool p] w (TxtRes w (u.data.toList ++ [58] ++ Lib.itoa (L : Int) ++ [58] ++ Lib.itoa (C : Int) ++ [35] ++ Lib.itoa (O : Int))) := by
  have eL := itoa_len20 (n := L) (by omega)
  have eC := itoa_len20 (n := C) (by omega)
  have eO := itoa_len20 (n := O) (by omega)
  have hd : u.data.toList.length = u.size := by rw [Array.length_toList]; rfl
  have HT := hide hT
  clear hT
  go_enter Tryd.func29, Tryd.ntmps29
  go_wp2_with (at_builtin; refine wpl_str rfl _ _ rfl (w.heap.size + 1) _ [] rfl (Byt.nil (by simp)) u rfl (by simp; omega) ?_)
  intro v0 w0 hv0 hn0 hkp
  clear hkp
  have z0 := ZS.start hv0 hn0 HT.out
  obtain ⟨l0, hl0⟩ : ∃ x, u.data.toList = x := ⟨_, rfl⟩
  rw [hl0] at z0 hd
  have EQ0 := hide (fun (_ : World) => hl0)
  have f0 := z0.s.seven
  have Z0 := hide z0
  clear hv0 hn0 z0 hl0 HT
  go_wp2_with fail
  refine (HV.out _).mono ?_
  rintro e w1 ⟨rfl, hb⟩
  have Z1 := hide (Z0.out.kept hb)
  have f1 := Z1.out.s.seven
  clear hb Z0 f0
  go_wp2_with fail
  refine (HO.out _).mono ?_
  rintro e w2 ⟨rfl, hb⟩
  have Z2 := hide (Z1.out.kept hb)
  have f2 := Z2.out.s.seven
  clear hb Z1 f1
  go_wp2_with fail
  refine (HP.out _).mono ?_
  rintro e w3 ⟨rfl, hb⟩
  have Z3 := hide (Z2.out.kept hb)
  have f3 := Z3.out.s.seven
  clear hb Z2 f2
  go_wp2_with (at_builtin; refine wpl_str rfl _ _ rfl (w.heap.size + 1) _ l0 rfl Z3.out.b ⟨#[58]⟩ rfl (by show l0.length + 1 ≤ _; omega) ?_)
  intro v4 w4 hv hn hkp
  clear hkp
  have z4 := Z3.out.nb (show Byt _ _ _ (l0 ++ [58]) from hv) hn
  obtain ⟨l1, hl1⟩ : ∃ x, l0 ++ [58] = x := ⟨_, rfl⟩
  rw [hl1] at z4
  have hd1 : l1.length ≤ 1000 + 1 := by rw [← hl1]; simp only [List.length_append, List.length_singleton]; omega
  have EQ1 := hide (fun (_ : World) => hl1)
  have f4 := z4.s.seven
  have Z4 := hide z4
  clear hv hn z4 hl1 Z3 f3
  go_wp2_with fail
  refine (appInt_any (w.heap.size + 1) L (by omega) _ l1 _ Z4.out.b (by omega) Z4.out.tab).mono ?_
  rintro e w5 ⟨v5, rfl, hv, hn, -⟩
  have z5 := Z4.out.nb hv hn
  obtain ⟨l2, hl2⟩ : ∃ x, l1 ++ Lib.itoa (L : Int) = x := ⟨_, rfl⟩
  rw [hl2] at z5
  have hd2 : l2.length ≤ 1000 + 21 := by rw [← hl2]; simp only [List.length_append, List.length_singleton]; omega
  have EQ2 := hide (fun (_ : World) => hl2)
  have f5 := z5.s.seven
  have Z5 := hide z5
  clear hv hn z5 hl2 Z4 f4
  go_wp2_with fail
  have hB : w.heap.size + 1 ≤ w5.heap.size := Z5.out.b.2
  go_region_held3 (fun w' => (∀ b o, b < w.heap.size + 1 → w'.cell? ⟨b, o, none⟩ = w5.cell? ⟨b, o, none⟩) ∧ w.heap.size + 1 ≤ w'.heap.size ∧ Below (w.heap.size + 1) w5 w')
    (first
      | (with_reducible exact SB.allocDrew hB)
      | (with_reducible exact SB.start hB)
      | (with_reducible exact SB.alloc (SB.start hB) _)
      | ((with_reducible refine SB.of ?_ ?_) <;> assumption))
    (first
      | (refine step_one rfl _ _ rfl (w.heap.size + 1) _ l2 (by rfl) (Byt.drew (Byt.alloc Z5.out.b _)) _ _ 58 (by rfl) (by go_simp; done) (by omega) ?_; intro vx5 wx5 hvx5 hnx hkp; clear hkp; have HNX5 := hide (Nb.trans (Nb.drew (Nb.alloc (Nb.refl _ w5) hB _)) hnx); have hx1 := HNX5.out.1; have hx0 := hvx5.2; clear hnx)
      | (go_at_call 48; refine (appInt_any (w.heap.size + 1) C (by omega) _ (l2 ++ [58]) _ (by assumption) (by simp only [List.length_append, List.length_singleton]; omega) (Z5.out.tab.on HNX5.out.1)).mono ?_; rintro e w6 ⟨vy5, rfl, hvy5, hny, -⟩; have HNY5 := hide (HNX5.out.trans hny); have hy1 := HNY5.out.1; have hy0 := hvy5.2; clear hny))
  rename_i hHH
  clear hHH
  have z6 := Z5.out.nb hvy5 HNY5.out
  obtain ⟨l3, hl3⟩ : ∃ x, l2 ++ [58] ++ Lib.itoa (C : Int) = x := ⟨_, rfl⟩
  rw [hl3] at z6
  have hd3 : l3.length ≤ 1000 + 42 := by rw [← hl3]; simp only [List.length_append, List.length_singleton]; omega
  have EQ3 := hide (fun (_ : World) => hl3)
  have f6 := z6.s.seven
  have Z6 := hide z6
  clear hB HNX5 HNY5 hvx5 hvy5 hx1 hx0 hy1 hy0 z6 hl3 Z5 f5
  go_wp2_with fail
  have hB : w.heap.size + 1 ≤ w6.heap.size := Z6.out.b.2
  go_region_held3 (fun w' => (∀ b o, b < w.heap.size + 1 → w'.cell? ⟨b, o, none⟩ = w6.cell? ⟨b, o, none⟩) ∧ w.heap.size + 1 ≤ w'.heap.size ∧ Below (w.heap.size + 1) w6 w')
    (first
      | (with_reducible exact SB.allocDrew hB)
      | (with_reducible exact SB.start hB)
      | (with_reducible exact SB.alloc (SB.start hB) _)
      | ((with_reducible refine SB.of ?_ ?_) <;> assumption))
    (first
      | (refine step_one rfl _ _ rfl (w.heap.size + 1) _ l3 (by rfl) (Byt.drew (Byt.alloc Z6.out.b _)) _ _ 35 (by rfl) (by go_simp; done) (by omega) ?_; intro vx6 wx6 hvx6 hnx hkp; clear hkp; have HNX6 := hide (Nb.trans (Nb.drew (Nb.alloc (Nb.refl _ w6) hB _)) hnx); have hx1 := HNX6.out.1; have hx0 := hvx6.2; clear hnx)
      | (go_at_call 48; refine (appInt_any (w.heap.size + 1) O (by omega) _ (l3 ++ [35]) _ (by assumption) (by simp only [List.length_append, List.length_singleton]; omega) (Z6.out.tab.on HNX6.out.1)).mono ?_; rintro e w7 ⟨vy6, rfl, hvy6, hny, -⟩; have HNY6 := hide (HNX6.out.trans hny); have hy1 := HNY6.out.1; have hy0 := hvy6.2; clear hny))
  rename_i hHH
  clear hHH
  have z7 := Z6.out.nb hvy6 HNY6.out
  obtain ⟨l4, hl4⟩ : ∃ x, l3 ++ [35] ++ Lib.itoa (O : Int) = x := ⟨_, rfl⟩
  rw [hl4] at z7
  have hd4 : l4.length ≤ 1000 + 63 := by rw [← hl4]; simp only [List.length_append, List.length_singleton]; omega
  have EQ4 := hide (fun (_ : World) => hl4)
  have f7 := z7.s.seven
  have Z7 := hide z7
  clear hB HNX6 HNY6 hvx6 hvy6 hx1 hx0 hy1 hy0 z7 hl4 Z6 f6
  go_wp2_with fail
  refine (HQ.out _).mono ?_
  rintro e w8 ⟨rfl, hb⟩
  have Z8 := hide (Z7.out.kept hb)
  have f8 := Z8.out.s.seven
  clear hb Z7 f7
  have hpos : 0 < l4.length := by
    have q1 := EQ1.out w
    have q2 := EQ2.out w
    have q3 := EQ3.out w
    have q4 := EQ4.out w
    rw [← q4]; simp only [List.length_append]; (try (rw [← q3]; simp only [List.length_append])); (try (rw [← q2]; simp only [List.length_append])); (try (rw [← q1]; simp only [List.length_append])); omega
  have hcv := byt_string Z8.out.b hpos
  go_wp2
  go_ret
  have q0 := EQ0.out w
  subst q0
  have q1 := EQ1.out w
  subst q1
  have q2 := EQ2.out w
  subst q2
  have q3 := EQ3.out w
  subst q3
  have q4 := EQ4.out w
  subst q4
  exact ⟨rfl, Z8.out.low⟩
set_option maxHeartbeats 8000000 in
set_option maxRecDepth 100000 in
/-- uri:L:C#O-L2:C2#O2 -/
theorem zs_fs (u : ByteArray) (L C O L2 C2 O2 : Nat) (p : Bool) (hu0 : 1 ≤ u.size) (hu : u.size ≤ 1000) (hL : L ≤ 1000000) (hC : C ≤ 1000000) (hO : O ≤ 1000000) (hL2 : L2 ≤ 1000000) (hC2 : C2 ≤ 1000000) (hO2 : O2 ≤ 1000000)
    (HV : SaysTo 42 #[.agg #[.string u, .int .i64 L, .int .i64 C, .int .i64 O, .int .i64 L2, .int .i64 C2, .int .i64 O2]] true) (HO : SaysTo 46 #[.agg #[.string u, .int .i64 L, .int .i64 C, .int .i64 O, .int .i64 L2, .int .i64 C2, .int .i64 O2]] true) (HP : SaysTo 47 #[.agg #[.string u, .int .i64 L, .int .i64 C, .int .i64 O, .int .i64 L2, .int .i64 C2, .int .i64 O2]] true) (HQ : SaysTo 49 #[.agg #[.string u, .int .i64 L, .int .i64 C, .int .i64 O, .int .i64 L2, .int .i64 C2, .int .i64 O2]] false) (w : World) (hT : Tab10 w.heap.size w) :
    Calls Tryd.prog 29 #[.agg #[.string u, .int .i64 L, .int .i64 C, .int .i64 O, .int .i64 L2, .int .i64 C2, .int .i64 O2], .bool true, .bool p] w (TxtRes w (u.data.toList ++ [58] ++ Lib.itoa (L : Int) ++ [58] ++ Lib.itoa (C : Int) ++ [35] ++ Lib.itoa (O : Int) ++ [45] ++ Lib.itoa (L2 : Int) ++ [58] ++ Lib.itoa (C2 : Int) ++ [35] ++ Lib.itoa (O2 : Int))) := by
  have eL := itoa_len20 (n := L) (by omega)
  have eC := itoa_len20 (n := C) (by omega)
  have eO := itoa_len20 (n := O) (by omega)
  have eL2 := itoa_len20 (n := L2) (by omega)
  have eC2 := itoa_len20 (n := C2) (by omega)
  have eO2 := itoa_len20 (n := O2) (by omega)
  have hd : u.data.toList.length = u.size := by rw [Array.length_toList]; rfl
  have HT := hide hT
  clear hT
  go_enter Tryd.func29, Tryd.ntmps29
  go_wp2_with (at_builtin; refine wpl_str rfl _ _ rfl (w.heap.size + 1) _ [] rfl (Byt.nil (by simp)) u rfl (by simp; omega) ?_)
  intro v0 w0 hv0 hn0 hkp
  clear hkp
  have z0 := ZS.start hv0 hn0 HT.out
  obtain ⟨l0, hl0⟩ : ∃ x, u.data.toList = x := ⟨_, rfl⟩
  rw [hl0] at z0 hd
  have EQ0 := hide (fun (_ : World) => hl0)
  have f0 := z0.s.seven
  have Z0 := hide z0
  clear hv0 hn0 z0 hl0 HT
  go_wp2_with fail
  refine (HV.out _).mono ?_
  rintro e w1 ⟨rfl, hb⟩
  have Z1 := hide (Z0.out.kept hb)
  have f1 := Z1.out.s.seven
  clear hb Z0 f0
  go_wp2_with fail
  refine (HO.out _).mono ?_
  rintro e w2 ⟨rfl, hb⟩
  have Z2 := hide (Z1.out.kept hb)
  have f2 := Z2.out.s.seven
  clear hb Z1 f1
  go_wp2_with fail
  refine (HP.out _).mono ?_
  rintro e w3 ⟨rfl, hb⟩
  have Z3 := hide (Z2.out.kept hb)
  have f3 := Z3.out.s.seven
  clear hb Z2 f2
  go_wp2_with (at_builtin; refine wpl_str rfl _ _ rfl (w.heap.size + 1) _ l0 rfl Z3.out.b ⟨#[58]⟩ rfl (by show l0.length + 1 ≤ _; omega) ?_)
  intro v4 w4 hv hn hkp
  clear hkp
  have z4 := Z3.out.nb (show Byt _ _ _ (l0 ++ [58]) from hv) hn
  obtain ⟨l1, hl1⟩ : ∃ x, l0 ++ [58] = x := ⟨_, rfl⟩
  rw [hl1] at z4
  have hd1 : l1.length ≤ 1000 + 1 := by rw [← hl1]; simp only [List.length_append, List.length_singleton]; omega
  have EQ1 := hide (fun (_ : World) => hl1)
  have f4 := z4.s.seven
  have Z4 := hide z4
  clear hv hn z4 hl1 Z3 f3
  go_wp2_with fail
  refine (appInt_any (w.heap.size + 1) L (by omega) _ l1 _ Z4.out.b (by omega) Z4.out.tab).mono ?_
  rintro e w5 ⟨v5, rfl, hv, hn, -⟩
  have z5 := Z4.out.nb hv hn
  obtain ⟨l2, hl2⟩ : ∃ x, l1 ++ Lib.itoa (L : Int) = x := ⟨_, rfl⟩
  rw [hl2] at z5
  have hd2 : l2.length ≤ 1000 + 21 := by rw [← hl2]; simp only [List.length_append, List.length_singleton]; omega
  have EQ2 := hide (fun (_ : World) => hl2)
  have f5 := z5.s.seven
  have Z5 := hide z5
  clear hv hn z5 hl2 Z4 f4
  go_wp2_with fail
  have hB : w.heap.size + 1 ≤ w5.heap.size := Z5.out.b.2
  go_region_held3 (fun w' => (∀ b o, b < w.heap.size + 1 → w'.cell? ⟨b, o, none⟩ = w5.cell? ⟨b, o, none⟩) ∧ w.heap.size + 1 ≤ w'.heap.size ∧ Below (w.heap.size + 1) w5 w')
    (first
      | (with_reducible exact SB.allocDrew hB)
      | (with_reducible exact SB.start hB)
      | (with_reducible exact SB.alloc (SB.start hB) _)
      | ((with_reducible refine SB.of ?_ ?_) <;> assumption))
    (first
      | (refine step_one rfl _ _ rfl (w.heap.size + 1) _ l2 (by rfl) (Byt.drew (Byt.alloc Z5.out.b _)) _ _ 58 (by rfl) (by go_simp; done) (by omega) ?_; intro vx5 wx5 hvx5 hnx hkp; clear hkp; have HNX5 := hide (Nb.trans (Nb.drew (Nb.alloc (Nb.refl _ w5) hB _)) hnx); have hx1 := HNX5.out.1; have hx0 := hvx5.2; clear hnx)
      | (go_at_call 48; refine (appInt_any (w.heap.size + 1) C (by omega) _ (l2 ++ [58]) _ (by assumption) (by simp only [List.length_append, List.length_singleton]; omega) (Z5.out.tab.on HNX5.out.1)).mono ?_; rintro e w6 ⟨vy5, rfl, hvy5, hny, -⟩; have HNY5 := hide (HNX5.out.trans hny); have hy1 := HNY5.out.1; have hy0 := hvy5.2; clear hny))
  rename_i hHH
  clear hHH
  have z6 := Z5.out.nb hvy5 HNY5.out
  obtain ⟨l3, hl3⟩ : ∃ x, l2 ++ [58] ++ Lib.itoa (C : Int) = x := ⟨_, rfl⟩
  rw [hl3] at z6
  have hd3 : l3.length ≤ 1000 + 42 := by rw [← hl3]; simp only [List.length_append, List.length_singleton]; omega
  have EQ3 := hide (fun (_ : World) => hl3)
  have f6 := z6.s.seven
  have Z6 := hide z6
  clear hB HNX5 HNY5 hvx5 hvy5 hx1 hx0 hy1 hy0 z6 hl3 Z5 f5
  go_wp2_with fail
  have hB : w.heap.size + 1 ≤ w6.heap.size := Z6.out.b.2
  go_region_held3 (fun w' => (∀ b o, b < w.heap.size + 1 → w'.cell? ⟨b, o, none⟩ = w6.cell? ⟨b, o, none⟩) ∧ w.heap.size + 1 ≤ w'.heap.size ∧ Below (w.heap.size + 1) w6 w')
    (first
      | (with_reducible exact SB.allocDrew hB)
      | (with_reducible exact SB.start hB)
      | (with_reducible exact SB.alloc (SB.start hB) _)
      | ((with_reducible refine SB.of ?_ ?_) <;> assumption))
    (first
      | (refine step_one rfl _ _ rfl (w.heap.size + 1) _ l3 (by rfl) (Byt.drew (Byt.alloc Z6.out.b _)) _ _ 35 (by rfl) (by go_simp; done) (by omega) ?_; intro vx6 wx6 hvx6 hnx hkp; clear hkp; have HNX6 := hide (Nb.trans (Nb.drew (Nb.alloc (Nb.refl _ w6) hB _)) hnx); have hx1 := HNX6.out.1; have hx0 := hvx6.2; clear hnx)
      | (go_at_call 48; refine (appInt_any (w.heap.size + 1) O (by omega) _ (l3 ++ [35]) _ (by assumption) (by simp only [List.length_append, List.length_singleton]; omega) (Z6.out.tab.on HNX6.out.1)).mono ?_; rintro e w7 ⟨vy6, rfl, hvy6, hny, -⟩; have HNY6 := hide (HNX6.out.trans hny); have hy1 := HNY6.out.1; have hy0 := hvy6.2; clear hny))
  rename_i hHH
  clear hHH
  have z7 := Z6.out.nb hvy6 HNY6.out
  obtain ⟨l4, hl4⟩ : ∃ x, l3 ++ [35] ++ Lib.itoa (O : Int) = x := ⟨_, rfl⟩
  rw [hl4] at z7
  have hd4 : l4.length ≤ 1000 + 63 := by rw [← hl4]; simp only [List.length_append, List.length_singleton]; omega
  have EQ4 := hide (fun (_ : World) => hl4)
  have f7 := z7.s.seven
  have Z7 := hide z7
  clear hB HNX6 HNY6 hvx6 hvy6 hx1 hx0 hy1 hy0 z7 hl4 Z6 f6
  go_wp2_with fail
  refine (HQ.out _).mono ?_
  rintro e w8 ⟨rfl, hb⟩
  have Z8 := hide (Z7.out.kept hb)
  have f8 := Z8.out.s.seven
  clear hb Z7 f7
  go_wp2_with (at_builtin; refine wpl_str rfl _ _ rfl (w.heap.size + 1) _ l4 rfl Z8.out.b ⟨#[45]⟩ rfl (by show l4.length + 1 ≤ _; omega) ?_)
  intro v9 w9 hv hn hkp
  clear hkp
  have z9 := Z8.out.nb (show Byt _ _ _ (l4 ++ [45]) from hv) hn
  obtain ⟨l5, hl5⟩ : ∃ x, l4 ++ [45] = x := ⟨_, rfl⟩
  rw [hl5] at z9
  have hd5 : l5.length ≤ 1000 + 64 := by rw [← hl5]; simp only [List.length_append, List.length_singleton]; omega
  have EQ5 := hide (fun (_ : World) => hl5)
  have f9 := z9.s.seven
  have Z9 := hide z9
  clear hv hn z9 hl5 Z8 f8
  go_wp2_with fail
  refine (appInt_any (w.heap.size + 1) L2 (by omega) _ l5 _ Z9.out.b (by omega) Z9.out.tab).mono ?_
  rintro e w10 ⟨v10, rfl, hv, hn, -⟩
  have z10 := Z9.out.nb hv hn
  obtain ⟨l6, hl6⟩ : ∃ x, l5 ++ Lib.itoa (L2 : Int) = x := ⟨_, rfl⟩
  rw [hl6] at z10
  have hd6 : l6.length ≤ 1000 + 84 := by rw [← hl6]; simp only [List.length_append, List.length_singleton]; omega
  have EQ6 := hide (fun (_ : World) => hl6)
  have f10 := z10.s.seven
  have Z10 := hide z10
  clear hv hn z10 hl6 Z9 f9
  go_wp2_with (at_builtin; refine wpl_str rfl _ _ rfl (w.heap.size + 1) _ l6 rfl Z10.out.b ⟨#[58]⟩ rfl (by show l6.length + 1 ≤ _; omega) ?_)
  intro v11 w11 hv hn hkp
  clear hkp
  have z11 := Z10.out.nb (show Byt _ _ _ (l6 ++ [58]) from hv) hn
  obtain ⟨l7, hl7⟩ : ∃ x, l6 ++ [58] = x := ⟨_, rfl⟩
  rw [hl7] at z11
  have hd7 : l7.length ≤ 1000 + 85 := by rw [← hl7]; simp only [List.length_append, List.length_singleton]; omega
  have EQ7 := hide (fun (_ : World) => hl7)
  have f11 := z11.s.seven
  have Z11 := hide z11
  clear hv hn z11 hl7 Z10 f10
  go_wp2_with fail
  refine (appInt_any (w.heap.size + 1) C2 (by omega) _ l7 _ Z11.out.b (by omega) Z11.out.tab).mono ?_
  rintro e w12 ⟨v12, rfl, hv, hn, -⟩
  have z12 := Z11.out.nb hv hn
  obtain ⟨l8, hl8⟩ : ∃ x, l7 ++ Lib.itoa (C2 : Int) = x := ⟨_, rfl⟩
  rw [hl8] at z12
  have hd8 : l8.length ≤ 1000 + 105 := by rw [← hl8]; simp only [List.length_append, List.length_singleton]; omega
  have EQ8 := hide (fun (_ : World) => hl8)
  have f12 := z12.s.seven
  have Z12 := hide z12
  clear hv hn z12 hl8 Z11 f11
  go_wp2_with fail
  have hB : w.heap.size + 1 ≤ w12.heap.size := Z12.out.b.2
  go_region_held3 (fun w' => (∀ b o, b < w.heap.size + 1 → w'.cell? ⟨b, o, none⟩ = w12.cell? ⟨b, o, none⟩) ∧ w.heap.size + 1 ≤ w'.heap.size ∧ Below (w.heap.size + 1) w12 w')
    (first
      | (with_reducible exact SB.allocDrew hB)
      | (with_reducible exact SB.start hB)
      | (with_reducible exact SB.alloc (SB.start hB) _)
      | ((with_reducible refine SB.of ?_ ?_) <;> assumption))
    (first
      | (refine step_one rfl _ _ rfl (w.heap.size + 1) _ l8 (by rfl) (Byt.drew (Byt.alloc Z12.out.b _)) _ _ 35 (by rfl) (by go_simp; done) (by omega) ?_; intro vx12 wx12 hvx12 hnx hkp; clear hkp; have HNX12 := hide (Nb.trans (Nb.drew (Nb.alloc (Nb.refl _ w12) hB _)) hnx); have hx1 := HNX12.out.1; have hx0 := hvx12.2; clear hnx)
      | (go_at_call 48; refine (appInt_any (w.heap.size + 1) O2 (by omega) _ (l8 ++ [35]) _ (by assumption) (by simp only [List.length_append, List.length_singleton]; omega) (Z12.out.tab.on HNX12.out.1)).mono ?_; rintro e w13 ⟨vy12, rfl, hvy12, hny, -⟩; have HNY12 := hide (HNX12.out.trans hny); have hy1 := HNY12.out.1; have hy0 := hvy12.2; clear hny))
  rename_i hHH
  clear hHH
  have z13 := Z12.out.nb hvy12 HNY12.out
  obtain ⟨l9, hl9⟩ : ∃ x, l8 ++ [35] ++ Lib.itoa (O2 : Int) = x := ⟨_, rfl⟩
  rw [hl9] at z13
  have hd9 : l9.length ≤ 1000 + 126 := by rw [← hl9]; simp only [List.length_append, List.length_singleton]; omega
  have EQ9 := hide (fun (_ : World) => hl9)
  have f13 := z13.s.seven
  have Z13 := hide z13
  clear hB HNX12 HNY12 hvx12 hvy12 hx1 hx0 hy1 hy0 z13 hl9 Z12 f12
  have hpos : 0 < l9.length := by
    have q1 := EQ1.out w
    have q2 := EQ2.out w
    have q3 := EQ3.out w
    have q4 := EQ4.out w
    have q5 := EQ5.out w
    have q6 := EQ6.out w
    have q7 := EQ7.out w
    have q8 := EQ8.out w
    have q9 := EQ9.out w
    rw [← q9]; simp only [List.length_append]; (try (rw [← q8]; simp only [List.length_append])); (try (rw [← q7]; simp only [List.length_append])); (try (rw [← q6]; simp only [List.length_append])); (try (rw [← q5]; simp only [List.length_append])); (try (rw [← q4]; simp only [List.length_append])); (try (rw [← q3]; simp only [List.length_append])); (try (rw [← q2]; simp only [List.length_append])); (try (rw [← q1]; simp only [List.length_append])); omega
  have hcv := byt_string Z13.out.b hpos
  go_wp2
  go_ret
  have q0 := EQ0.out w
  subst q0
  have q1 := EQ1.out w
  subst q1
  have q2 := EQ2.out w
  subst q2
  have q3 := EQ3.out w
  subst q3
  have q4 := EQ4.out w
  subst q4
  have q5 := EQ5.out w
  subst q5
  have q6 := EQ6.out w
  subst q6
  have q7 := EQ7.out w
  subst q7
  have q8 := EQ8.out w
  subst q8
  have q9 := EQ9.out w
  subst q9
  exact ⟨rfl, Z13.out.low⟩
set_option maxHeartbeats 8000000 in
set_option maxRecDepth 100000 in
/-- uri:#O -/
theorem zs_op (u : ByteArray) (O : Nat) (L C L2 C2 O2 : Int) (hu0 : 1 ≤ u.size) (hu : u.size ≤ 1000) (hO : O ≤ 1000000)
    (HV : SaysTo 42 #[.agg #[.string u, .int .i64 L, .int .i64 C, .int .i64 O, .int .i64 L2, .int .i64 C2, .int .i64 O2]] true) (HZ : SaysTo 45 #[.agg #[.int .i64 L, .int .i64 C, .int .i64 O]] false) (HO : SaysTo 46 #[.agg #[.string u, .int .i64 L, .int .i64 C, .int .i64 O, .int .i64 L2, .int .i64 C2, .int .i64 O2]] true) (HP : SaysTo 47 #[.agg #[.string u, .int .i64 L, .int .i64 C, .int .i64 O, .int .i64 L2, .int .i64 C2, .int .i64 O2]] true) (HQ : SaysTo 49 #[.agg #[.string u, .int .i64 L, .int .i64 C, .int .i64 O, .int .i64 L2, .int .i64 C2, .int .i64 O2]] true) (w : World) (hT : Tab10 w.heap.size w) :
    Calls Tryd.prog 29 #[.agg #[.string u, .int .i64 L, .int .i64 C, .int .i64 O, .int .i64 L2, .int .i64 C2, .int .i64 O2], .bool false, .bool true] w (TxtRes w (u.data.toList ++ [58] ++ [35] ++ Lib.itoa (O : Int))) := by
  have eO := itoa_len20 (n := O) (by omega)
  have hd : u.data.toList.length = u.size := by rw [Array.length_toList]; rfl
  have HT := hide hT
  clear hT
  go_enter Tryd.func29, Tryd.ntmps29
  go_wp2_with (at_builtin; refine wpl_str rfl _ _ rfl (w.heap.size + 1) _ [] rfl (Byt.nil (by simp)) u rfl (by simp; omega) ?_)
  intro v0 w0 hv0 hn0 hkp
  clear hkp
  have z0 := ZS.start hv0 hn0 HT.out
  obtain ⟨l0, hl0⟩ : ∃ x, u.data.toList = x := ⟨_, rfl⟩
  rw [hl0] at z0 hd
  have EQ0 := hide (fun (_ : World) => hl0)
  have f0 := z0.s.seven
  have Z0 := hide z0
  clear hv0 hn0 z0 hl0 HT
  go_wp2_with fail
  refine (HV.out _).mono ?_
  rintro e w1 ⟨rfl, hb⟩
  have Z1 := hide (Z0.out.kept hb)
  have f1 := Z1.out.s.seven
  clear hb Z0 f0
  go_wp2_with fail
  refine (HZ.out _).mono ?_
  rintro e w2 ⟨rfl, hb⟩
  have Z2 := hide (Z1.out.kept hb)
  have f2 := Z2.out.s.seven
  clear hb Z1 f1
  go_wp2_with fail
  refine (HO.out _).mono ?_
  rintro e w3 ⟨rfl, hb⟩
  have Z3 := hide (Z2.out.kept hb)
  have f3 := Z3.out.s.seven
  clear hb Z2 f2
  go_wp2_with fail
  refine (HP.out _).mono ?_
  rintro e w4 ⟨rfl, hb⟩
  have Z4 := hide (Z3.out.kept hb)
  have f4 := Z4.out.s.seven
  clear hb Z3 f3
  go_wp2_with (at_builtin; refine wpl_str rfl _ _ rfl (w.heap.size + 1) _ l0 rfl Z4.out.b ⟨#[58]⟩ rfl (by show l0.length + 1 ≤ _; omega) ?_)
  intro v5 w5 hv hn hkp
  clear hkp
  have z5 := Z4.out.nb (show Byt _ _ _ (l0 ++ [58]) from hv) hn
  obtain ⟨l1, hl1⟩ : ∃ x, l0 ++ [58] = x := ⟨_, rfl⟩
  rw [hl1] at z5
  have hd1 : l1.length ≤ 1000 + 1 := by rw [← hl1]; simp only [List.length_append, List.length_singleton]; omega
  have EQ1 := hide (fun (_ : World) => hl1)
  have f5 := z5.s.seven
  have Z5 := hide z5
  clear hv hn z5 hl1 Z4 f4
  go_wp2_with fail
  have hB : w.heap.size + 1 ≤ w5.heap.size := Z5.out.b.2
  go_region_held3 (fun w' => (∀ b o, b < w.heap.size + 1 → w'.cell? ⟨b, o, none⟩ = w5.cell? ⟨b, o, none⟩) ∧ w.heap.size + 1 ≤ w'.heap.size ∧ Below (w.heap.size + 1) w5 w')
    (first
      | (with_reducible exact SB.allocDrew hB)
      | (with_reducible exact SB.start hB)
      | (with_reducible exact SB.alloc (SB.start hB) _)
      | ((with_reducible refine SB.of ?_ ?_) <;> assumption))
    (first
      | (refine step_one rfl _ _ rfl (w.heap.size + 1) _ l1 (by rfl) (Byt.drew (Byt.alloc Z5.out.b _)) _ _ 35 (by rfl) (by go_simp; done) (by omega) ?_; intro vx5 wx5 hvx5 hnx hkp; clear hkp; have HNX5 := hide (Nb.trans (Nb.drew (Nb.alloc (Nb.refl _ w5) hB _)) hnx); have hx1 := HNX5.out.1; have hx0 := hvx5.2; clear hnx)
      | (go_at_call 48; refine (appInt_any (w.heap.size + 1) O (by omega) _ (l1 ++ [35]) _ (by assumption) (by simp only [List.length_append, List.length_singleton]; omega) (Z5.out.tab.on HNX5.out.1)).mono ?_; rintro e w6 ⟨vy5, rfl, hvy5, hny, -⟩; have HNY5 := hide (HNX5.out.trans hny); have hy1 := HNY5.out.1; have hy0 := hvy5.2; clear hny))
  rename_i hHH
  clear hHH
  have z6 := Z5.out.nb hvy5 HNY5.out
  obtain ⟨l2, hl2⟩ : ∃ x, l1 ++ [35] ++ Lib.itoa (O : Int) = x := ⟨_, rfl⟩
  rw [hl2] at z6
  have hd2 : l2.length ≤ 1000 + 22 := by rw [← hl2]; simp only [List.length_append, List.length_singleton]; omega
  have EQ2 := hide (fun (_ : World) => hl2)
  have f6 := z6.s.seven
  have Z6 := hide z6
  clear hB HNX5 HNY5 hvx5 hvy5 hx1 hx0 hy1 hy0 z6 hl2 Z5 f5
  go_wp2_with fail
  refine (HQ.out _).mono ?_
  rintro e w7 ⟨rfl, hb⟩
  have Z7 := hide (Z6.out.kept hb)
  have f7 := Z7.out.s.seven
  clear hb Z6 f6
  have hpos : 0 < l2.length := by
    have q1 := EQ1.out w
    have q2 := EQ2.out w
    rw [← q2]; simp only [List.length_append]; (try (rw [← q1]; simp only [List.length_append])); omega
  have hcv := byt_string Z7.out.b hpos
  go_wp2
  go_ret
  have q0 := EQ0.out w
  subst q0
  have q1 := EQ1.out w
  subst q1
  have q2 := EQ2.out w
  subst q2
  exact ⟨rfl, Z7.out.low⟩
set_option maxHeartbeats 8000000 in
set_option maxRecDepth 100000 in
/-- uri:#O-#O2 -/
theorem zs_os (u : ByteArray) (O O2 : Nat) (L C L2 C2 : Int) (hu0 : 1 ≤ u.size) (hu : u.size ≤ 1000) (hO : O ≤ 1000000) (hO2 : O2 ≤ 1000000)
    (HV : SaysTo 42 #[.agg #[.string u, .int .i64 L, .int .i64 C, .int .i64 O, .int .i64 L2, .int .i64 C2, .int .i64 O2]] true) (HZ : SaysTo 45 #[.agg #[.int .i64 L, .int .i64 C, .int .i64 O]] false) (HO : SaysTo 46 #[.agg #[.string u, .int .i64 L, .int .i64 C, .int .i64 O, .int .i64 L2, .int .i64 C2, .int .i64 O2]] true) (HP : SaysTo 47 #[.agg #[.string u, .int .i64 L, .int .i64 C, .int .i64 O, .int .i64 L2, .int .i64 C2, .int .i64 O2]] true) (HQ : SaysTo 49 #[.agg #[.string u, .int .i64 L, .int .i64 C, .int .i64 O, .int .i64 L2, .int .i64 C2, .int .i64 O2]] false) (w : World) (hT : Tab10 w.heap.size w) :
    Calls Tryd.prog 29 #[.agg #[.string u, .int .i64 L, .int .i64 C, .int .i64 O, .int .i64 L2, .int .i64 C2, .int .i64 O2], .bool false, .bool true] w (TxtRes w (u.data.toList ++ [58] ++ [35] ++ Lib.itoa (O : Int) ++ [45] ++ [35] ++ Lib.itoa (O2 : Int))) := by
  have eO := itoa_len20 (n := O) (by omega)
  have eO2 := itoa_len20 (n := O2) (by omega)
  have hd : u.data.toList.length = u.size := by rw [Array.length_toList]; rfl
  have HT := hide hT
  clear hT
  go_enter Tryd.func29, Tryd.ntmps29
  go_wp2_with (at_builtin; refine wpl_str rfl _ _ rfl (w.heap.size + 1) _ [] rfl (Byt.nil (by simp)) u rfl (by simp; omega) ?_)
  intro v0 w0 hv0 hn0 hkp
  clear hkp
  have z0 := ZS.start hv0 hn0 HT.out
  obtain ⟨l0, hl0⟩ : ∃ x, u.data.toList = x := ⟨_, rfl⟩
  rw [hl0] at z0 hd
  have EQ0 := hide (fun (_ : World) => hl0)
  have f0 := z0.s.seven
  have Z0 := hide z0
  clear hv0 hn0 z0 hl0 HT
  go_wp2_with fail
  refine (HV.out _).mono ?_
  rintro e w1 ⟨rfl, hb⟩
  have Z1 := hide (Z0.out.kept hb)
  have f1 := Z1.out.s.seven
  clear hb Z0 f0
  go_wp2_with fail
  refine (HZ.out _).mono ?_
  rintro e w2 ⟨rfl, hb⟩
  have Z2 := hide (Z1.out.kept hb)
  have f2 := Z2.out.s.seven
  clear hb Z1 f1
  go_wp2_with fail
  refine (HO.out _).mono ?_
  rintro e w3 ⟨rfl, hb⟩
  have Z3 := hide (Z2.out.kept hb)
  have f3 := Z3.out.s.seven
  clear hb Z2 f2
  go_wp2_with fail
  refine (HP.out _).mono ?_
  rintro e w4 ⟨rfl, hb⟩
  have Z4 := hide (Z3.out.kept hb)
  have f4 := Z4.out.s.seven
  clear hb Z3 f3
  go_wp2_with (at_builtin; refine wpl_str rfl _ _ rfl (w.heap.size + 1) _ l0 rfl Z4.out.b ⟨#[58]⟩ rfl (by show l0.length + 1 ≤ _; omega) ?_)
  intro v5 w5 hv hn hkp
  clear hkp
  have z5 := Z4.out.nb (show Byt _ _ _ (l0 ++ [58]) from hv) hn
  obtain ⟨l1, hl1⟩ : ∃ x, l0 ++ [58] = x := ⟨_, rfl⟩
  rw [hl1] at z5
  have hd1 : l1.length ≤ 1000 + 1 := by rw [← hl1]; simp only [List.length_append, List.length_singleton]; omega
  have EQ1 := hide (fun (_ : World) => hl1)
  have f5 := z5.s.seven
  have Z5 := hide z5
  clear hv hn z5 hl1 Z4 f4
  go_wp2_with fail
  have hB : w.heap.size + 1 ≤ w5.heap.size := Z5.out.b.2
  go_region_held3 (fun w' => (∀ b o, b < w.heap.size + 1 → w'.cell? ⟨b, o, none⟩ = w5.cell? ⟨b, o, none⟩) ∧ w.heap.size + 1 ≤ w'.heap.size ∧ Below (w.heap.size + 1) w5 w')
    (first
      | (with_reducible exact SB.allocDrew hB)
      | (with_reducible exact SB.start hB)
      | (with_reducible exact SB.alloc (SB.start hB) _)
      | ((with_reducible refine SB.of ?_ ?_) <;> assumption))
    (first
      | (refine step_one rfl _ _ rfl (w.heap.size + 1) _ l1 (by rfl) (Byt.drew (Byt.alloc Z5.out.b _)) _ _ 35 (by rfl) (by go_simp; done) (by omega) ?_; intro vx5 wx5 hvx5 hnx hkp; clear hkp; have HNX5 := hide (Nb.trans (Nb.drew (Nb.alloc (Nb.refl _ w5) hB _)) hnx); have hx1 := HNX5.out.1; have hx0 := hvx5.2; clear hnx)
      | (go_at_call 48; refine (appInt_any (w.heap.size + 1) O (by omega) _ (l1 ++ [35]) _ (by assumption) (by simp only [List.length_append, List.length_singleton]; omega) (Z5.out.tab.on HNX5.out.1)).mono ?_; rintro e w6 ⟨vy5, rfl, hvy5, hny, -⟩; have HNY5 := hide (HNX5.out.trans hny); have hy1 := HNY5.out.1; have hy0 := hvy5.2; clear hny))
  rename_i hHH
  clear hHH
  have z6 := Z5.out.nb hvy5 HNY5.out
  obtain ⟨l2, hl2⟩ : ∃ x, l1 ++ [35] ++ Lib.itoa (O : Int) = x := ⟨_, rfl⟩
  rw [hl2] at z6
  have hd2 : l2.length ≤ 1000 + 22 := by rw [← hl2]; simp only [List.length_append, List.length_singleton]; omega
  have EQ2 := hide (fun (_ : World) => hl2)
  have f6 := z6.s.seven
  have Z6 := hide z6
  clear hB HNX5 HNY5 hvx5 hvy5 hx1 hx0 hy1 hy0 z6 hl2 Z5 f5
  go_wp2_with fail
  refine (HQ.out _).mono ?_
  rintro e w7 ⟨rfl, hb⟩
  have Z7 := hide (Z6.out.kept hb)
  have f7 := Z7.out.s.seven
  clear hb Z6 f6
  go_wp2_with (at_builtin; refine wpl_str rfl _ _ rfl (w.heap.size + 1) _ l2 rfl Z7.out.b ⟨#[45]⟩ rfl (by show l2.length + 1 ≤ _; omega) ?_)
  intro v8 w8 hv hn hkp
  clear hkp
  have z8 := Z7.out.nb (show Byt _ _ _ (l2 ++ [45]) from hv) hn
  obtain ⟨l3, hl3⟩ : ∃ x, l2 ++ [45] = x := ⟨_, rfl⟩
  rw [hl3] at z8
  have hd3 : l3.length ≤ 1000 + 23 := by rw [← hl3]; simp only [List.length_append, List.length_singleton]; omega
  have EQ3 := hide (fun (_ : World) => hl3)
  have f8 := z8.s.seven
  have Z8 := hide z8
  clear hv hn z8 hl3 Z7 f7
  go_wp2_with fail
  have hB : w.heap.size + 1 ≤ w8.heap.size := Z8.out.b.2
  go_region_held3 (fun w' => (∀ b o, b < w.heap.size + 1 → w'.cell? ⟨b, o, none⟩ = w8.cell? ⟨b, o, none⟩) ∧ w.heap.size + 1 ≤ w'.heap.size ∧ Below (w.heap.size + 1) w8 w')
    (first
      | (with_reducible exact SB.allocDrew hB)
      | (with_reducible exact SB.start hB)
      | (with_reducible exact SB.alloc (SB.start hB) _)
      | ((with_reducible refine SB.of ?_ ?_) <;> assumption))
    (first
      | (refine step_one rfl _ _ rfl (w.heap.size + 1) _ l3 (by rfl) (Byt.drew (Byt.alloc Z8.out.b _)) _ _ 35 (by rfl) (by go_simp; done) (by omega) ?_; intro vx8 wx8 hvx8 hnx hkp; clear hkp; have HNX8 := hide (Nb.trans (Nb.drew (Nb.alloc (Nb.refl _ w8) hB _)) hnx); have hx1 := HNX8.out.1; have hx0 := hvx8.2; clear hnx)
      | (go_at_call 48; refine (appInt_any (w.heap.size + 1) O2 (by omega) _ (l3 ++ [35]) _ (by assumption) (by simp only [List.length_append, List.length_singleton]; omega) (Z8.out.tab.on HNX8.out.1)).mono ?_; rintro e w9 ⟨vy8, rfl, hvy8, hny, -⟩; have HNY8 := hide (HNX8.out.trans hny); have hy1 := HNY8.out.1; have hy0 := hvy8.2; clear hny))
  rename_i hHH
  clear hHH
  have z9 := Z8.out.nb hvy8 HNY8.out
  obtain ⟨l4, hl4⟩ : ∃ x, l3 ++ [35] ++ Lib.itoa (O2 : Int) = x := ⟨_, rfl⟩
  rw [hl4] at z9
  have hd4 : l4.length ≤ 1000 + 44 := by rw [← hl4]; simp only [List.length_append, List.length_singleton]; omega
  have EQ4 := hide (fun (_ : World) => hl4)
  have f9 := z9.s.seven
  have Z9 := hide z9
  clear hB HNX8 HNY8 hvx8 hvy8 hx1 hx0 hy1 hy0 z9 hl4 Z8 f8
  have hpos : 0 < l4.length := by
    have q1 := EQ1.out w
    have q2 := EQ2.out w
    have q3 := EQ3.out w
    have q4 := EQ4.out w
    rw [← q4]; simp only [List.length_append]; (try (rw [← q3]; simp only [List.length_append])); (try (rw [← q2]; simp only [List.length_append])); (try (rw [← q1]; simp only [List.length_append])); omega
  have hcv := byt_string Z9.out.b hpos
  go_wp2
  go_ret
  have q0 := EQ0.out w
  subst q0
  have q1 := EQ1.out w
  subst q1
  have q2 := EQ2.out w
  subst q2
  have q3 := EQ3.out w
  subst q3
  have q4 := EQ4.out w
  subst q4
  exact ⟨rfl, Z9.out.low⟩
set_option maxHeartbeats 8000000 in
set_option maxRecDepth 100000 in
/-- uri:#O -/
theorem zs_opn (u : ByteArray) (O : Nat) (L C L2 C2 O2 : Int) (hu0 : 1 ≤ u.size) (hu : u.size ≤ 1000) (hO : O ≤ 1000000)
    (HV : SaysTo 42 #[.agg #[.string u, .int .i64 L, .int .i64 C, .int .i64 O, .int .i64 L2, .int .i64 C2, .int .i64 O2]] true) (HZ : SaysTo 45 #[.agg #[.int .i64 L, .int .i64 C, .int .i64 O]] false) (HO : SaysTo 46 #[.agg #[.string u, .int .i64 L, .int .i64 C, .int .i64 O, .int .i64 L2, .int .i64 C2, .int .i64 O2]] true) (HP : SaysTo 47 #[.agg #[.string u, .int .i64 L, .int .i64 C, .int .i64 O, .int .i64 L2, .int .i64 C2, .int .i64 O2]] false) (HQ : SaysTo 49 #[.agg #[.string u, .int .i64 L, .int .i64 C, .int .i64 O, .int .i64 L2, .int .i64 C2, .int .i64 O2]] true) (w : World) (hT : Tab10 w.heap.size w) :
    Calls Tryd.prog 29 #[.agg #[.string u, .int .i64 L, .int .i64 C, .int .i64 O, .int .i64 L2, .int .i64 C2, .int .i64 O2], .bool false, .bool true] w (TxtRes w (u.data.toList ++ [58] ++ [35] ++ Lib.itoa (O : Int))) := by
  have eO := itoa_len20 (n := O) (by omega)
  have hd : u.data.toList.length = u.size := by rw [Array.length_toList]; rfl
  have HT := hide hT
  clear hT
  go_enter Tryd.func29, Tryd.ntmps29
  go_wp2_with (at_builtin; refine wpl_str rfl _ _ rfl (w.heap.size + 1) _ [] rfl (Byt.nil (by simp)) u rfl (by simp; omega) ?_)
  intro v0 w0 hv0 hn0 hkp
  clear hkp
  have z0 := ZS.start hv0 hn0 HT.out
  obtain ⟨l0, hl0⟩ : ∃ x, u.data.toList = x := ⟨_, rfl⟩
  rw [hl0] at z0 hd
  have EQ0 := hide (fun (_ : World) => hl0)
  have f0 := z0.s.seven
  have Z0 := hide z0
  clear hv0 hn0 z0 hl0 HT
  go_wp2_with fail
  refine (HV.out _).mono ?_
  rintro e w1 ⟨rfl, hb⟩
  have Z1 := hide (Z0.out.kept hb)
  have f1 := Z1.out.s.seven
  clear hb Z0 f0
  go_wp2_with fail
  refine (HZ.out _).mono ?_
  rintro e w2 ⟨rfl, hb⟩
  have Z2 := hide (Z1.out.kept hb)
  have f2 := Z2.out.s.seven
  clear hb Z1 f1
  go_wp2_with fail
  refine (HO.out _).mono ?_
  rintro e w3 ⟨rfl, hb⟩
  have Z3 := hide (Z2.out.kept hb)
  have f3 := Z3.out.s.seven
  clear hb Z2 f2
  go_wp2_with fail
  refine (HP.out _).mono ?_
  rintro e w4 ⟨rfl, hb⟩
  have Z4 := hide (Z3.out.kept hb)
  have f4 := Z4.out.s.seven
  clear hb Z3 f3
  go_wp2_with (at_builtin; refine wpl_str rfl _ _ rfl (w.heap.size + 1) _ l0 rfl Z4.out.b ⟨#[58]⟩ rfl (by show l0.length + 1 ≤ _; omega) ?_)
  intro v5 w5 hv hn hkp
  clear hkp
  have z5 := Z4.out.nb (show Byt _ _ _ (l0 ++ [58]) from hv) hn
  obtain ⟨l1, hl1⟩ : ∃ x, l0 ++ [58] = x := ⟨_, rfl⟩
  rw [hl1] at z5
  have hd1 : l1.length ≤ 1000 + 1 := by rw [← hl1]; simp only [List.length_append, List.length_singleton]; omega
  have EQ1 := hide (fun (_ : World) => hl1)
  have f5 := z5.s.seven
  have Z5 := hide z5
  clear hv hn z5 hl1 Z4 f4
  go_wp2_with fail
  have hB : w.heap.size + 1 ≤ w5.heap.size := Z5.out.b.2
  go_region_held3 (fun w' => (∀ b o, b < w.heap.size + 1 → w'.cell? ⟨b, o, none⟩ = w5.cell? ⟨b, o, none⟩) ∧ w.heap.size + 1 ≤ w'.heap.size ∧ Below (w.heap.size + 1) w5 w')
    (first
      | (with_reducible exact SB.allocDrew hB)
      | (with_reducible exact SB.start hB)
      | (with_reducible exact SB.alloc (SB.start hB) _)
      | ((with_reducible refine SB.of ?_ ?_) <;> assumption))
    (first
      | (refine step_one rfl _ _ rfl (w.heap.size + 1) _ l1 (by rfl) (Byt.drew (Byt.alloc Z5.out.b _)) _ _ 35 (by rfl) (by go_simp; done) (by omega) ?_; intro vx5 wx5 hvx5 hnx hkp; clear hkp; have HNX5 := hide (Nb.trans (Nb.drew (Nb.alloc (Nb.refl _ w5) hB _)) hnx); have hx1 := HNX5.out.1; have hx0 := hvx5.2; clear hnx)
      | (go_at_call 48; refine (appInt_any (w.heap.size + 1) O (by omega) _ (l1 ++ [35]) _ (by assumption) (by simp only [List.length_append, List.length_singleton]; omega) (Z5.out.tab.on HNX5.out.1)).mono ?_; rintro e w6 ⟨vy5, rfl, hvy5, hny, -⟩; have HNY5 := hide (HNX5.out.trans hny); have hy1 := HNY5.out.1; have hy0 := hvy5.2; clear hny))
  rename_i hHH
  clear hHH
  have z6 := Z5.out.nb hvy5 HNY5.out
  obtain ⟨l2, hl2⟩ : ∃ x, l1 ++ [35] ++ Lib.itoa (O : Int) = x := ⟨_, rfl⟩
  rw [hl2] at z6
  have hd2 : l2.length ≤ 1000 + 22 := by rw [← hl2]; simp only [List.length_append, List.length_singleton]; omega
  have EQ2 := hide (fun (_ : World) => hl2)
  have f6 := z6.s.seven
  have Z6 := hide z6
  clear hB HNX5 HNY5 hvx5 hvy5 hx1 hx0 hy1 hy0 z6 hl2 Z5 f5
  go_wp2_with fail
  refine (HQ.out _).mono ?_
  rintro e w7 ⟨rfl, hb⟩
  have Z7 := hide (Z6.out.kept hb)
  have f7 := Z7.out.s.seven
  clear hb Z6 f6
  have hpos : 0 < l2.length := by
    have q1 := EQ1.out w
    have q2 := EQ2.out w
    rw [← q2]; simp only [List.length_append]; (try (rw [← q1]; simp only [List.length_append])); omega
  have hcv := byt_string Z7.out.b hpos
  go_wp2
  go_ret
  have q0 := EQ0.out w
  subst q0
  have q1 := EQ1.out w
  subst q1
  have q2 := EQ2.out w
  subst q2
  exact ⟨rfl, Z7.out.low⟩
set_option maxHeartbeats 8000000 in
set_option maxRecDepth 100000 in
/-- uri:#O-#O2 -/
theorem zs_osn (u : ByteArray) (O O2 : Nat) (L C L2 C2 : Int) (hu0 : 1 ≤ u.size) (hu : u.size ≤ 1000) (hO : O ≤ 1000000) (hO2 : O2 ≤ 1000000)
    (HV : SaysTo 42 #[.agg #[.string u, .int .i64 L, .int .i64 C, .int .i64 O, .int .i64 L2, .int .i64 C2, .int .i64 O2]] true) (HZ : SaysTo 45 #[.agg #[.int .i64 L, .int .i64 C, .int .i64 O]] false) (HO : SaysTo 46 #[.agg #[.string u, .int .i64 L, .int .i64 C, .int .i64 O, .int .i64 L2, .int .i64 C2, .int .i64 O2]] true) (HP : SaysTo 47 #[.agg #[.string u, .int .i64 L, .int .i64 C, .int .i64 O, .int .i64 L2, .int .i64 C2, .int .i64 O2]] false) (HQ : SaysTo 49 #[.agg #[.string u, .int .i64 L, .int .i64 C, .int .i64 O, .int .i64 L2, .int .i64 C2, .int .i64 O2]] false) (w : World) (hT : Tab10 w.heap.size w) :
    Calls Tryd.prog 29 #[.agg #[.string u, .int .i64 L, .int .i64 C, .int .i64 O, .int .i64 L2, .int .i64 C2, .int .i64 O2], .bool false, .bool true] w (TxtRes w (u.data.toList ++ [58] ++ [35] ++ Lib.itoa (O : Int) ++ [45] ++ [35] ++ Lib.itoa (O2 : Int))) := by
  have eO := itoa_len20 (n := O) (by omega)
  have eO2 := itoa_len20 (n := O2) (by omega)
  have hd : u.data.toList.length = u.size := by rw [Array.length_toList]; rfl
  have HT := hide hT
  clear hT
  go_enter Tryd.func29, Tryd.ntmps29
  go_wp2_with (at_builtin; refine wpl_str rfl _ _ rfl (w.heap.size + 1) _ [] rfl (Byt.nil (by simp)) u rfl (by simp; omega) ?_)
  intro v0 w0 hv0 hn0 hkp
  clear hkp
  have z0 := ZS.start hv0 hn0 HT.out
  obtain ⟨l0, hl0⟩ : ∃ x, u.data.toList = x := ⟨_, rfl⟩
  rw [hl0] at z0 hd
  have EQ0 := hide (fun (_ : World) => hl0)
  have f0 := z0.s.seven
  have Z0 := hide z0
  clear hv0 hn0 z0 hl0 HT
  go_wp2_with fail
  refine (HV.out _).mono ?_
  rintro e w1 ⟨rfl, hb⟩
  have Z1 := hide (Z0.out.kept hb)
  have f1 := Z1.out.s.seven
  clear hb Z0 f0
  go_wp2_with fail
  refine (HZ.out _).mono ?_
  rintro e w2 ⟨rfl, hb⟩
  have Z2 := hide (Z1.out.kept hb)
  have f2 := Z2.out.s.seven
  clear hb Z1 f1
  go_wp2_with fail
  refine (HO.out _).mono ?_
  rintro e w3 ⟨rfl, hb⟩
  have Z3 := hide (Z2.out.kept hb)
  have f3 := Z3.out.s.seven
  clear hb Z2 f2
  go_wp2_with fail
  refine (HP.out _).mono ?_
  rintro e w4 ⟨rfl, hb⟩
  have Z4 := hide (Z3.out.kept hb)
  have f4 := Z4.out.s.seven
  clear hb Z3 f3
  go_wp2_with (at_builtin; refine wpl_str rfl _ _ rfl (w.heap.size + 1) _ l0 rfl Z4.out.b ⟨#[58]⟩ rfl (by show l0.length + 1 ≤ _; omega) ?_)
  intro v5 w5 hv hn hkp
  clear hkp
  have z5 := Z4.out.nb (show Byt _ _ _ (l0 ++ [58]) from hv) hn
  obtain ⟨l1, hl1⟩ : ∃ x, l0 ++ [58] = x := ⟨_, rfl⟩
  rw [hl1] at z5
  have hd1 : l1.length ≤ 1000 + 1 := by rw [← hl1]; simp only [List.length_append, List.length_singleton]; omega
  have EQ1 := hide (fun (_ : World) => hl1)
  have f5 := z5.s.seven
  have Z5 := hide z5
  clear hv hn z5 hl1 Z4 f4
  go_wp2_with fail
  have hB : w.heap.size + 1 ≤ w5.heap.size := Z5.out.b.2
  go_region_held3 (fun w' => (∀ b o, b < w.heap.size + 1 → w'.cell? ⟨b, o, none⟩ = w5.cell? ⟨b, o, none⟩) ∧ w.heap.size + 1 ≤ w'.heap.size ∧ Below (w.heap.size + 1) w5 w')
    (first
      | (with_reducible exact SB.allocDrew hB)
      | (with_reducible exact SB.start hB)
      | (with_reducible exact SB.alloc (SB.start hB) _)
      | ((with_reducible refine SB.of ?_ ?_) <;> assumption))
    (first
      | (refine step_one rfl _ _ rfl (w.heap.size + 1) _ l1 (by rfl) (Byt.drew (Byt.alloc Z5.out.b _)) _ _ 35 (by rfl) (by go_simp; done) (by omega) ?_; intro vx5 wx5 hvx5 hnx hkp; clear hkp; have HNX5 := hide (Nb.trans (Nb.drew (Nb.alloc (Nb.refl _ w5) hB _)) hnx); have hx1 := HNX5.out.1; have hx0 := hvx5.2; clear hnx)
      | (go_at_call 48; refine (appInt_any (w.heap.size + 1) O (by omega) _ (l1 ++ [35]) _ (by assumption) (by simp only [List.length_append, List.length_singleton]; omega) (Z5.out.tab.on HNX5.out.1)).mono ?_; rintro e w6 ⟨vy5, rfl, hvy5, hny, -⟩; have HNY5 := hide (HNX5.out.trans hny); have hy1 := HNY5.out.1; have hy0 := hvy5.2; clear hny))
  rename_i hHH
  clear hHH
  have z6 := Z5.out.nb hvy5 HNY5.out
  obtain ⟨l2, hl2⟩ : ∃ x, l1 ++ [35] ++ Lib.itoa (O : Int) = x := ⟨_, rfl⟩
  rw [hl2] at z6
  have hd2 : l2.length ≤ 1000 + 22 := by rw [← hl2]; simp only [List.length_append, List.length_singleton]; omega
  have EQ2 := hide (fun (_ : World) => hl2)
  have f6 := z6.s.seven
  have Z6 := hide z6
  clear hB HNX5 HNY5 hvx5 hvy5 hx1 hx0 hy1 hy0 z6 hl2 Z5 f5
  go_wp2_with fail
  refine (HQ.out _).mono ?_
  rintro e w7 ⟨rfl, hb⟩
  have Z7 := hide (Z6.out.kept hb)
  have f7 := Z7.out.s.seven
  clear hb Z6 f6
  go_wp2_with (at_builtin; refine wpl_str rfl _ _ rfl (w.heap.size + 1) _ l2 rfl Z7.out.b ⟨#[45]⟩ rfl (by show l2.length + 1 ≤ _; omega) ?_)
  intro v8 w8 hv hn hkp
  clear hkp
  have z8 := Z7.out.nb (show Byt _ _ _ (l2 ++ [45]) from hv) hn
  obtain ⟨l3, hl3⟩ : ∃ x, l2 ++ [45] = x := ⟨_, rfl⟩
  rw [hl3] at z8
  have hd3 : l3.length ≤ 1000 + 23 := by rw [← hl3]; simp only [List.length_append, List.length_singleton]; omega
  have EQ3 := hide (fun (_ : World) => hl3)
  have f8 := z8.s.seven
  have Z8 := hide z8
  clear hv hn z8 hl3 Z7 f7
  go_wp2_with fail
  have hB : w.heap.size + 1 ≤ w8.heap.size := Z8.out.b.2
  go_region_held3 (fun w' => (∀ b o, b < w.heap.size + 1 → w'.cell? ⟨b, o, none⟩ = w8.cell? ⟨b, o, none⟩) ∧ w.heap.size + 1 ≤ w'.heap.size ∧ Below (w.heap.size + 1) w8 w')
    (first
      | (with_reducible exact SB.allocDrew hB)
      | (with_reducible exact SB.start hB)
      | (with_reducible exact SB.alloc (SB.start hB) _)
      | ((with_reducible refine SB.of ?_ ?_) <;> assumption))
    (first
      | (refine step_one rfl _ _ rfl (w.heap.size + 1) _ l3 (by rfl) (Byt.drew (Byt.alloc Z8.out.b _)) _ _ 35 (by rfl) (by go_simp; done) (by omega) ?_; intro vx8 wx8 hvx8 hnx hkp; clear hkp; have HNX8 := hide (Nb.trans (Nb.drew (Nb.alloc (Nb.refl _ w8) hB _)) hnx); have hx1 := HNX8.out.1; have hx0 := hvx8.2; clear hnx)
      | (go_at_call 48; refine (appInt_any (w.heap.size + 1) O2 (by omega) _ (l3 ++ [35]) _ (by assumption) (by simp only [List.length_append, List.length_singleton]; omega) (Z8.out.tab.on HNX8.out.1)).mono ?_; rintro e w9 ⟨vy8, rfl, hvy8, hny, -⟩; have HNY8 := hide (HNX8.out.trans hny); have hy1 := HNY8.out.1; have hy0 := hvy8.2; clear hny))
  rename_i hHH
  clear hHH
  have z9 := Z8.out.nb hvy8 HNY8.out
  obtain ⟨l4, hl4⟩ : ∃ x, l3 ++ [35] ++ Lib.itoa (O2 : Int) = x := ⟨_, rfl⟩
  rw [hl4] at z9
  have hd4 : l4.length ≤ 1000 + 44 := by rw [← hl4]; simp only [List.length_append, List.length_singleton]; omega
  have EQ4 := hide (fun (_ : World) => hl4)
  have f9 := z9.s.seven
  have Z9 := hide z9
  clear hB HNX8 HNY8 hvx8 hvy8 hx1 hx0 hy1 hy0 z9 hl4 Z8 f8
  have hpos : 0 < l4.length := by
    have q1 := EQ1.out w
    have q2 := EQ2.out w
    have q3 := EQ3.out w
    have q4 := EQ4.out w
    rw [← q4]; simp only [List.length_append]; (try (rw [← q3]; simp only [List.length_append])); (try (rw [← q2]; simp only [List.length_append])); (try (rw [← q1]; simp only [List.length_append])); omega
  have hcv := byt_string Z9.out.b hpos
  go_wp2
  go_ret
  have q0 := EQ0.out w
  subst q0
  have q1 := EQ1.out w
  subst q1
  have q2 := EQ2.out w
  subst q2
  have q3 := EQ3.out w
  subst q3
  have q4 := EQ4.out w
  subst q4
  exact ⟨rfl, Z9.out.low⟩
set_option maxHeartbeats 8000000 in
set_option maxRecDepth 100000 in
/-- uri:L:C -/
theorem zs_bp (u : ByteArray) (L C : Nat) (O L2 C2 O2 : Int) (hu0 : 1 ≤ u.size) (hu : u.size ≤ 1000) (hL : L ≤ 1000000) (hC : C ≤ 1000000) (hC1 : (1 : Int) < (C : Int))
    (HV : SaysTo 42 #[.agg #[.string u, .int .i64 L, .int .i64 C, .int .i64 O, .int .i64 L2, .int .i64 C2, .int .i64 O2]] true) (HZ : SaysTo 45 #[.agg #[.int .i64 L, .int .i64 C, .int .i64 O]] false) (HO : SaysTo 46 #[.agg #[.string u, .int .i64 L, .int .i64 C, .int .i64 O, .int .i64 L2, .int .i64 C2, .int .i64 O2]] true) (HP : SaysTo 47 #[.agg #[.string u, .int .i64 L, .int .i64 C, .int .i64 O, .int .i64 L2, .int .i64 C2, .int .i64 O2]] true) (HQ : SaysTo 49 #[.agg #[.string u, .int .i64 L, .int .i64 C, .int .i64 O, .int .i64 L2, .int .i64 C2, .int .i64 O2]] true) (w : World) (hT : Tab10 w.heap.size w) :
    Calls Tryd.prog 29 #[.agg #[.string u, .int .i64 L, .int .i64 C, .int .i64 O, .int .i64 L2, .int .i64 C2, .int .i64 O2], .bool false, .bool false] w (TxtRes w (u.data.toList ++ [58] ++ Lib.itoa (L : Int) ++ [58] ++ Lib.itoa (C : Int))) := by
  have eL := itoa_len20 (n := L) (by omega)
  have eC := itoa_len20 (n := C) (by omega)
  have hd : u.data.toList.length = u.size := by rw [Array.length_toList]; rfl
  have HT := hide hT
  clear hT
  go_enter Tryd.func29, Tryd.ntmps29
  go_wp2_with (at_builtin; refine wpl_str rfl _ _ rfl (w.heap.size + 1) _ [] rfl (Byt.nil (by simp)) u rfl (by simp; omega) ?_)
  intro v0 w0 hv0 hn0 hkp
  clear hkp
  have z0 := ZS.start hv0 hn0 HT.out
  obtain ⟨l0, hl0⟩ : ∃ x, u.data.toList = x := ⟨_, rfl⟩
  rw [hl0] at z0 hd
  have EQ0 := hide (fun (_ : World) => hl0)
  have f0 := z0.s.seven
  have Z0 := hide z0
  clear hv0 hn0 z0 hl0 HT
  go_wp2_with fail
  refine (HV.out _).mono ?_
  rintro e w1 ⟨rfl, hb⟩
  have Z1 := hide (Z0.out.kept hb)
  have f1 := Z1.out.s.seven
  clear hb Z0 f0
  go_wp2_with fail
  refine (HZ.out _).mono ?_
  rintro e w2 ⟨rfl, hb⟩
  have Z2 := hide (Z1.out.kept hb)
  have f2 := Z2.out.s.seven
  clear hb Z1 f1
  go_wp2_with fail
  refine (HO.out _).mono ?_
  rintro e w3 ⟨rfl, hb⟩
  have Z3 := hide (Z2.out.kept hb)
  have f3 := Z3.out.s.seven
  clear hb Z2 f2
  go_wp2_with fail
  refine (HP.out _).mono ?_
  rintro e w4 ⟨rfl, hb⟩
  have Z4 := hide (Z3.out.kept hb)
  have f4 := Z4.out.s.seven
  clear hb Z3 f3
  go_wp2_with fail
  refine (HP.out _).mono ?_
  rintro e w5 ⟨rfl, hb⟩
  have Z5 := hide (Z4.out.kept hb)
  have f5 := Z5.out.s.seven
  clear hb Z4 f4
  go_wp2_with (at_builtin; refine wpl_str rfl _ _ rfl (w.heap.size + 1) _ l0 rfl Z5.out.b ⟨#[58]⟩ rfl (by show l0.length + 1 ≤ _; omega) ?_)
  intro v6 w6 hv hn hkp
  clear hkp
  have z6 := Z5.out.nb (show Byt _ _ _ (l0 ++ [58]) from hv) hn
  obtain ⟨l1, hl1⟩ : ∃ x, l0 ++ [58] = x := ⟨_, rfl⟩
  rw [hl1] at z6
  have hd1 : l1.length ≤ 1000 + 1 := by rw [← hl1]; simp only [List.length_append, List.length_singleton]; omega
  have EQ1 := hide (fun (_ : World) => hl1)
  have f6 := z6.s.seven
  have Z6 := hide z6
  clear hv hn z6 hl1 Z5 f5
  go_wp2_with fail
  refine (appInt_any (w.heap.size + 1) L (by omega) _ l1 _ Z6.out.b (by omega) Z6.out.tab).mono ?_
  rintro e w7 ⟨v7, rfl, hv, hn, -⟩
  have z7 := Z6.out.nb hv hn
  obtain ⟨l2, hl2⟩ : ∃ x, l1 ++ Lib.itoa (L : Int) = x := ⟨_, rfl⟩
  rw [hl2] at z7
  have hd2 : l2.length ≤ 1000 + 21 := by rw [← hl2]; simp only [List.length_append, List.length_singleton]; omega
  have EQ2 := hide (fun (_ : World) => hl2)
  have f7 := z7.s.seven
  have Z7 := hide z7
  clear hv hn z7 hl2 Z6 f6
  go_wp2_with fail
  have hB : w.heap.size + 1 ≤ w7.heap.size := Z7.out.b.2
  go_region_held3 (fun w' => (∀ b o, b < w.heap.size + 1 → w'.cell? ⟨b, o, none⟩ = w7.cell? ⟨b, o, none⟩) ∧ w.heap.size + 1 ≤ w'.heap.size ∧ Below (w.heap.size + 1) w7 w')
    (first
      | (with_reducible exact SB.allocDrew hB)
      | (with_reducible exact SB.start hB)
      | (with_reducible exact SB.alloc (SB.start hB) _)
      | ((with_reducible refine SB.of ?_ ?_) <;> assumption))
    (first
      | (refine step_one rfl _ _ rfl (w.heap.size + 1) _ l2 (by rfl) (Byt.drew (Byt.alloc Z7.out.b _)) _ _ 58 (by rfl) (by go_simp; done) (by omega) ?_; intro vx7 wx7 hvx7 hnx hkp; clear hkp; have HNX7 := hide (Nb.trans (Nb.drew (Nb.alloc (Nb.refl _ w7) hB _)) hnx); have hx1 := HNX7.out.1; have hx0 := hvx7.2; clear hnx)
      | (go_at_call 48; refine (appInt_any (w.heap.size + 1) C (by omega) _ (l2 ++ [58]) _ (by assumption) (by simp only [List.length_append, List.length_singleton]; omega) (Z7.out.tab.on HNX7.out.1)).mono ?_; rintro e w8 ⟨vy7, rfl, hvy7, hny, -⟩; have HNY7 := hide (HNX7.out.trans hny); have hy1 := HNY7.out.1; have hy0 := hvy7.2; clear hny))
  rename_i hHH
  clear hHH
  have z8 := Z7.out.nb hvy7 HNY7.out
  obtain ⟨l3, hl3⟩ : ∃ x, l2 ++ [58] ++ Lib.itoa (C : Int) = x := ⟨_, rfl⟩
  rw [hl3] at z8
  have hd3 : l3.length ≤ 1000 + 42 := by rw [← hl3]; simp only [List.length_append, List.length_singleton]; omega
  have EQ3 := hide (fun (_ : World) => hl3)
  have f8 := z8.s.seven
  have Z8 := hide z8
  clear hB HNX7 HNY7 hvx7 hvy7 hx1 hx0 hy1 hy0 z8 hl3 Z7 f7
  go_wp2_with fail
  refine (HQ.out _).mono ?_
  rintro e w9 ⟨rfl, hb⟩
  have Z9 := hide (Z8.out.kept hb)
  have f9 := Z9.out.s.seven
  clear hb Z8 f8
  have hpos : 0 < l3.length := by
    have q1 := EQ1.out w
    have q2 := EQ2.out w
    have q3 := EQ3.out w
    rw [← q3]; simp only [List.length_append]; (try (rw [← q2]; simp only [List.length_append])); (try (rw [← q1]; simp only [List.length_append])); omega
  have hcv := byt_string Z9.out.b hpos
  go_wp2
  go_ret
  have q0 := EQ0.out w
  subst q0
  have q1 := EQ1.out w
  subst q1
  have q2 := EQ2.out w
  subst q2
  have q3 := EQ3.out w
  subst q3
  exact ⟨rfl, Z9.out.low⟩
set_option maxHeartbeats 8000000 in
set_option maxRecDepth 100000 in
/-- uri:L:C-C2 -/
theorem zs_bc (u : ByteArray) (L C C2 : Nat) (O L2 O2 : Int) (hu0 : 1 ≤ u.size) (hu : u.size ≤ 1000) (hL : L ≤ 1000000) (hC : C ≤ 1000000) (hC2 : C2 ≤ 1000000) (hC1 : (1 : Int) < (C : Int)) (hll : ¬ (L : Int) < L2)
    (HV : SaysTo 42 #[.agg #[.string u, .int .i64 L, .int .i64 C, .int .i64 O, .int .i64 L2, .int .i64 C2, .int .i64 O2]] true) (HZ : SaysTo 45 #[.agg #[.int .i64 L, .int .i64 C, .int .i64 O]] false) (HO : SaysTo 46 #[.agg #[.string u, .int .i64 L, .int .i64 C, .int .i64 O, .int .i64 L2, .int .i64 C2, .int .i64 O2]] true) (HP : SaysTo 47 #[.agg #[.string u, .int .i64 L, .int .i64 C, .int .i64 O, .int .i64 L2, .int .i64 C2, .int .i64 O2]] true) (HQ : SaysTo 49 #[.agg #[.string u, .int .i64 L, .int .i64 C, .int .i64 O, .int .i64 L2, .int .i64 C2, .int .i64 O2]] false) (w : World) (hT : Tab10 w.heap.size w) :
    Calls Tryd.prog 29 #[.agg #[.string u, .int .i64 L, .int .i64 C, .int .i64 O, .int .i64 L2, .int .i64 C2, .int .i64 O2], .bool false, .bool false] w (TxtRes w (u.data.toList ++ [58] ++ Lib.itoa (L : Int) ++ [58] ++ Lib.itoa (C : Int) ++ [45] ++ Lib.itoa (C2 : Int))) := by
  have eL := itoa_len20 (n := L) (by omega)
  have eC := itoa_len20 (n := C) (by omega)
  have eC2 := itoa_len20 (n := C2) (by omega)
  have hd : u.data.toList.length = u.size := by rw [Array.length_toList]; rfl
  have HT := hide hT
  clear hT
  go_enter Tryd.func29, Tryd.ntmps29
  go_wp2_with (at_builtin; refine wpl_str rfl _ _ rfl (w.heap.size + 1) _ [] rfl (Byt.nil (by simp)) u rfl (by simp; omega) ?_)
  intro v0 w0 hv0 hn0 hkp
  clear hkp
  have z0 := ZS.start hv0 hn0 HT.out
  obtain ⟨l0, hl0⟩ : ∃ x, u.data.toList = x := ⟨_, rfl⟩
  rw [hl0] at z0 hd
  have EQ0 := hide (fun (_ : World) => hl0)
  have f0 := z0.s.seven
  have Z0 := hide z0
  clear hv0 hn0 z0 hl0 HT
  go_wp2_with fail
  refine (HV.out _).mono ?_
  rintro e w1 ⟨rfl, hb⟩
  have Z1 := hide (Z0.out.kept hb)
  have f1 := Z1.out.s.seven
  clear hb Z0 f0
  go_wp2_with fail
  refine (HZ.out _).mono ?_
  rintro e w2 ⟨rfl, hb⟩
  have Z2 := hide (Z1.out.kept hb)
  have f2 := Z2.out.s.seven
  clear hb Z1 f1
  go_wp2_with fail
  refine (HO.out _).mono ?_
  rintro e w3 ⟨rfl, hb⟩
  have Z3 := hide (Z2.out.kept hb)
  have f3 := Z3.out.s.seven
  clear hb Z2 f2
  go_wp2_with fail
  refine (HP.out _).mono ?_
  rintro e w4 ⟨rfl, hb⟩
  have Z4 := hide (Z3.out.kept hb)
  have f4 := Z4.out.s.seven
  clear hb Z3 f3
  go_wp2_with fail
  refine (HP.out _).mono ?_
  rintro e w5 ⟨rfl, hb⟩
  have Z5 := hide (Z4.out.kept hb)
  have f5 := Z5.out.s.seven
  clear hb Z4 f4
  go_wp2_with (at_builtin; refine wpl_str rfl _ _ rfl (w.heap.size + 1) _ l0 rfl Z5.out.b ⟨#[58]⟩ rfl (by show l0.length + 1 ≤ _; omega) ?_)
  intro v6 w6 hv hn hkp
  clear hkp
  have z6 := Z5.out.nb (show Byt _ _ _ (l0 ++ [58]) from hv) hn
  obtain ⟨l1, hl1⟩ : ∃ x, l0 ++ [58] = x := ⟨_, rfl⟩
  rw [hl1] at z6
  have hd1 : l1.length ≤ 1000 + 1 := by rw [← hl1]; simp only [List.length_append, List.length_singleton]; omega
  have EQ1 := hide (fun (_ : World) => hl1)
  have f6 := z6.s.seven
  have Z6 := hide z6
  clear hv hn z6 hl1 Z5 f5
  go_wp2_with fail
  refine (appInt_any (w.heap.size + 1) L (by omega) _ l1 _ Z6.out.b (by omega) Z6.out.tab).mono ?_
  rintro e w7 ⟨v7, rfl, hv, hn, -⟩
  have z7 := Z6.out.nb hv hn
  obtain ⟨l2, hl2⟩ : ∃ x, l1 ++ Lib.itoa (L : Int) = x := ⟨_, rfl⟩
  rw [hl2] at z7
  have hd2 : l2.length ≤ 1000 + 21 := by rw [← hl2]; simp only [List.length_append, List.length_singleton]; omega
  have EQ2 := hide (fun (_ : World) => hl2)
  have f7 := z7.s.seven
  have Z7 := hide z7
  clear hv hn z7 hl2 Z6 f6
  go_wp2_with fail
  have hB : w.heap.size + 1 ≤ w7.heap.size := Z7.out.b.2
  go_region_held3 (fun w' => (∀ b o, b < w.heap.size + 1 → w'.cell? ⟨b, o, none⟩ = w7.cell? ⟨b, o, none⟩) ∧ w.heap.size + 1 ≤ w'.heap.size ∧ Below (w.heap.size + 1) w7 w')
    (first
      | (with_reducible exact SB.allocDrew hB)
      | (with_reducible exact SB.start hB)
      | (with_reducible exact SB.alloc (SB.start hB) _)
      | ((with_reducible refine SB.of ?_ ?_) <;> assumption))
    (first
      | (refine step_one rfl _ _ rfl (w.heap.size + 1) _ l2 (by rfl) (Byt.drew (Byt.alloc Z7.out.b _)) _ _ 58 (by rfl) (by go_simp; done) (by omega) ?_; intro vx7 wx7 hvx7 hnx hkp; clear hkp; have HNX7 := hide (Nb.trans (Nb.drew (Nb.alloc (Nb.refl _ w7) hB _)) hnx); have hx1 := HNX7.out.1; have hx0 := hvx7.2; clear hnx)
      | (go_at_call 48; refine (appInt_any (w.heap.size + 1) C (by omega) _ (l2 ++ [58]) _ (by assumption) (by simp only [List.length_append, List.length_singleton]; omega) (Z7.out.tab.on HNX7.out.1)).mono ?_; rintro e w8 ⟨vy7, rfl, hvy7, hny, -⟩; have HNY7 := hide (HNX7.out.trans hny); have hy1 := HNY7.out.1; have hy0 := hvy7.2; clear hny))
  rename_i hHH
  clear hHH
  have z8 := Z7.out.nb hvy7 HNY7.out
  obtain ⟨l3, hl3⟩ : ∃ x, l2 ++ [58] ++ Lib.itoa (C : Int) = x := ⟨_, rfl⟩
  rw [hl3] at z8
  have hd3 : l3.length ≤ 1000 + 42 := by rw [← hl3]; simp only [List.length_append, List.length_singleton]; omega
  have EQ3 := hide (fun (_ : World) => hl3)
  have f8 := z8.s.seven
  have Z8 := hide z8
  clear hB HNX7 HNY7 hvx7 hvy7 hx1 hx0 hy1 hy0 z8 hl3 Z7 f7
  go_wp2_with fail
  refine (HQ.out _).mono ?_
  rintro e w9 ⟨rfl, hb⟩
  have Z9 := hide (Z8.out.kept hb)
  have f9 := Z9.out.s.seven
  clear hb Z8 f8
  go_wp2_with (at_builtin; refine wpl_str rfl _ _ rfl (w.heap.size + 1) _ l3 rfl Z9.out.b ⟨#[45]⟩ rfl (by show l3.length + 1 ≤ _; omega) ?_)
  intro v10 w10 hv hn hkp
  clear hkp
  have z10 := Z9.out.nb (show Byt _ _ _ (l3 ++ [45]) from hv) hn
  obtain ⟨l4, hl4⟩ : ∃ x, l3 ++ [45] = x := ⟨_, rfl⟩
  rw [hl4] at z10
  have hd4 : l4.length ≤ 1000 + 43 := by rw [← hl4]; simp only [List.length_append, List.length_singleton]; omega
  have EQ4 := hide (fun (_ : World) => hl4)
  have f10 := z10.s.seven
  have Z10 := hide z10
  clear hv hn z10 hl4 Z9 f9
  go_wp2_with fail
  refine (appInt_any (w.heap.size + 1) C2 (by omega) _ l4 _ Z10.out.b (by omega) Z10.out.tab).mono ?_
  rintro e w11 ⟨v11, rfl, hv, hn, -⟩
  have z11 := Z10.out.nb hv hn
  obtain ⟨l5, hl5⟩ : ∃ x, l4 ++ Lib.itoa (C2 : Int) = x := ⟨_, rfl⟩
  rw [hl5] at z11
  have hd5 : l5.length ≤ 1000 + 63 := by rw [← hl5]; simp only [List.length_append, List.length_singleton]; omega
  have EQ5 := hide (fun (_ : World) => hl5)
  have f11 := z11.s.seven
  have Z11 := hide z11
  clear hv hn z11 hl5 Z10 f10
  have hpos : 0 < l5.length := by
    have q1 := EQ1.out w
    have q2 := EQ2.out w
    have q3 := EQ3.out w
    have q4 := EQ4.out w
    have q5 := EQ5.out w
    rw [← q5]; simp only [List.length_append]; (try (rw [← q4]; simp only [List.length_append])); (try (rw [← q3]; simp only [List.length_append])); (try (rw [← q2]; simp only [List.length_append])); (try (rw [← q1]; simp only [List.length_append])); omega
  have hcv := byt_string Z11.out.b hpos
  go_wp2
  go_ret
  have q0 := EQ0.out w
  subst q0
  have q1 := EQ1.out w
  subst q1
  have q2 := EQ2.out w
  subst q2
  have q3 := EQ3.out w
  subst q3
  have q4 := EQ4.out w
  subst q4
  have q5 := EQ5.out w
  subst q5
  exact ⟨rfl, Z11.out.low⟩
set_option maxHeartbeats 8000000 in
set_option maxRecDepth 100000 in
/-- uri:L:C-L2:C2 -/
theorem zs_bs (u : ByteArray) (L C L2 C2 : Nat) (O O2 : Int) (hu0 : 1 ≤ u.size) (hu : u.size ≤ 1000) (hL : L ≤ 1000000) (hC : C ≤ 1000000) (hL2 : L2 ≤ 1000000) (hC2 : C2 ≤ 1000000) (hC1 : (1 : Int) < (C : Int)) (hll : (L : Int) < (L2 : Int))
    (HV : SaysTo 42 #[.agg #[.string u, .int .i64 L, .int .i64 C, .int .i64 O, .int .i64 L2, .int .i64 C2, .int .i64 O2]] true) (HZ : SaysTo 45 #[.agg #[.int .i64 L, .int .i64 C, .int .i64 O]] false) (HO : SaysTo 46 #[.agg #[.string u, .int .i64 L, .int .i64 C, .int .i64 O, .int .i64 L2, .int .i64 C2, .int .i64 O2]] true) (HP : SaysTo 47 #[.agg #[.string u, .int .i64 L, .int .i64 C, .int .i64 O, .int .i64 L2, .int .i64 C2, .int .i64 O2]] true) (HQ : SaysTo 49 #[.agg #[.string u, .int .i64 L, .int .i64 C, .int .i64 O, .int .i64 L2, .int .i64 C2, .int .i64 O2]] false) (w : World) (hT : Tab10 w.heap.size w) :
    Calls Tryd.prog 29 #[.agg #[.string u, .int .i64 L, .int .i64 C, .int .i64 O, .int .i64 L2, .int .i64 C2, .int .i64 O2], .bool false, .bool false] w (TxtRes w (u.data.toList ++ [58] ++ Lib.itoa (L : Int) ++ [58] ++ Lib.itoa (C : Int) ++ [45] ++ Lib.itoa (L2 : Int) ++ [58] ++ Lib.itoa (C2 : Int))) := by
  have eL := itoa_len20 (n := L) (by omega)
  have eC := itoa_len20 (n := C) (by omega)
  have eL2 := itoa_len20 (n := L2) (by omega)
  have eC2 := itoa_len20 (n := C2) (by omega)
  have hd : u.data.toList.length = u.size := by rw [Array.length_toList]; rfl
  have HT := hide hT
  clear hT
  go_enter Tryd.func29, Tryd.ntmps29
  go_wp2_with (at_builtin; refine wpl_str rfl _ _ rfl (w.heap.size + 1) _ [] rfl (Byt.nil (by simp)) u rfl (by simp; omega) ?_)
  intro v0 w0 hv0 hn0 hkp
  clear hkp
  have z0 := ZS.start hv0 hn0 HT.out
  obtain ⟨l0, hl0⟩ : ∃ x, u.data.toList = x := ⟨_, rfl⟩
  rw [hl0] at z0 hd
  have EQ0 := hide (fun (_ : World) => hl0)
  have f0 := z0.s.seven
  have Z0 := hide z0
  clear hv0 hn0 z0 hl0 HT
  go_wp2_with fail
  refine (HV.out _).mono ?_
  rintro e w1 ⟨rfl, hb⟩
  have Z1 := hide (Z0.out.kept hb)
  have f1 := Z1.out.s.seven
  clear hb Z0 f0
  go_wp2_with fail
  refine (HZ.out _).mono ?_
  rintro e w2 ⟨rfl, hb⟩
  have Z2 := hide (Z1.out.kept hb)
  have f2 := Z2.out.s.seven
  clear hb Z1 f1
  go_wp2_with fail
  refine (HO.out _).mono ?_
  rintro e w3 ⟨rfl, hb⟩
  have Z3 := hide (Z2.out.kept hb)
  have f3 := Z3.out.s.seven
  clear hb Z2 f2
  go_wp2_with fail
  refine (HP.out _).mono ?_
  rintro e w4 ⟨rfl, hb⟩
  have Z4 := hide (Z3.out.kept hb)
  have f4 := Z4.out.s.seven
  clear hb Z3 f3
  go_wp2_with fail
  refine (HP.out _).mono ?_
  rintro e w5 ⟨rfl, hb⟩
  have Z5 := hide (Z4.out.kept hb)
  have f5 := Z5.out.s.seven
  clear hb Z4 f4
  go_wp2_with (at_builtin; refine wpl_str rfl _ _ rfl (w.heap.size + 1) _ l0 rfl Z5.out.b ⟨#[58]⟩ rfl (by show l0.length + 1 ≤ _; omega) ?_)
  intro v6 w6 hv hn hkp
  clear hkp
  have z6 := Z5.out.nb (show Byt _ _ _ (l0 ++ [58]) from hv) hn
  obtain ⟨l1, hl1⟩ : ∃ x, l0 ++ [58] = x := ⟨_, rfl⟩
  rw [hl1] at z6
  have hd1 : l1.length ≤ 1000 + 1 := by rw [← hl1]; simp only [List.length_append, List.length_singleton]; omega
  have EQ1 := hide (fun (_ : World) => hl1)
  have f6 := z6.s.seven
  have Z6 := hide z6
  clear hv hn z6 hl1 Z5 f5
  go_wp2_with fail
  refine (appInt_any (w.heap.size + 1) L (by omega) _ l1 _ Z6.out.b (by omega) Z6.out.tab).mono ?_
  rintro e w7 ⟨v7, rfl, hv, hn, -⟩
  have z7 := Z6.out.nb hv hn
  obtain ⟨l2, hl2⟩ : ∃ x, l1 ++ Lib.itoa (L : Int) = x := ⟨_, rfl⟩
  rw [hl2] at z7
  have hd2 : l2.length ≤ 1000 + 21 := by rw [← hl2]; simp only [List.length_append, List.length_singleton]; omega
  have EQ2 := hide (fun (_ : World) => hl2)
  have f7 := z7.s.seven
  have Z7 := hide z7
  clear hv hn z7 hl2 Z6 f6
  go_wp2_with fail
  have hB : w.heap.size + 1 ≤ w7.heap.size := Z7.out.b.2
  go_region_held3 (fun w' => (∀ b o, b < w.heap.size + 1 → w'.cell? ⟨b, o, none⟩ = w7.cell? ⟨b, o, none⟩) ∧ w.heap.size + 1 ≤ w'.heap.size ∧ Below (w.heap.size + 1) w7 w')
    (first
      | (with_reducible exact SB.allocDrew hB)
      | (with_reducible exact SB.start hB)
      | (with_reducible exact SB.alloc (SB.start hB) _)
      | ((with_reducible refine SB.of ?_ ?_) <;> assumption))
    (first
      | (refine step_one rfl _ _ rfl (w.heap.size + 1) _ l2 (by rfl) (Byt.drew (Byt.alloc Z7.out.b _)) _ _ 58 (by rfl) (by go_simp; done) (by omega) ?_; intro vx7 wx7 hvx7 hnx hkp; clear hkp; have HNX7 := hide (Nb.trans (Nb.drew (Nb.alloc (Nb.refl _ w7) hB _)) hnx); have hx1 := HNX7.out.1; have hx0 := hvx7.2; clear hnx)
      | (go_at_call 48; refine (appInt_any (w.heap.size + 1) C (by omega) _ (l2 ++ [58]) _ (by assumption) (by simp only [List.length_append, List.length_singleton]; omega) (Z7.out.tab.on HNX7.out.1)).mono ?_; rintro e w8 ⟨vy7, rfl, hvy7, hny, -⟩; have HNY7 := hide (HNX7.out.trans hny); have hy1 := HNY7.out.1; have hy0 := hvy7.2; clear hny))
  rename_i hHH
  clear hHH
  have z8 := Z7.out.nb hvy7 HNY7.out
  obtain ⟨l3, hl3⟩ : ∃ x, l2 ++ [58] ++ Lib.itoa (C : Int) = x := ⟨_, rfl⟩
  rw [hl3] at z8
  have hd3 : l3.length ≤ 1000 + 42 := by rw [← hl3]; simp only [List.length_append, List.length_singleton]; omega
  have EQ3 := hide (fun (_ : World) => hl3)
  have f8 := z8.s.seven
  have Z8 := hide z8
  clear hB HNX7 HNY7 hvx7 hvy7 hx1 hx0 hy1 hy0 z8 hl3 Z7 f7
  go_wp2_with fail
  refine (HQ.out _).mono ?_
  rintro e w9 ⟨rfl, hb⟩
  have Z9 := hide (Z8.out.kept hb)
  have f9 := Z9.out.s.seven
  clear hb Z8 f8
  go_wp2_with (at_builtin; refine wpl_str rfl _ _ rfl (w.heap.size + 1) _ l3 rfl Z9.out.b ⟨#[45]⟩ rfl (by show l3.length + 1 ≤ _; omega) ?_)
  intro v10 w10 hv hn hkp
  clear hkp
  have z10 := Z9.out.nb (show Byt _ _ _ (l3 ++ [45]) from hv) hn
  obtain ⟨l4, hl4⟩ : ∃ x, l3 ++ [45] = x := ⟨_, rfl⟩
  rw [hl4] at z10
  have hd4 : l4.length ≤ 1000 + 43 := by rw [← hl4]; simp only [List.length_append, List.length_singleton]; omega
  have EQ4 := hide (fun (_ : World) => hl4)
  have f10 := z10.s.seven
  have Z10 := hide z10
  clear hv hn z10 hl4 Z9 f9
  go_wp2_with fail
  refine (appInt_any (w.heap.size + 1) L2 (by omega) _ l4 _ Z10.out.b (by omega) Z10.out.tab).mono ?_
  rintro e w11 ⟨v11, rfl, hv, hn, -⟩
  have z11 := Z10.out.nb hv hn
  obtain ⟨l5, hl5⟩ : ∃ x, l4 ++ Lib.itoa (L2 : Int) = x := ⟨_, rfl⟩
  rw [hl5] at z11
  have hd5 : l5.length ≤ 1000 + 63 := by rw [← hl5]; simp only [List.length_append, List.length_singleton]; omega
  have EQ5 := hide (fun (_ : World) => hl5)
  have f11 := z11.s.seven
  have Z11 := hide z11
  clear hv hn z11 hl5 Z10 f10
  go_wp2_with (at_builtin; refine wpl_str rfl _ _ rfl (w.heap.size + 1) _ l5 rfl Z11.out.b ⟨#[58]⟩ rfl (by show l5.length + 1 ≤ _; omega) ?_)
  intro v12 w12 hv hn hkp
  clear hkp
  have z12 := Z11.out.nb (show Byt _ _ _ (l5 ++ [58]) from hv) hn
  obtain ⟨l6, hl6⟩ : ∃ x, l5 ++ [58] = x := ⟨_, rfl⟩
  rw [hl6] at z12
  have hd6 : l6.length ≤ 1000 + 64 := by rw [← hl6]; simp only [List.length_append, List.length_singleton]; omega
  have EQ6 := hide (fun (_ : World) => hl6)
  have f12 := z12.s.seven
  have Z12 := hide z12
  clear hv hn z12 hl6 Z11 f11
  go_wp2_with fail
  refine (appInt_any (w.heap.size + 1) C2 (by omega) _ l6 _ Z12.out.b (by omega) Z12.out.tab).mono ?_
  rintro e w13 ⟨v13, rfl, hv, hn, -⟩
  have z13 := Z12.out.nb hv hn
  obtain ⟨l7, hl7⟩ : ∃ x, l6 ++ Lib.itoa (C2 : Int) = x := ⟨_, rfl⟩
  rw [hl7] at z13
  have hd7 : l7.length ≤ 1000 + 84 := by rw [← hl7]; simp only [List.length_append, List.length_singleton]; omega
  have EQ7 := hide (fun (_ : World) => hl7)
  have f13 := z13.s.seven
  have Z13 := hide z13
  clear hv hn z13 hl7 Z12 f12
  have hpos : 0 < l7.length := by
    have q1 := EQ1.out w
    have q2 := EQ2.out w
    have q3 := EQ3.out w
    have q4 := EQ4.out w
    have q5 := EQ5.out w
    have q6 := EQ6.out w
    have q7 := EQ7.out w
    rw [← q7]; simp only [List.length_append]; (try (rw [← q6]; simp only [List.length_append])); (try (rw [← q5]; simp only [List.length_append])); (try (rw [← q4]; simp only [List.length_append])); (try (rw [← q3]; simp only [List.length_append])); (try (rw [← q2]; simp only [List.length_append])); (try (rw [← q1]; simp only [List.length_append])); omega
  have hcv := byt_string Z13.out.b hpos
  go_wp2
  go_ret
  have q0 := EQ0.out w
  subst q0
  have q1 := EQ1.out w
  subst q1
  have q2 := EQ2.out w
  subst q2
  have q3 := EQ3.out w
  subst q3
  have q4 := EQ4.out w
  subst q4
  have q5 := EQ5.out w
  subst q5
  have q6 := EQ6.out w
  subst q6
  have q7 := EQ7.out w
  subst q7
  exact ⟨rfl, Z13.out.low⟩
set_option maxHeartbeats 8000000 in
set_option maxRecDepth 100000 in
/-- uri:L:C -/
theorem zs_bpn (u : ByteArray) (L C : Nat) (O L2 C2 O2 : Int) (hu0 : 1 ≤ u.size) (hu : u.size ≤ 1000) (hL : L ≤ 1000000) (hC : C ≤ 1000000) (hC1 : (1 : Int) < (C : Int))
    (HV : SaysTo 42 #[.agg #[.string u, .int .i64 L, .int .i64 C, .int .i64 O, .int .i64 L2, .int .i64 C2, .int .i64 O2]] true) (HZ : SaysTo 45 #[.agg #[.int .i64 L, .int .i64 C, .int .i64 O]] false) (HO : SaysTo 46 #[.agg #[.string u, .int .i64 L, .int .i64 C, .int .i64 O, .int .i64 L2, .int .i64 C2, .int .i64 O2]] false) (HP : SaysTo 47 #[.agg #[.string u, .int .i64 L, .int .i64 C, .int .i64 O, .int .i64 L2, .int .i64 C2, .int .i64 O2]] true) (HQ : SaysTo 49 #[.agg #[.string u, .int .i64 L, .int .i64 C, .int .i64 O, .int .i64 L2, .int .i64 C2, .int .i64 O2]] true) (w : World) (hT : Tab10 w.heap.size w) :
    Calls Tryd.prog 29 #[.agg #[.string u, .int .i64 L, .int .i64 C, .int .i64 O, .int .i64 L2, .int .i64 C2, .int .i64 O2], .bool false, .bool false] w (TxtRes w (u.data.toList ++ [58] ++ Lib.itoa (L : Int) ++ [58] ++ Lib.itoa (C : Int))) := by
  have eL := itoa_len20 (n := L) (by omega)
  have eC := itoa_len20 (n := C) (by omega)
  have hd : u.data.toList.length = u.size := by rw [Array.length_toList]; rfl
  have HT := hide hT
  clear hT
  go_enter Tryd.func29, Tryd.ntmps29
  go_wp2_with (at_builtin; refine wpl_str rfl _ _ rfl (w.heap.size + 1) _ [] rfl (Byt.nil (by simp)) u rfl (by simp; omega) ?_)
  intro v0 w0 hv0 hn0 hkp
  clear hkp
  have z0 := ZS.start hv0 hn0 HT.out
  obtain ⟨l0, hl0⟩ : ∃ x, u.data.toList = x := ⟨_, rfl⟩
  rw [hl0] at z0 hd
  have EQ0 := hide (fun (_ : World) => hl0)
  have f0 := z0.s.seven
  have Z0 := hide z0
  clear hv0 hn0 z0 hl0 HT
  go_wp2_with fail
  refine (HV.out _).mono ?_
  rintro e w1 ⟨rfl, hb⟩
  have Z1 := hide (Z0.out.kept hb)
  have f1 := Z1.out.s.seven
  clear hb Z0 f0
  go_wp2_with fail
  refine (HZ.out _).mono ?_
  rintro e w2 ⟨rfl, hb⟩
  have Z2 := hide (Z1.out.kept hb)
  have f2 := Z2.out.s.seven
  clear hb Z1 f1
  go_wp2_with fail
  refine (HO.out _).mono ?_
  rintro e w3 ⟨rfl, hb⟩
  have Z3 := hide (Z2.out.kept hb)
  have f3 := Z3.out.s.seven
  clear hb Z2 f2
  go_wp2_with fail
  refine (HP.out _).mono ?_
  rintro e w4 ⟨rfl, hb⟩
  have Z4 := hide (Z3.out.kept hb)
  have f4 := Z4.out.s.seven
  clear hb Z3 f3
  go_wp2_with (at_builtin; refine wpl_str rfl _ _ rfl (w.heap.size + 1) _ l0 rfl Z4.out.b ⟨#[58]⟩ rfl (by show l0.length + 1 ≤ _; omega) ?_)
  intro v5 w5 hv hn hkp
  clear hkp
  have z5 := Z4.out.nb (show Byt _ _ _ (l0 ++ [58]) from hv) hn
  obtain ⟨l1, hl1⟩ : ∃ x, l0 ++ [58] = x := ⟨_, rfl⟩
  rw [hl1] at z5
  have hd1 : l1.length ≤ 1000 + 1 := by rw [← hl1]; simp only [List.length_append, List.length_singleton]; omega
  have EQ1 := hide (fun (_ : World) => hl1)
  have f5 := z5.s.seven
  have Z5 := hide z5
  clear hv hn z5 hl1 Z4 f4
  go_wp2_with fail
  refine (appInt_any (w.heap.size + 1) L (by omega) _ l1 _ Z5.out.b (by omega) Z5.out.tab).mono ?_
  rintro e w6 ⟨v6, rfl, hv, hn, -⟩
  have z6 := Z5.out.nb hv hn
  obtain ⟨l2, hl2⟩ : ∃ x, l1 ++ Lib.itoa (L : Int) = x := ⟨_, rfl⟩
  rw [hl2] at z6
  have hd2 : l2.length ≤ 1000 + 21 := by rw [← hl2]; simp only [List.length_append, List.length_singleton]; omega
  have EQ2 := hide (fun (_ : World) => hl2)
  have f6 := z6.s.seven
  have Z6 := hide z6
  clear hv hn z6 hl2 Z5 f5
  go_wp2_with fail
  have hB : w.heap.size + 1 ≤ w6.heap.size := Z6.out.b.2
  go_region_held3 (fun w' => (∀ b o, b < w.heap.size + 1 → w'.cell? ⟨b, o, none⟩ = w6.cell? ⟨b, o, none⟩) ∧ w.heap.size + 1 ≤ w'.heap.size ∧ Below (w.heap.size + 1) w6 w')
    (first
      | (with_reducible exact SB.allocDrew hB)
      | (with_reducible exact SB.start hB)
      | (with_reducible exact SB.alloc (SB.start hB) _)
      | ((with_reducible refine SB.of ?_ ?_) <;> assumption))
    (first
      | (refine step_one rfl _ _ rfl (w.heap.size + 1) _ l2 (by rfl) (Byt.drew (Byt.alloc Z6.out.b _)) _ _ 58 (by rfl) (by go_simp; done) (by omega) ?_; intro vx6 wx6 hvx6 hnx hkp; clear hkp; have HNX6 := hide (Nb.trans (Nb.drew (Nb.alloc (Nb.refl _ w6) hB _)) hnx); have hx1 := HNX6.out.1; have hx0 := hvx6.2; clear hnx)
      | (go_at_call 48; refine (appInt_any (w.heap.size + 1) C (by omega) _ (l2 ++ [58]) _ (by assumption) (by simp only [List.length_append, List.length_singleton]; omega) (Z6.out.tab.on HNX6.out.1)).mono ?_; rintro e w7 ⟨vy6, rfl, hvy6, hny, -⟩; have HNY6 := hide (HNX6.out.trans hny); have hy1 := HNY6.out.1; have hy0 := hvy6.2; clear hny))
  rename_i hHH
  clear hHH
  have z7 := Z6.out.nb hvy6 HNY6.out
  obtain ⟨l3, hl3⟩ : ∃ x, l2 ++ [58] ++ Lib.itoa (C : Int) = x := ⟨_, rfl⟩
  rw [hl3] at z7
  have hd3 : l3.length ≤ 1000 + 42 := by rw [← hl3]; simp only [List.length_append, List.length_singleton]; omega
  have EQ3 := hide (fun (_ : World) => hl3)
  have f7 := z7.s.seven
  have Z7 := hide z7
  clear hB HNX6 HNY6 hvx6 hvy6 hx1 hx0 hy1 hy0 z7 hl3 Z6 f6
  go_wp2_with fail
  refine (HQ.out _).mono ?_
  rintro e w8 ⟨rfl, hb⟩
  have Z8 := hide (Z7.out.kept hb)
  have f8 := Z8.out.s.seven
  clear hb Z7 f7
  have hpos : 0 < l3.length := by
    have q1 := EQ1.out w
    have q2 := EQ2.out w
    have q3 := EQ3.out w
    rw [← q3]; simp only [List.length_append]; (try (rw [← q2]; simp only [List.length_append])); (try (rw [← q1]; simp only [List.length_append])); omega
  have hcv := byt_string Z8.out.b hpos
  go_wp2
  go_ret
  have q0 := EQ0.out w
  subst q0
  have q1 := EQ1.out w
  subst q1
  have q2 := EQ2.out w
  subst q2
  have q3 := EQ3.out w
  subst q3
  exact ⟨rfl, Z8.out.low⟩
set_option maxHeartbeats 8000000 in
set_option maxRecDepth 100000 in
/-- uri:L:C-C2 -/
theorem zs_bcn (u : ByteArray) (L C C2 : Nat) (O L2 O2 : Int) (hu0 : 1 ≤ u.size) (hu : u.size ≤ 1000) (hL : L ≤ 1000000) (hC : C ≤ 1000000) (hC2 : C2 ≤ 1000000) (hC1 : (1 : Int) < (C : Int)) (hll : ¬ (L : Int) < L2)
    (HV : SaysTo 42 #[.agg #[.string u, .int .i64 L, .int .i64 C, .int .i64 O, .int .i64 L2, .int .i64 C2, .int .i64 O2]] true) (HZ : SaysTo 45 #[.agg #[.int .i64 L, .int .i64 C, .int .i64 O]] false) (HO : SaysTo 46 #[.agg #[.string u, .int .i64 L, .int .i64 C, .int .i64 O, .int .i64 L2, .int .i64 C2, .int .i64 O2]] false) (HP : SaysTo 47 #[.agg #[.string u, .int .i64 L, .int .i64 C, .int .i64 O, .int .i64 L2, .int .i64 C2, .int .i64 O2]] true) (HQ : SaysTo 49 #[.agg #[.string u, .int .i64 L, .int .i64 C, .int .i64 O, .int .i64 L2, .int .i64 C2, .int .i64 O2]] false) (w : World) (hT : Tab10 w.heap.size w) :
    Calls Tryd.prog 29 #[.agg #[.string u, .int .i64 L, .int .i64 C, .int .i64 O, .int .i64 L2, .int .i64 C2, .int .i64 O2], .bool false, .bool false] w (TxtRes w (u.data.toList ++ [58] ++ Lib.itoa (L : Int) ++ [58] ++ Lib.itoa (C : Int) ++ [45] ++ Lib.itoa (C2 : Int))) := by
  have eL := itoa_len20 (n := L) (by omega)
  have eC := itoa_len20 (n := C) (by omega)
  have eC2 := itoa_len20 (n := C2) (by omega)
  have hd : u.data.toList.length = u.size := by rw [Array.length_toList]; rfl
  have HT := hide hT
  clear hT
  go_enter Tryd.func29, Tryd.ntmps29
  go_wp2_with (at_builtin; refine wpl_str rfl _ _ rfl (w.heap.size + 1) _ [] rfl (Byt.nil (by simp)) u rfl (by simp; omega) ?_)
  intro v0 w0 hv0 hn0 hkp
  clear hkp
  have z0 := ZS.start hv0 hn0 HT.out
  obtain ⟨l0, hl0⟩ : ∃ x, u.data.toList = x := ⟨_, rfl⟩
  rw [hl0] at z0 hd
  have EQ0 := hide (fun (_ : World) => hl0)
  have f0 := z0.s.seven
  have Z0 := hide z0
  clear hv0 hn0 z0 hl0 HT
  go_wp2_with fail
  refine (HV.out _).mono ?_
  rintro e w1 ⟨rfl, hb⟩
  have Z1 := hide (Z0.out.kept hb)
  have f1 := Z1.out.s.seven
  clear hb Z0 f0
  go_wp2_with fail
  refine (HZ.out _).mono ?_
  rintro e w2 ⟨rfl, hb⟩
  have Z2 := hide (Z1.out.kept hb)
  have f2 := Z2.out.s.seven
  clear hb Z1 f1
  go_wp2_with fail
  refine (HO.out _).mono ?_
  rintro e w3 ⟨rfl, hb⟩
  have Z3 := hide (Z2.out.kept hb)
  have f3 := Z3.out.s.seven
  clear hb Z2 f2
  go_wp2_with fail
  refine (HP.out _).mono ?_
  rintro e w4 ⟨rfl, hb⟩
  have Z4 := hide (Z3.out.kept hb)
  have f4 := Z4.out.s.seven
  clear hb Z3 f3
  go_wp2_with (at_builtin; refine wpl_str rfl _ _ rfl (w.heap.size + 1) _ l0 rfl Z4.out.b ⟨#[58]⟩ rfl (by show l0.length + 1 ≤ _; omega) ?_)
  intro v5 w5 hv hn hkp
  clear hkp
  have z5 := Z4.out.nb (show Byt _ _ _ (l0 ++ [58]) from hv) hn
  obtain ⟨l1, hl1⟩ : ∃ x, l0 ++ [58] = x := ⟨_, rfl⟩
  rw [hl1] at z5
  have hd1 : l1.length ≤ 1000 + 1 := by rw [← hl1]; simp only [List.length_append, List.length_singleton]; omega
  have EQ1 := hide (fun (_ : World) => hl1)
  have f5 := z5.s.seven
  have Z5 := hide z5
  clear hv hn z5 hl1 Z4 f4
  go_wp2_with fail
  refine (appInt_any (w.heap.size + 1) L (by omega) _ l1 _ Z5.out.b (by omega) Z5.out.tab).mono ?_
  rintro e w6 ⟨v6, rfl, hv, hn, -⟩
  have z6 := Z5.out.nb hv hn
  obtain ⟨l2, hl2⟩ : ∃ x, l1 ++ Lib.itoa (L : Int) = x := ⟨_, rfl⟩
  rw [hl2] at z6
  have hd2 : l2.length ≤ 1000 + 21 := by rw [← hl2]; simp only [List.length_append, List.length_singleton]; omega
  have EQ2 := hide (fun (_ : World) => hl2)
  have f6 := z6.s.seven
  have Z6 := hide z6
  clear hv hn z6 hl2 Z5 f5
  go_wp2_with fail
  have hB : w.heap.size + 1 ≤ w6.heap.size := Z6.out.b.2
  go_region_held3 (fun w' => (∀ b o, b < w.heap.size + 1 → w'.cell? ⟨b, o, none⟩ = w6.cell? ⟨b, o, none⟩) ∧ w.heap.size + 1 ≤ w'.heap.size ∧ Below (w.heap.size + 1) w6 w')
    (first
      | (with_reducible exact SB.allocDrew hB)
      | (with_reducible exact SB.start hB)
      | (with_reducible exact SB.alloc (SB.start hB) _)
      | ((with_reducible refine SB.of ?_ ?_) <;> assumption))
    (first
      | (refine step_one rfl _ _ rfl (w.heap.size + 1) _ l2 (by rfl) (Byt.drew (Byt.alloc Z6.out.b _)) _ _ 58 (by rfl) (by go_simp; done) (by omega) ?_; intro vx6 wx6 hvx6 hnx hkp; clear hkp; have HNX6 := hide (Nb.trans (Nb.drew (Nb.alloc (Nb.refl _ w6) hB _)) hnx); have hx1 := HNX6.out.1; have hx0 := hvx6.2; clear hnx)
      | (go_at_call 48; refine (appInt_any (w.heap.size + 1) C (by omega) _ (l2 ++ [58]) _ (by assumption) (by simp only [List.length_append, List.length_singleton]; omega) (Z6.out.tab.on HNX6.out.1)).mono ?_; rintro e w7 ⟨vy6, rfl, hvy6, hny, -⟩; have HNY6 := hide (HNX6.out.trans hny); have hy1 := HNY6.out.1; have hy0 := hvy6.2; clear hny))
  rename_i hHH
  clear hHH
  have z7 := Z6.out.nb hvy6 HNY6.out
  obtain ⟨l3, hl3⟩ : ∃ x, l2 ++ [58] ++ Lib.itoa (C : Int) = x := ⟨_, rfl⟩
  rw [hl3] at z7
  have hd3 : l3.length ≤ 1000 + 42 := by rw [← hl3]; simp only [List.length_append, List.length_singleton]; omega
  have EQ3 := hide (fun (_ : World) => hl3)
  have f7 := z7.s.seven
  have Z7 := hide z7
  clear hB HNX6 HNY6 hvx6 hvy6 hx1 hx0 hy1 hy0 z7 hl3 Z6 f6
  go_wp2_with fail
  refine (HQ.out _).mono ?_
  rintro e w8 ⟨rfl, hb⟩
  have Z8 := hide (Z7.out.kept hb)
  have f8 := Z8.out.s.seven
  clear hb Z7 f7
  go_wp2_with (at_builtin; refine wpl_str rfl _ _ rfl (w.heap.size + 1) _ l3 rfl Z8.out.b ⟨#[45]⟩ rfl (by show l3.length + 1 ≤ _; omega) ?_)
  intro v9 w9 hv hn hkp
  clear hkp
  have z9 := Z8.out.nb (show Byt _ _ _ (l3 ++ [45]) from hv) hn
  obtain ⟨l4, hl4⟩ : ∃ x, l3 ++ [45] = x := ⟨_, rfl⟩
  rw [hl4] at z9
  have hd4 : l4.length ≤ 1000 + 43 := by rw [← hl4]; simp only [List.length_append, List.length_singleton]; omega
  have EQ4 := hide (fun (_ : World) => hl4)
  have f9 := z9.s.seven
  have Z9 := hide z9
  clear hv hn z9 hl4 Z8 f8
  go_wp2_with fail
  refine (appInt_any (w.heap.size + 1) C2 (by omega) _ l4 _ Z9.out.b (by omega) Z9.out.tab).mono ?_
  rintro e w10 ⟨v10, rfl, hv, hn, -⟩
  have z10 := Z9.out.nb hv hn
  obtain ⟨l5, hl5⟩ : ∃ x, l4 ++ Lib.itoa (C2 : Int) = x := ⟨_, rfl⟩
  rw [hl5] at z10
  have hd5 : l5.length ≤ 1000 + 63 := by rw [← hl5]; simp only [List.length_append, List.length_singleton]; omega
  have EQ5 := hide (fun (_ : World) => hl5)
  have f10 := z10.s.seven
  have Z10 := hide z10
  clear hv hn z10 hl5 Z9 f9
  have hpos : 0 < l5.length := by
    have q1 := EQ1.out w
    have q2 := EQ2.out w
    have q3 := EQ3.out w
    have q4 := EQ4.out w
    have q5 := EQ5.out w
    rw [← q5]; simp only [List.length_append]; (try (rw [← q4]; simp only [List.length_append])); (try (rw [← q3]; simp only [List.length_append])); (try (rw [← q2]; simp only [List.length_append])); (try (rw [← q1]; simp only [List.length_append])); omega
  have hcv := byt_string Z10.out.b hpos
  go_wp2
  go_ret
  have q0 := EQ0.out w
  subst q0
  have q1 := EQ1.out w
  subst q1
  have q2 := EQ2.out w
  subst q2
  have q3 := EQ3.out w
  subst q3
  have q4 := EQ4.out w
  subst q4
  have q5 := EQ5.out w
  subst q5
  exact ⟨rfl, Z10.out.low⟩
set_option maxHeartbeats 8000000 in
set_option maxRecDepth 100000 in
/-- uri:L:C-L2:C2 -/
theorem zs_bsn (u : ByteArray) (L C L2 C2 : Nat) (O O2 : Int) (hu0 : 1 ≤ u.size) (hu : u.size ≤ 1000) (hL : L ≤ 1000000) (hC : C ≤ 1000000) (hL2 : L2 ≤ 1000000) (hC2 : C2 ≤ 1000000) (hC1 : (1 : Int) < (C : Int)) (hll : (L : Int) < (L2 : Int))
    (HV : SaysTo 42 #[.agg #[.string u, .int .i64 L, .int .i64 C, .int .i64 O, .int .i64 L2, .int .i64 C2, .int .i64 O2]] true) (HZ : SaysTo 45 #[.agg #[.int .i64 L, .int .i64 C, .int .i64 O]] false) (HO : SaysTo 46 #[.agg #[.string u, .int .i64 L, .int .i64 C, .int .i64 O, .int .i64 L2, .int .i64 C2, .int .i64 O2]] false) (HP : SaysTo 47 #[.agg #[.string u, .int .i64 L, .int .i64 C, .int .i64 O, .int .i64 L2, .int .i64 C2, .int .i64 O2]] true) (HQ : SaysTo 49 #[.agg #[.string u, .int .i64 L, .int .i64 C, .int .i64 O, .int .i64 L2, .int .i64 C2, .int .i64 O2]] false) (w : World) (hT : Tab10 w.heap.size w) :
    Calls Tryd.prog 29 #[.agg #[.string u, .int .i64 L, .int .i64 C, .int .i64 O, .int .i64 L2, .int .i64 C2, .int .i64 O2], .bool false, .bool false] w (TxtRes w (u.data.toList ++ [58] ++ Lib.itoa (L : Int) ++ [58] ++ Lib.itoa (C : Int) ++ [45] ++ Lib.itoa (L2 : Int) ++ [58] ++ Lib.itoa (C2 : Int))) := by
  have eL := itoa_len20 (n := L) (by omega)
  have eC := itoa_len20 (n := C) (by omega)
  have eL2 := itoa_len20 (n := L2) (by omega)
  have eC2 := itoa_len20 (n := C2) (by omega)
  have hd : u.data.toList.length = u.size := by rw [Array.length_toList]; rfl
  have HT := hide hT
  clear hT
  go_enter Tryd.func29, Tryd.ntmps29
  go_wp2_with (at_builtin; refine wpl_str rfl _ _ rfl (w.heap.size + 1) _ [] rfl (Byt.nil (by simp)) u rfl (by simp; omega) ?_)
  intro v0 w0 hv0 hn0 hkp
  clear hkp
  have z0 := ZS.start hv0 hn0 HT.out
  obtain ⟨l0, hl0⟩ : ∃ x, u.data.toList = x := ⟨_, rfl⟩
  rw [hl0] at z0 hd
  have EQ0 := hide (fun (_ : World) => hl0)
  have f0 := z0.s.seven
  have Z0 := hide z0
  clear hv0 hn0 z0 hl0 HT
  go_wp2_with fail
  refine (HV.out _).mono ?_
  rintro e w1 ⟨rfl, hb⟩
  have Z1 := hide (Z0.out.kept hb)
  have f1 := Z1.out.s.seven
  clear hb Z0 f0
  go_wp2_with fail
  refine (HZ.out _).mono ?_
  rintro e w2 ⟨rfl, hb⟩
  have Z2 := hide (Z1.out.kept hb)
  have f2 := Z2.out.s.seven
  clear hb Z1 f1
  go_wp2_with fail
  refine (HO.out _).mono ?_
  rintro e w3 ⟨rfl, hb⟩
  have Z3 := hide (Z2.out.kept hb)
  have f3 := Z3.out.s.seven
  clear hb Z2 f2
  go_wp2_with fail
  refine (HP.out _).mono ?_
  rintro e w4 ⟨rfl, hb⟩
  have Z4 := hide (Z3.out.kept hb)
  have f4 := Z4.out.s.seven
  clear hb Z3 f3
  go_wp2_with (at_builtin; refine wpl_str rfl _ _ rfl (w.heap.size + 1) _ l0 rfl Z4.out.b ⟨#[58]⟩ rfl (by show l0.length + 1 ≤ _; omega) ?_)
  intro v5 w5 hv hn hkp
  clear hkp
  have z5 := Z4.out.nb (show Byt _ _ _ (l0 ++ [58]) from hv) hn
  obtain ⟨l1, hl1⟩ : ∃ x, l0 ++ [58] = x := ⟨_, rfl⟩
  rw [hl1] at z5
  have hd1 : l1.length ≤ 1000 + 1 := by rw [← hl1]; simp only [List.length_append, List.length_singleton]; omega
  have EQ1 := hide (fun (_ : World) => hl1)
  have f5 := z5.s.seven
  have Z5 := hide z5
  clear hv hn z5 hl1 Z4 f4
  go_wp2_with fail
  refine (appInt_any (w.heap.size + 1) L (by omega) _ l1 _ Z5.out.b (by omega) Z5.out.tab).mono ?_
  rintro e w6 ⟨v6, rfl, hv, hn, -⟩
  have z6 := Z5.out.nb hv hn
  obtain ⟨l2, hl2⟩ : ∃ x, l1 ++ Lib.itoa (L : Int) = x := ⟨_, rfl⟩
  rw [hl2] at z6
  have hd2 : l2.length ≤ 1000 + 21 := by rw [← hl2]; simp only [List.length_append, List.length_singleton]; omega
  have EQ2 := hide (fun (_ : World) => hl2)
  have f6 := z6.s.seven
  have Z6 := hide z6
  clear hv hn z6 hl2 Z5 f5
  go_wp2_with fail
  have hB : w.heap.size + 1 ≤ w6.heap.size := Z6.out.b.2
  go_region_held3 (fun w' => (∀ b o, b < w.heap.size + 1 → w'.cell? ⟨b, o, none⟩ = w6.cell? ⟨b, o, none⟩) ∧ w.heap.size + 1 ≤ w'.heap.size ∧ Below (w.heap.size + 1) w6 w')
    (first
      | (with_reducible exact SB.allocDrew hB)
      | (with_reducible exact SB.start hB)
      | (with_reducible exact SB.alloc (SB.start hB) _)
      | ((with_reducible refine SB.of ?_ ?_) <;> assumption))
    (first
      | (refine step_one rfl _ _ rfl (w.heap.size + 1) _ l2 (by rfl) (Byt.drew (Byt.alloc Z6.out.b _)) _ _ 58 (by rfl) (by go_simp; done) (by omega) ?_; intro vx6 wx6 hvx6 hnx hkp; clear hkp; have HNX6 := hide (Nb.trans (Nb.drew (Nb.alloc (Nb.refl _ w6) hB _)) hnx); have hx1 := HNX6.out.1; have hx0 := hvx6.2; clear hnx)
      | (go_at_call 48; refine (appInt_any (w.heap.size + 1) C (by omega) _ (l2 ++ [58]) _ (by assumption) (by simp only [List.length_append, List.length_singleton]; omega) (Z6.out.tab.on HNX6.out.1)).mono ?_; rintro e w7 ⟨vy6, rfl, hvy6, hny, -⟩; have HNY6 := hide (HNX6.out.trans hny); have hy1 := HNY6.out.1; have hy0 := hvy6.2; clear hny))
  rename_i hHH
  clear hHH
  have z7 := Z6.out.nb hvy6 HNY6.out
  obtain ⟨l3, hl3⟩ : ∃ x, l2 ++ [58] ++ Lib.itoa (C : Int) = x := ⟨_, rfl⟩
  rw [hl3] at z7
  have hd3 : l3.length ≤ 1000 + 42 := by rw [← hl3]; simp only [List.length_append, List.length_singleton]; omega
  have EQ3 := hide (fun (_ : World) => hl3)
  have f7 := z7.s.seven
  have Z7 := hide z7
  clear hB HNX6 HNY6 hvx6 hvy6 hx1 hx0 hy1 hy0 z7 hl3 Z6 f6
  go_wp2_with fail
  refine (HQ.out _).mono ?_
  rintro e w8 ⟨rfl, hb⟩
  have Z8 := hide (Z7.out.kept hb)
  have f8 := Z8.out.s.seven
  clear hb Z7 f7
  go_wp2_with (at_builtin; refine wpl_str rfl _ _ rfl (w.heap.size + 1) _ l3 rfl Z8.out.b ⟨#[45]⟩ rfl (by show l3.length + 1 ≤ _; omega) ?_)
  intro v9 w9 hv hn hkp
  clear hkp
  have z9 := Z8.out.nb (show Byt _ _ _ (l3 ++ [45]) from hv) hn
  obtain ⟨l4, hl4⟩ : ∃ x, l3 ++ [45] = x := ⟨_, rfl⟩
  rw [hl4] at z9
  have hd4 : l4.length ≤ 1000 + 43 := by rw [← hl4]; simp only [List.length_append, List.length_singleton]; omega
  have EQ4 := hide (fun (_ : World) => hl4)
  have f9 := z9.s.seven
  have Z9 := hide z9
  clear hv hn z9 hl4 Z8 f8
  go_wp2_with fail
  refine (appInt_any (w.heap.size + 1) L2 (by omega) _ l4 _ Z9.out.b (by omega) Z9.out.tab).mono ?_
  rintro e w10 ⟨v10, rfl, hv, hn, -⟩
  have z10 := Z9.out.nb hv hn
  obtain ⟨l5, hl5⟩ : ∃ x, l4 ++ Lib.itoa (L2 : Int) = x := ⟨_, rfl⟩
  rw [hl5] at z10
  have hd5 : l5.length ≤ 1000 + 63 := by rw [← hl5]; simp only [List.length_append, List.length_singleton]; omega
  have EQ5 := hide (fun (_ : World) => hl5)
  have f10 := z10.s.seven
  have Z10 := hide z10
  clear hv hn z10 hl5 Z9 f9
  go_wp2_with (at_builtin; refine wpl_str rfl _ _ rfl (w.heap.size + 1) _ l5 rfl Z10.out.b ⟨#[58]⟩ rfl (by show l5.length + 1 ≤ _; omega) ?_)
  intro v11 w11 hv hn hkp
  clear hkp
  have z11 := Z10.out.nb (show Byt _ _ _ (l5 ++ [58]) from hv) hn
  obtain ⟨l6, hl6⟩ : ∃ x, l5 ++ [58] = x := ⟨_, rfl⟩
  rw [hl6] at z11
  have hd6 : l6.length ≤ 1000 + 64 := by rw [← hl6]; simp only [List.length_append, List.length_singleton]; omega
  have EQ6 := hide (fun (_ : World) => hl6)
  have f11 := z11.s.seven
  have Z11 := hide z11
  clear hv hn z11 hl6 Z10 f10
  go_wp2_with fail
  refine (appInt_any (w.heap.size + 1) C2 (by omega) _ l6 _ Z11.out.b (by omega) Z11.out.tab).mono ?_
  rintro e w12 ⟨v12, rfl, hv, hn, -⟩
  have z12 := Z11.out.nb hv hn
  obtain ⟨l7, hl7⟩ : ∃ x, l6 ++ Lib.itoa (C2 : Int) = x := ⟨_, rfl⟩
  rw [hl7] at z12
  have hd7 : l7.length ≤ 1000 + 84 := by rw [← hl7]; simp only [List.length_append, List.length_singleton]; omega
  have EQ7 := hide (fun (_ : World) => hl7)
  have f12 := z12.s.seven
  have Z12 := hide z12
  clear hv hn z12 hl7 Z11 f11
  have hpos : 0 < l7.length := by
    have q1 := EQ1.out w
    have q2 := EQ2.out w
    have q3 := EQ3.out w
    have q4 := EQ4.out w
    have q5 := EQ5.out w
    have q6 := EQ6.out w
    have q7 := EQ7.out w
    rw [← q7]; simp only [List.length_append]; (try (rw [← q6]; simp only [List.length_append])); (try (rw [← q5]; simp only [List.length_append])); (try (rw [← q4]; simp only [List.length_append])); (try (rw [← q3]; simp only [List.length_append])); (try (rw [← q2]; simp only [List.length_append])); (try (rw [← q1]; simp only [List.length_append])); omega
  have hcv := byt_string Z12.out.b hpos
  go_wp2
  go_ret
  have q0 := EQ0.out w
  subst q0
  have q1 := EQ1.out w
  subst q1
  have q2 := EQ2.out w
  subst q2
  have q3 := EQ3.out w
  subst q3
  have q4 := EQ4.out w
  subst q4
  have q5 := EQ5.out w
  subst q5
  have q6 := EQ6.out w
  subst q6
  have q7 := EQ7.out w
  subst q7
  exact ⟨rfl, Z12.out.low⟩
end Go.Proofs.YtckgdkjgllopmaaDoor
