/- Walk: laws.FnParse, near. No condition but sizes, and the table that AppendInt reads. -/
import Derived.Test.YtckgdkjgllopmaaDoorTpFM
set_option linter.unusedVariables false
set_option linter.unusedSimpArgs false
namespace Go.Proofs.YtckgdkjgllopmaaDoor
open Go.RowKit Go.Proofs.YtckgdkjgllopmaaDoor.Lines
attribute [local go_sem ↓] Go.wp_at_zero Go.wp_at_succ

theorem only_any (l c o : Int) (w : World) : Calls Tryd.prog 15 #[.agg #[.int .i64 l, .int .i64 c, .int .i64 o]] w fun e w' => e = .returned (.agg #[.int .i64 0, .int .i64 0, .int .i64 o]) ∧ Below w.heap.size w w' := by
  go_enter Tryd.func15, Tryd.ntmps15
  go_wp2
  go_returns
  exact ⟨rfl, by go_grown⟩
theorem bare_any (l c o : Int) (w : World) : Calls Tryd.prog 16 #[.agg #[.int .i64 l, .int .i64 c, .int .i64 o]] w fun e w' => e = .returned (.agg #[.int .i64 l, .int .i64 c, .int .i64 (-1)]) ∧ Below w.heap.size w w' := by
  go_enter Tryd.func16, Tryd.ntmps16
  go_wp2
  go_returns
  exact ⟨rfl, by go_grown⟩
/-- What makes a text that is read. -/
abbrev TPof (u : ByteArray) (l c o l2 c2 o2 : Int) (f p : Bool) (a b d a2 b2 d2 : Int) : Prop := Hid (∀ (_ : World), LetTo u u.size → 1 ≤ u.size → u.size ≤ 1000 → (l < l2 ∨ (l = l2 ∧ c ≤ c2)) → TP u l c o l2 c2 o2 f p a b d a2 b2 d2)

set_option maxHeartbeats 8000000 in
set_option maxRecDepth 100000 in
theorem fnParse_full (u : ByteArray) (l c o l2 c2 o2 : Int) (p : Bool) (hs : u.size ≤ 2147483647) (HF : Hid (near 2 [l, c, o, l2, c2, o2] = true)) (HTP : TPof u l c o l2 c2 o2 true p l c o l2 c2 o2) (w : World) (HT : Hid (Tab10 w.heap.size w)) :
    Calls Tryd.prog 4 #[.string u, ptV l c o, ptV l2 c2 o2, .bool true, .bool p] w fun e w' => e = .returned (.bool true) ∧ Below w.heap.size w w' := by
  have hi0 : ∀ W, (Instr.index 34 (.agg #[.int .i64 l, .int .i64 c, .int .i64 o, .int .i64 l2, .int .i64 c2, .int .i64 o2]) (.int .i64 0)).run Tryd.prog W = .ok (ptV l c o) W := fun W => by kernel_rfl
  have hi1 : ∀ W, (Instr.index 34 (.agg #[.int .i64 l, .int .i64 c, .int .i64 o, .int .i64 l2, .int .i64 c2, .int .i64 o2]) (.int .i64 1)).run Tryd.prog W = .ok (ptV l2 c2 o2) W := fun W => by kernel_rfl
  go_enter Tryd.func4, Tryd.ntmps4
  go_wp2_with fail
  refine (isLetters_any u hs _).mono ?_
  rintro e w1 ⟨b, rfl, hL, rfl⟩
  cases b
  · clear hL HTP
    go_wp2_with fail
    refine (spans_any _).mono ?_
    rintro e w1 ⟨rfl, hb1⟩
    have hbl1 : Below w.heap.size w w1 := Below.trans (by go_grown) (hb1.mono (by simp; omega))
    go_wp2
    go_ret
    exact ⟨rfl, by go_grown⟩
  · have HL := hide (fun (_ : World) => hL rfl)
    clear hL
    go_wp2_with fail
    refine (isNear_any 2 _ _ [l, c, o, l2, c2, o2] (by simp) _ (Ints.blk (Blk.newAt (by simp)) rfl)).mono ?_
    rintro e w1 ⟨rfl, rfl⟩
    rw [HF.out]
    go_wp2_with fail
    refine calls_gen ?_
    intro W hW
    have b6 := blk3_1 hW
    have b7 := blk3_2 hW
    have hbl : Below w.heap.size w W := by rw [hW]; go_grown
    clear hW
    refine (isAhead_any l c o l2 c2 o2 W).mono ?_
    rintro e w2 ⟨b, rfl, hA, hb⟩
    have k6 := b6.kept hb
    have k7 := b7.kept hb
    have hbl2 := hbl.trans (hb.mono hbl.size)
    clear hb hbl b6 b7
    have f6 := k6.three
    have f7 := k7.three
    cases b
    · clear hA HTP HL
      go_wp2_with fail
      refine (spans_any _).mono ?_
      rintro e w3 ⟨rfl, hb1⟩
      have hbl3 := hbl2.trans (hb1.mono hbl2.size)
      clear hb1
      go_wp2
      go_ret
      exact ⟨rfl, hbl3⟩
    · obtain ⟨q1, q2, q3⟩ := HL.out w
      obtain ⟨t, HTx, HPa⟩ := HTP.out w q1 q2 q3 (hA rfl).1
      have K6 := hide k6
      have K7 := hide k7
      have HB2 := hide hbl2
      clear hA HTP HL q1 q2 q3 k6 k7 hbl2
      go_wp2_with fail
      refine wp_gen ?_
      intro W hW
      have K6a := hide (K6.out.al1 hW)
      have K7a := hide (K7.out.al1 hW)
      have K11 := hide (blk1_1 hW)
      have HBa : Hid (Below w.heap.size w W) := hide (by rw [hW]; exact HB2.out.alloc HB2.out.size _)
      clear hW K6 K7 HB2 f6 f7
      refine wp_loop_rounds 3 ?_
      rw [rounds_succ]
      go_wp2_with fail
      rw [rounds_succ]
      go_wp2_with fail
      rw [rounds_succ]
      have f6 := K6a.out.three
      have f7 := K7a.out.three
      have a6 := K6a.out.lt
      have a7 := K7a.out.lt
      go_wp2_with fail
      refine calls_gen ?_
      intro W3 hW3
      have K11b := hide (K11.out.al2 hW3)
      have HBb : Hid (Below w.heap.size w W3) := hide (by rw [hW3]; exact (HBa.out.alloc HBa.out.size _).alloc (Nat.le_trans HBa.out.size (by simp)) _)
      clear hW3 K6a K7a K11 HBa f6 f7 a6 a7 hi0 hi1
      refine (HTx.out W3 (tab_on HT.out HBb.out)).mono ?_
      rintro e w4 ⟨rfl, hb⟩
      have K11c := hide (K11b.out.kept hb)
      have HBc := hide (HBb.out.trans (hb.mono HBb.out.size))
      clear hb K11b HBb HTx
      go_wp2_with fail
      refine (HPa.out _).mono ?_
      rintro e w5 ⟨rfl, hb⟩
      have K11d := hide (K11c.out.kept hb)
      have HBd := hide (HBc.out.trans (hb.mono HBc.out.size))
      clear hb K11c HBc HPa
      go_wp2_with fail
      refine calls_gen ?_
      intro W6 hW6
      have K11e := hide (K11d.out.al2 hW6)
      have K15 := hide (blk2_1 hW6)
      have K16 := hide (blk2_2 hW6)
      have HBe : Hid (Below w.heap.size w W6) := hide (by rw [hW6]; exact (HBd.out.alloc HBd.out.size _).alloc (Nat.le_trans HBd.out.size (by simp)) _)
      clear hW6 K11d HBd
      refine (spans_any _).mono ?_
      rintro e w7 ⟨rfl, hb⟩
      have k11 := K11e.out.kept hb
      have k15 := K15.out.kept hb
      have k16 := K16.out.kept hb
      have HBf := hide (HBe.out.trans (hb.mono HBe.out.size))
      clear hb K11e K15 K16 HBe
      have f15 := k15.three
      have f16 := k16.three
      have c0 := k11.cell 0
      have c1 := k11.cell 1
      have c2' := k11.cell 2
      have c3 := k11.cell 3
      have c4 := k11.cell 4
      have c5 := k11.cell 5
      clear k11 k15 k16
      have heq : (u.toList == u.toList) = true := by simp
      go_wp2
      go_ret
      exact ⟨rfl, HBf.out⟩

set_option maxHeartbeats 8000000 in
set_option maxRecDepth 100000 in
theorem fnParse_off (u : ByteArray) (l c o l2 c2 o2 : Int) (hs : u.size ≤ 2147483647) (HF : Hid (near 2 [l, c, o, l2, c2, o2] = true)) (HTP : TPof u l c o l2 c2 o2 false true 0 0 o 0 0 o2) (w : World) (HT : Hid (Tab10 w.heap.size w)) :
    Calls Tryd.prog 4 #[.string u, ptV l c o, ptV l2 c2 o2, .bool false, .bool true] w fun e w' => e = .returned (.bool true) ∧ Below w.heap.size w w' := by
  have hi0 : ∀ W, (Instr.index 34 (.agg #[.int .i64 l, .int .i64 c, .int .i64 o, .int .i64 l2, .int .i64 c2, .int .i64 o2]) (.int .i64 0)).run Tryd.prog W = .ok (ptV l c o) W := fun W => by kernel_rfl
  have hi1 : ∀ W, (Instr.index 34 (.agg #[.int .i64 l, .int .i64 c, .int .i64 o, .int .i64 l2, .int .i64 c2, .int .i64 o2]) (.int .i64 1)).run Tryd.prog W = .ok (ptV l2 c2 o2) W := fun W => by kernel_rfl
  go_enter Tryd.func4, Tryd.ntmps4
  go_wp2_with fail
  refine (isLetters_any u hs _).mono ?_
  rintro e w1 ⟨b, rfl, hL, rfl⟩
  cases b
  · clear hL HTP
    go_wp2_with fail
    refine (spans_any _).mono ?_
    rintro e w1 ⟨rfl, hb1⟩
    have hbl1 : Below w.heap.size w w1 := Below.trans (by go_grown) (hb1.mono (by simp; omega))
    go_wp2
    go_ret
    exact ⟨rfl, by go_grown⟩
  · have HL := hide (fun (_ : World) => hL rfl)
    clear hL
    go_wp2_with fail
    refine (isNear_any 2 _ _ [l, c, o, l2, c2, o2] (by simp) _ (Ints.blk (Blk.newAt (by simp)) rfl)).mono ?_
    rintro e w1 ⟨rfl, rfl⟩
    rw [HF.out]
    go_wp2_with fail
    refine calls_gen ?_
    intro W hW
    have b6 := blk3_1 hW
    have b7 := blk3_2 hW
    have hbl : Below w.heap.size w W := by rw [hW]; go_grown
    clear hW
    refine (isAhead_any l c o l2 c2 o2 W).mono ?_
    rintro e w2 ⟨b, rfl, hA, hb⟩
    have k6 := b6.kept hb
    have k7 := b7.kept hb
    have hbl2 := hbl.trans (hb.mono hbl.size)
    clear hb hbl b6 b7
    have f6 := k6.three
    have f7 := k7.three
    cases b
    · clear hA HTP HL
      go_wp2_with fail
      refine (spans_any _).mono ?_
      rintro e w3 ⟨rfl, hb1⟩
      have hbl3 := hbl2.trans (hb1.mono hbl2.size)
      clear hb1
      go_wp2
      go_ret
      exact ⟨rfl, hbl3⟩
    · obtain ⟨q1, q2, q3⟩ := HL.out w
      obtain ⟨t, HTx, HPa⟩ := HTP.out w q1 q2 q3 (hA rfl).1
      have K6 := hide k6
      have K7 := hide k7
      have HB2 := hide hbl2
      clear hA HTP HL q1 q2 q3 k6 k7 hbl2
      go_wp2_with fail
      refine wp_gen ?_
      intro W hW
      have K6a := hide (K6.out.al1 hW)
      have K7a := hide (K7.out.al1 hW)
      have K11 := hide (blk1_1 hW)
      have HBa : Hid (Below w.heap.size w W) := hide (by rw [hW]; exact HB2.out.alloc HB2.out.size _)
      have K6q : Hid (∀ (_ : World), w.heap.size < w2.heap.size) := hide (fun _ => K6.out.lt)
      have K7q : Hid (∀ (_ : World), w.heap.size + 1 < w2.heap.size) := hide (fun _ => K7.out.lt)
      clear hW K6 K7 HB2 f6 f7
      refine wp_loop_rounds 3 ?_
      have n6 : w.heap.size < w2.heap.size := K6q.out w
      have n7 : w.heap.size + 1 < w2.heap.size := K7q.out w
      have m6 : ¬ w2.heap.size = w.heap.size := by omega
      have m7 : ¬ w2.heap.size = w.heap.size + 1 := by omega
      rw [rounds_succ]
      go_wp2_with fail
      refine calls_gen ?_
      intro Wa hWa
      have K6b := hide (K6a.out.al1 hWa)
      have K7b := hide (K7a.out.al1 hWa)
      have K11b := hide (K11.out.al1 hWa)
      have HBb : Hid (Below w.heap.size w Wa) := hide (by rw [hWa]; exact HBa.out.alloc HBa.out.size _)
      clear hWa K6a K7a K11 HBa
      refine (only_any _ _ _ _).mono ?_
      rintro e wa ⟨rfl, hb⟩
      have K6c := hide (K6b.out.kept hb)
      have K7c := hide (K7b.out.kept hb)
      have K11c := hide (K11b.out.kept hb)
      have HBc := hide (HBb.out.trans (hb.mono HBb.out.size))
      clear hb K6b K7b K11b HBb
      have d0 := K11c.out.cell 0
      have z0 := K11c.out.frozen 0
      have d1 := K11c.out.cell 1
      have z1 := K11c.out.frozen 1
      have d2 := K11c.out.cell 2
      have z2 := K11c.out.frozen 2
      go_wp2_with fail
      rw [rounds_succ]
      go_wp2_with fail
      refine calls_gen ?_
      intro Wb hWb
      have K6d : Hid (Blk Wb w.heap.size 25 _) := hide (by rw [hWb]; exact (((K6c.out.far (by simp; omega) _).far (by simp; omega) _).far (by simp; omega) _).alloc _)
      have K7d : Hid (Blk Wb (w.heap.size + 1) 25 _) := hide (by rw [hWb]; exact (((K7c.out.far (by simp; omega) _).far (by simp; omega) _).far (by simp; omega) _).alloc _)
      have K11d : Hid (Blk Wb w2.heap.size 34 #[.int .i64 0, .int .i64 0, .int .i64 o, .int .i64 l2, .int .i64 c2, .int .i64 o2]) := hide (by rw [hWb]; exact (((K11c.out.set_ 0 _).set_ 1 _).set_ 2 _).alloc _)
      have HBd : Hid (Below w.heap.size w Wb) := hide (by rw [hWb]; exact (((HBc.out.setCell (p := ⟨w2.heap.size, 0, none⟩) (Nat.le_of_lt n6) _).setCell (p := ⟨w2.heap.size, 1, none⟩) (Nat.le_of_lt n6) _).setCell (p := ⟨w2.heap.size, 2, none⟩) (Nat.le_of_lt n6) _).alloc (by have := HBc.out.size; simp [World.setCell]; omega) _)
      clear hWb K6c K7c K11c HBc d0 d1 d2 z0 z1 z2
      refine (only_any _ _ _ _).mono ?_
      rintro e wb ⟨rfl, hb⟩
      have K6e := hide (K6d.out.kept hb)
      have K7e := hide (K7d.out.kept hb)
      have K11e := hide (K11d.out.kept hb)
      have HBe := hide (HBd.out.trans (hb.mono HBd.out.size))
      clear hb K6d K7d K11d HBd
      have d3 := K11e.out.cell 3
      have z3 := K11e.out.frozen 3
      have d4 := K11e.out.cell 4
      have z4 := K11e.out.frozen 4
      have d5 := K11e.out.cell 5
      have z5 := K11e.out.frozen 5
      have f6 := K6e.out.three
      have f7 := K7e.out.three
      go_wp2_with fail
      rw [rounds_succ]
      go_wp2_with fail
      refine calls_gen ?_
      intro W3 hW3
      have K11b : Hid (Blk W3 w2.heap.size 34 #[.int .i64 0, .int .i64 0, .int .i64 o, .int .i64 0, .int .i64 0, .int .i64 o2]) := hide (by rw [hW3]; exact ((K11e.out.set_ 3 _).set_ 4 _).set_ 5 _)
      have HBb : Hid (Below w.heap.size w W3) := hide (by rw [hW3]; exact ((HBe.out.setCell (p := ⟨w2.heap.size, 3, none⟩) (Nat.le_of_lt n6) _).setCell (p := ⟨w2.heap.size, 4, none⟩) (Nat.le_of_lt n6) _).setCell (p := ⟨w2.heap.size, 5, none⟩) (Nat.le_of_lt n6) _)
      clear hW3 K6e K7e K11e HBe f6 f7 d3 d4 d5 z3 z4 z5 hi0 hi1 n6 n7 m6 m7 K6q K7q
      refine (HTx.out W3 (tab_on HT.out HBb.out)).mono ?_
      rintro e w4 ⟨rfl, hb⟩
      have K11c := hide (K11b.out.kept hb)
      have HBc := hide (HBb.out.trans (hb.mono HBb.out.size))
      clear hb K11b HBb HTx
      go_wp2_with fail
      refine (HPa.out _).mono ?_
      rintro e w5 ⟨rfl, hb⟩
      have K11d := hide (K11c.out.kept hb)
      have HBd := hide (HBc.out.trans (hb.mono HBc.out.size))
      clear hb K11c HBc HPa
      go_wp2_with fail
      refine calls_gen ?_
      intro W6 hW6
      have K11e := hide (K11d.out.al2 hW6)
      have K15 := hide (blk2_1 hW6)
      have K16 := hide (blk2_2 hW6)
      have HBe : Hid (Below w.heap.size w W6) := hide (by rw [hW6]; exact (HBd.out.alloc HBd.out.size _).alloc (Nat.le_trans HBd.out.size (by simp)) _)
      clear hW6 K11d HBd
      refine (spans_any _).mono ?_
      rintro e w7 ⟨rfl, hb⟩
      have k11 := K11e.out.kept hb
      have k15 := K15.out.kept hb
      have k16 := K16.out.kept hb
      have HBf := hide (HBe.out.trans (hb.mono HBe.out.size))
      clear hb K11e K15 K16 HBe
      have f15 := k15.three
      have f16 := k16.three
      have c0 := k11.cell 0
      have c1 := k11.cell 1
      have c2' := k11.cell 2
      have c3 := k11.cell 3
      have c4 := k11.cell 4
      have c5 := k11.cell 5
      clear k11 k15 k16
      have heq : (u.toList == u.toList) = true := by simp
      go_wp2
      go_ret
      exact ⟨rfl, HBf.out⟩

set_option maxHeartbeats 8000000 in
set_option maxRecDepth 100000 in
theorem fnParse_bare (u : ByteArray) (l c o l2 c2 o2 : Int) (hs : u.size ≤ 2147483647) (HF : Hid (near 2 [l, c, o, l2, c2, o2] = true)) (HTP : TPof u l c o l2 c2 o2 false false l c (-1) l2 c2 (-1)) (w : World) (HT : Hid (Tab10 w.heap.size w)) :
    Calls Tryd.prog 4 #[.string u, ptV l c o, ptV l2 c2 o2, .bool false, .bool false] w fun e w' => e = .returned (.bool true) ∧ Below w.heap.size w w' := by
  have hi0 : ∀ W, (Instr.index 34 (.agg #[.int .i64 l, .int .i64 c, .int .i64 o, .int .i64 l2, .int .i64 c2, .int .i64 o2]) (.int .i64 0)).run Tryd.prog W = .ok (ptV l c o) W := fun W => by kernel_rfl
  have hi1 : ∀ W, (Instr.index 34 (.agg #[.int .i64 l, .int .i64 c, .int .i64 o, .int .i64 l2, .int .i64 c2, .int .i64 o2]) (.int .i64 1)).run Tryd.prog W = .ok (ptV l2 c2 o2) W := fun W => by kernel_rfl
  go_enter Tryd.func4, Tryd.ntmps4
  go_wp2_with fail
  refine (isLetters_any u hs _).mono ?_
  rintro e w1 ⟨b, rfl, hL, rfl⟩
  cases b
  · clear hL HTP
    go_wp2_with fail
    refine (spans_any _).mono ?_
    rintro e w1 ⟨rfl, hb1⟩
    have hbl1 : Below w.heap.size w w1 := Below.trans (by go_grown) (hb1.mono (by simp; omega))
    go_wp2
    go_ret
    exact ⟨rfl, by go_grown⟩
  · have HL := hide (fun (_ : World) => hL rfl)
    clear hL
    go_wp2_with fail
    refine (isNear_any 2 _ _ [l, c, o, l2, c2, o2] (by simp) _ (Ints.blk (Blk.newAt (by simp)) rfl)).mono ?_
    rintro e w1 ⟨rfl, rfl⟩
    rw [HF.out]
    go_wp2_with fail
    refine calls_gen ?_
    intro W hW
    have b6 := blk3_1 hW
    have b7 := blk3_2 hW
    have hbl : Below w.heap.size w W := by rw [hW]; go_grown
    clear hW
    refine (isAhead_any l c o l2 c2 o2 W).mono ?_
    rintro e w2 ⟨b, rfl, hA, hb⟩
    have k6 := b6.kept hb
    have k7 := b7.kept hb
    have hbl2 := hbl.trans (hb.mono hbl.size)
    clear hb hbl b6 b7
    have f6 := k6.three
    have f7 := k7.three
    cases b
    · clear hA HTP HL
      go_wp2_with fail
      refine (spans_any _).mono ?_
      rintro e w3 ⟨rfl, hb1⟩
      have hbl3 := hbl2.trans (hb1.mono hbl2.size)
      clear hb1
      go_wp2
      go_ret
      exact ⟨rfl, hbl3⟩
    · obtain ⟨q1, q2, q3⟩ := HL.out w
      obtain ⟨t, HTx, HPa⟩ := HTP.out w q1 q2 q3 (hA rfl).1
      have K6 := hide k6
      have K7 := hide k7
      have HB2 := hide hbl2
      clear hA HTP HL q1 q2 q3 k6 k7 hbl2
      go_wp2_with fail
      refine wp_gen ?_
      intro W hW
      have K6a := hide (K6.out.al1 hW)
      have K7a := hide (K7.out.al1 hW)
      have K11 := hide (blk1_1 hW)
      have HBa : Hid (Below w.heap.size w W) := hide (by rw [hW]; exact HB2.out.alloc HB2.out.size _)
      have K6q : Hid (∀ (_ : World), w.heap.size < w2.heap.size) := hide (fun _ => K6.out.lt)
      have K7q : Hid (∀ (_ : World), w.heap.size + 1 < w2.heap.size) := hide (fun _ => K7.out.lt)
      clear hW K6 K7 HB2 f6 f7
      refine wp_loop_rounds 3 ?_
      have n6 : w.heap.size < w2.heap.size := K6q.out w
      have n7 : w.heap.size + 1 < w2.heap.size := K7q.out w
      have m6 : ¬ w2.heap.size = w.heap.size := by omega
      have m7 : ¬ w2.heap.size = w.heap.size + 1 := by omega
      rw [rounds_succ]
      go_wp2_with fail
      refine calls_gen ?_
      intro Wa hWa
      have K6b := hide (K6a.out.al1 hWa)
      have K7b := hide (K7a.out.al1 hWa)
      have K11b := hide (K11.out.al1 hWa)
      have HBb : Hid (Below w.heap.size w Wa) := hide (by rw [hWa]; exact HBa.out.alloc HBa.out.size _)
      clear hWa K6a K7a K11 HBa
      refine (bare_any _ _ _ _).mono ?_
      rintro e wa ⟨rfl, hb⟩
      have K6c := hide (K6b.out.kept hb)
      have K7c := hide (K7b.out.kept hb)
      have K11c := hide (K11b.out.kept hb)
      have HBc := hide (HBb.out.trans (hb.mono HBb.out.size))
      clear hb K6b K7b K11b HBb
      have d0 := K11c.out.cell 0
      have z0 := K11c.out.frozen 0
      have d1 := K11c.out.cell 1
      have z1 := K11c.out.frozen 1
      have d2 := K11c.out.cell 2
      have z2 := K11c.out.frozen 2
      go_wp2_with fail
      rw [rounds_succ]
      go_wp2_with fail
      refine calls_gen ?_
      intro Wb hWb
      have K6d : Hid (Blk Wb w.heap.size 25 _) := hide (by rw [hWb]; exact (((K6c.out.far (by simp; omega) _).far (by simp; omega) _).far (by simp; omega) _).alloc _)
      have K7d : Hid (Blk Wb (w.heap.size + 1) 25 _) := hide (by rw [hWb]; exact (((K7c.out.far (by simp; omega) _).far (by simp; omega) _).far (by simp; omega) _).alloc _)
      have K11d : Hid (Blk Wb w2.heap.size 34 #[.int .i64 l, .int .i64 c, .int .i64 (-1), .int .i64 l2, .int .i64 c2, .int .i64 o2]) := hide (by rw [hWb]; exact (((K11c.out.set_ 0 _).set_ 1 _).set_ 2 _).alloc _)
      have HBd : Hid (Below w.heap.size w Wb) := hide (by rw [hWb]; exact (((HBc.out.setCell (p := ⟨w2.heap.size, 0, none⟩) (Nat.le_of_lt n6) _).setCell (p := ⟨w2.heap.size, 1, none⟩) (Nat.le_of_lt n6) _).setCell (p := ⟨w2.heap.size, 2, none⟩) (Nat.le_of_lt n6) _).alloc (by have := HBc.out.size; simp [World.setCell]; omega) _)
      clear hWb K6c K7c K11c HBc d0 d1 d2 z0 z1 z2
      refine (bare_any _ _ _ _).mono ?_
      rintro e wb ⟨rfl, hb⟩
      have K6e := hide (K6d.out.kept hb)
      have K7e := hide (K7d.out.kept hb)
      have K11e := hide (K11d.out.kept hb)
      have HBe := hide (HBd.out.trans (hb.mono HBd.out.size))
      clear hb K6d K7d K11d HBd
      have d3 := K11e.out.cell 3
      have z3 := K11e.out.frozen 3
      have d4 := K11e.out.cell 4
      have z4 := K11e.out.frozen 4
      have d5 := K11e.out.cell 5
      have z5 := K11e.out.frozen 5
      have f6 := K6e.out.three
      have f7 := K7e.out.three
      go_wp2_with fail
      rw [rounds_succ]
      go_wp2_with fail
      refine calls_gen ?_
      intro W3 hW3
      have K11b : Hid (Blk W3 w2.heap.size 34 #[.int .i64 l, .int .i64 c, .int .i64 (-1), .int .i64 l2, .int .i64 c2, .int .i64 (-1)]) := hide (by rw [hW3]; exact ((K11e.out.set_ 3 _).set_ 4 _).set_ 5 _)
      have HBb : Hid (Below w.heap.size w W3) := hide (by rw [hW3]; exact ((HBe.out.setCell (p := ⟨w2.heap.size, 3, none⟩) (Nat.le_of_lt n6) _).setCell (p := ⟨w2.heap.size, 4, none⟩) (Nat.le_of_lt n6) _).setCell (p := ⟨w2.heap.size, 5, none⟩) (Nat.le_of_lt n6) _)
      clear hW3 K6e K7e K11e HBe f6 f7 d3 d4 d5 z3 z4 z5 hi0 hi1 n6 n7 m6 m7 K6q K7q
      refine (HTx.out W3 (tab_on HT.out HBb.out)).mono ?_
      rintro e w4 ⟨rfl, hb⟩
      have K11c := hide (K11b.out.kept hb)
      have HBc := hide (HBb.out.trans (hb.mono HBb.out.size))
      clear hb K11b HBb HTx
      go_wp2_with fail
      refine (HPa.out _).mono ?_
      rintro e w5 ⟨rfl, hb⟩
      have K11d := hide (K11c.out.kept hb)
      have HBd := hide (HBc.out.trans (hb.mono HBc.out.size))
      clear hb K11c HBc HPa
      go_wp2_with fail
      refine calls_gen ?_
      intro W6 hW6
      have K11e := hide (K11d.out.al2 hW6)
      have K15 := hide (blk2_1 hW6)
      have K16 := hide (blk2_2 hW6)
      have HBe : Hid (Below w.heap.size w W6) := hide (by rw [hW6]; exact (HBd.out.alloc HBd.out.size _).alloc (Nat.le_trans HBd.out.size (by simp)) _)
      clear hW6 K11d HBd
      refine (spans_any _).mono ?_
      rintro e w7 ⟨rfl, hb⟩
      have k11 := K11e.out.kept hb
      have k15 := K15.out.kept hb
      have k16 := K16.out.kept hb
      have HBf := hide (HBe.out.trans (hb.mono HBe.out.size))
      clear hb K11e K15 K16 HBe
      have f15 := k15.three
      have f16 := k16.three
      have c0 := k11.cell 0
      have c1 := k11.cell 1
      have c2' := k11.cell 2
      have c3 := k11.cell 3
      have c4 := k11.cell 4
      have c5 := k11.cell 5
      clear k11 k15 k16
      have heq : (u.toList == u.toList) = true := by simp
      go_wp2
      go_ret
      exact ⟨rfl, HBf.out⟩
end Go.Proofs.YtckgdkjgllopmaaDoor
