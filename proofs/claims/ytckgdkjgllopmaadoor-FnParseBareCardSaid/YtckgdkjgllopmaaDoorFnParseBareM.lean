/- Walk: laws.FnParseBare, near. No condition but sizes, and the table that AppendInt reads. -/
import Derived.Test.YtckgdkjgllopmaaDoorFnParseM
import Derived.Test.YtckgdkjgllopmaaDoorTwoPtM
import Derived.Deep.DeepCutAuto
set_option linter.unusedVariables false
set_option linter.unusedSimpArgs false
namespace Go.Proofs.YtckgdkjgllopmaaDoor
open Go.RowKit Go.Proofs.YtckgdkjgllopmaaDoor.Lines
attribute [local go_sem ↓] Go.wp_at_zero Go.wp_at_succ

/-- What makes a text of offsets that is read. -/
abbrev TQof (u : ByteArray) (l c o l2 c2 o2 : Int) : Prop := Hid (∀ (_ : World), LetTo u u.size → 1 ≤ u.size → u.size ≤ 1000 → TP u 0 0 o 0 0 o2 false true 0 0 o 0 0 o2)
set_option maxHeartbeats 8000000 in
set_option maxRecDepth 100000 in
theorem fnParseBare_near (u : ByteArray) (l c o l2 c2 o2 : Int) (offs : Bool) (hs : u.size ≤ 2147483647) (HF : Hid (near 2 [l, c, o, l2, c2, o2] = true)) (HTP : TPof u l c (-1) l2 c2 (-1) false false l c (-1) l2 c2 (-1)) (HTQ : TQof u l c o l2 c2 o2) (w : World) (HT : Hid (Tab10 w.heap.size w)) :
    Calls Tryd.prog 5 #[.string u, ptV l c o, ptV l2 c2 o2, .bool offs] w fun e w' => e = .returned (.bool true) ∧ Below w.heap.size w w' := by
  go_enter Tryd.func5, Tryd.ntmps5
  go_wp2_with fail
  refine (isLetters_any u hs _).mono ?_
  rintro e w1 ⟨b, rfl, hL, rfl⟩
  cases b
  · clear hL HTP HTQ
    go_wp2_with fail
    refine (spans_any _).mono ?_
    rintro e w1 ⟨rfl, hb1⟩
    have hbl1 : Below w.heap.size w w1 := Below.trans (by go_grown) (hb1.mono (by simp; omega))
    go_wp2
    go_ret
    exact ⟨rfl, by go_grown⟩
  · have HL := hide (fun (_ : World) => hL rfl)
    clear hL
    go_wp2_with fail
    refine (isNear_any 2 _ _ [l, c, o, l2, c2, o2] (by simp) _ (Ints.blk (Blk.newAt (by simp)) rfl)).mono ?_
    rintro e w1 ⟨rfl, rfl⟩
    rw [HF.out]
    go_wp2_with fail
    refine calls_gen ?_
    intro W hW
    have b6 := blk3_1 hW
    have b7 := blk3_2 hW
    have hbl : Below w.heap.size w W := by rw [hW]; go_grown
    clear hW
    refine (isAhead_any l c o l2 c2 o2 W).mono ?_
    rintro e w2 ⟨b, rfl, hA, hb⟩
    have k6 := b6.kept hb
    have k7 := b7.kept hb
    have hbl2 := hbl.trans (hb.mono hbl.size)
    clear hb hbl b6 b7
    have f6 := k6.three
    have f7 := k7.three
    cases b
    · clear hA HTP HTQ HL
      go_wp2_with fail
      refine (spans_any _).mono ?_
      rintro e w3 ⟨rfl, hb1⟩
      have hbl3 := hbl2.trans (hb1.mono hbl2.size)
      clear hb1
      go_wp2
      go_ret
      exact ⟨rfl, hbl3⟩
    · obtain ⟨q1, q2, q3⟩ := HL.out w
      obtain ⟨t, HTx, HPa⟩ := HTP.out w q1 q2 q3 (hA rfl).1
      obtain ⟨tq, HTq, HPq⟩ := HTQ.out w q1 q2 q3
      clear hA HTP HTQ HL q1 q2 q3
      go_upto_region 5 with fail
      have hz2 := hbl2.size
      have c1 := k6.lt
      have c2' := k7.lt
      have hD : w2.drew.heap.size = w2.heap.size := rfl
      have B1 := hide k6
      have B2 := hide k7
      clear k6 k7
      go_cut [9, 10] (fun s11 s12 wc => ∃ g11 g12 : Nat, s11 = .pointer (some ⟨g11, 0, none⟩) ∧ s12 = .pointer (some ⟨g12, 0, none⟩) ∧ w.heap.size + 1 < g11 ∧ w.heap.size + 1 < g12 ∧ ¬ g11 = g12 ∧ CutW w wc w.heap.size (w.heap.size + 1) g11 g12 #[.int .i64 l, .int .i64 c, .int .i64 o] #[.int .i64 l2, .int .i64 c2, .int .i64 o2] #[.int .i64 l, .int .i64 c, .int .i64 (-1)] #[.int .i64 l2, .int .i64 c2, .int .i64 (-1)])
      case first =>
        go_region_held3? (fun w' => (∀ b o, b < w2.heap.size → w'.cell? ⟨b, o, none⟩ = w2.cell? ⟨b, o, none⟩) ∧ w2.heap.size ≤ w'.heap.size ∧ Below w2.heap.size w2 w')
          (first
            | (with_reducible exact SB.start (by omega))
            | (go_split_ands; (repeat' (first | (with_reducible exact ⟨by assumption, by assumption, by assumption⟩) | (with_reducible exact SB.start (Nat.le_refl _)) | (with_reducible exact SB.start' (Nat.le_refl _)) | (with_reducible refine SB.alloc ?_ _) | (with_reducible refine SB.drew_ ?_) | (with_reducible refine SB.set ?_ ?_ _) | (with_reducible refine SB.call ?_ (by assumption)) | (simp only [World.alloc, Array.size_push]; omega) | (dsimp only; omega) | omega)); done))
          (first
            | (go_at_call 16; refine (bare_any _ _ _ _).mono ?_; rintro e w1 ⟨rfl, hb⟩; have hzz := hb.size; (try simp only [World.size_alloc, World.size_drew_] at hzz); (try (have kB := Blk.kept kB hb; (try simp only [World.size_alloc, World.size_drew_] at kB); have tB := kB.three; have lB := kB.lt)); (try (have kB := Blk.kept (Blk.alloc kA _) hb; (try simp only [World.size_alloc, World.size_drew_] at kB); have tB := kB.three; have lB := kB.lt)); (try (have kA := Blk.kept kA hb; (try simp only [World.size_alloc, World.size_drew_] at kA); have tA := kA.three; have lA := kA.lt)); (try (have kB := Blk.kept (Blk.alloc (Blk.new _ _ _) _) hb; (try simp only [World.size_alloc, World.size_drew_] at kB); have tB := kB.three; have lB := kB.lt)); (try (have kA := Blk.kept (Blk.new _ _ _) hb; (try simp only [World.size_alloc, World.size_drew_] at kA); have tA := kA.three; have lA := kA.lt)); (try (have kB := Blk.kept (Blk.drew (Blk.alloc (Blk.new _ _ _) _)) hb; (try simp only [World.size_alloc, World.size_drew_] at kB); have tB := kB.three; have lB := kB.lt)); (try (have kA := Blk.kept (Blk.drew (Blk.new _ _ _)) hb; (try simp only [World.size_alloc, World.size_drew_] at kA); have tA := kA.three; have lA := kA.lt))))
        go_goals
        all_goals ((try (go_wp2_with fail)); (try go_meet); refine ⟨_, _, rfl, rfl, ?_, ?_, ?_, cutW_of hbl2 (by omega) B1.out B2.out ?_ ?_ ?_⟩)
        all_goals first
          | ((try simp only [World.size_alloc, World.size_drew_]); omega)
          | (go_split_ands; (repeat' (first | (with_reducible exact ⟨by assumption, by assumption, by assumption⟩) | (with_reducible exact SB.start (Nat.le_refl _)) | (with_reducible exact SB.start' (Nat.le_refl _)) | (with_reducible refine SB.alloc ?_ _) | (with_reducible refine SB.drew_ ?_) | (with_reducible refine SB.set ?_ ?_ _) | (with_reducible refine SB.call ?_ (by assumption)) | (simp only [World.alloc, Array.size_push]; omega) | (dsimp only; omega) | omega)); done)
          | (go_split_ands; (repeat' (first | (with_reducible assumption) | (with_reducible refine Blk.newAt ?_) | (with_reducible apply put3_) | (with_reducible refine Blk.far ?_ (by dsimp only; omega) _) | (with_reducible refine Blk.alloc ?_ _) | (with_reducible refine Blk.drew ?_) | (with_reducible rfl) | (simp; done) | omega)); done)
          | skip
      case rest =>
        obtain ⟨g11, g12, rfl, rfl, n1, n2, n3, k9, k10, k11, k12, hbc⟩ := hcut
        clear f6 f7 hbl2 B1 B2 hz2 c1 c2' hD
        have l11 := k11.lt
        have l12 := k12.lt
        have f9 := k9.three
        have f10 := k10.three
        have f11 := k11.three
        have f12 := k12.three
        cases offs
        · clear HTq HPq
          go_wp2_with fail
          refine (HTx.out _ (tab_on HT.out hbc)).mono ?_
          rintro e w4 ⟨rfl, hb⟩
          have K11c := hide (k11.kept hb)
          have K12c := hide (k12.kept hb)
          have HBc := hide (hbc.trans (hb.mono (hbc).size))
          clear hb
          go_wp2_with fail
          refine (HPa.out _).mono ?_
          rintro e w5 ⟨rfl, hb⟩
          have K11d := hide (K11c.out.kept hb)
          have K12d := hide (K12c.out.kept hb)
          have HBd := hide (HBc.out.trans (hb.mono HBc.out.size))
          clear hb K11c K12c HBc
          go_wp2_with fail
          refine calls_gen ?_
          intro W6 hW6
          have K11e := hide (K11d.out.al2 hW6)
          have K12e := hide (K12d.out.al2 hW6)
          have K15 := hide (blk2_1 hW6)
          have K16 := hide (blk2_2 hW6)
          have HBe : Hid (Below w.heap.size w W6) := hide (by rw [hW6]; exact (HBd.out.alloc HBd.out.size _).alloc (Nat.le_trans HBd.out.size (by simp)) _)
          clear hW6 K11d K12d HBd
          refine (spans_any _).mono ?_
          rintro e w7 ⟨rfl, hb⟩
          have k11' := K11e.out.kept hb
          have k12' := K12e.out.kept hb
          have k15 := K15.out.kept hb
          have k16 := K16.out.kept hb
          have HBf := hide (HBe.out.trans (hb.mono HBe.out.size))
          clear hb K11e K12e K15 K16 HBe
          have f15 := k15.three
          have f16 := k16.three
          have f21 := k11'.three
          have f22 := k12'.three
          clear k11' k12' k15 k16
          have heq : (u.toList == u.toList) = true := by simp
          go_wp2
          go_ret
          exact ⟨rfl, HBf.out⟩
        · clear HTx HPa
          go_upto_region 7 with fail
          have m1 : ¬ w.heap.size = g11 := by omega
          have m2 : ¬ w.heap.size = g12 := by omega
          have m3 : ¬ w.heap.size + 1 = g11 := by omega
          have m4 : ¬ w.heap.size + 1 = g12 := by omega
          have l9 := k9.lt
          have l10 := k10.lt
          have K9 := hide k9
          have K10 := hide k10
          clear k9 k10
          go_cut [9] (fun s11 wx => s11 = .pointer (some ⟨g11, 0, none⟩) ∧ CutW w wx w.heap.size (w.heap.size + 1) g11 g12 #[.int .i64 l, .int .i64 c, .int .i64 o] #[.int .i64 l2, .int .i64 c2, .int .i64 o2] #[.int .i64 0, .int .i64 0, .int .i64 o] #[.int .i64 0, .int .i64 0, .int .i64 o2])
          case first =>
            go_region_held3 (fun w' => (∀ b o, b < wc.heap.size → ¬ b = g11 → ¬ b = g12 → w'.cell? ⟨b, o, none⟩ = wc.cell? ⟨b, o, none⟩) ∧ wc.heap.size ≤ w'.heap.size ∧ Off2 (g11) (g12) wc w')
    (first
      | (go_split_ands; with_reducible (refine SY.set ?_ ?_ _; refine SY.set ?_ ?_ _; refine SY.set ?_ ?_ _; exact ⟨by assumption, by assumption, by assumption⟩; all_goals first | exact Or.inl rfl | exact Or.inr rfl))
      | (with_reducible exact SY.start)
      | (go_split_ands; (with_reducible refine SY.call ?_ hb); exact ⟨by assumption, by assumption, by assumption⟩))
    (first
      | (go_at_call 15; refine (only_any _ _ _ _).mono ?_; rintro e w1 ⟨rfl, hb⟩; have kk := Blk.kept (g := g11) (by assumption) hb; have kk := Blk.kept (g := g12) (by assumption) hb; have k2 := Blk.three (g := g11) (by assumption); have k3 := Blk.three (g := g12) (by assumption)))
            go_goals
            all_goals (try (go_wp2_with fail))
            all_goals (try go_meet)
            all_goals go_split_ands
            all_goals (refine ⟨rfl, cutW_of2 (by assumption) hbc (by omega) (by omega) K9.out K10.out (by omega) (by omega) (by omega) (by omega) ?_ ?_⟩
                       · (repeat' (first | (with_reducible assumption) | (with_reducible refine Blk.newAt ?_) | (with_reducible apply put3_) | (with_reducible refine Blk.far ?_ (by dsimp only; omega) _) | (with_reducible refine Blk.alloc ?_ _) | (with_reducible refine Blk.drew ?_) | (with_reducible rfl) | (simp; done) | omega))
                       · (repeat' (first | (with_reducible assumption) | (with_reducible refine Blk.newAt ?_) | (with_reducible apply put3_) | (with_reducible refine Blk.far ?_ (by dsimp only; omega) _) | (with_reducible refine Blk.alloc ?_ _) | (with_reducible refine Blk.drew ?_) | (with_reducible rfl) | (simp; done) | omega)))
          case rest =>
            obtain ⟨rfl, k9, k10, k11, k12, hbx⟩ := hcut
            clear f9 f10 f11 f12 l9 l10 K9 K10 m1 m2 m3 m4
            have l11 := k11.lt
            have l12 := k12.lt
            have f9 := k9.three
            have f10 := k10.three
            have f11 := k11.three
            have f12 := k12.three
            go_wp2_with fail
            refine (HTq.out _ (tab_on HT.out hbx)).mono ?_
            rintro e w4 ⟨rfl, hb⟩
            have K11c := hide (k11.kept hb)
            have K12c := hide (k12.kept hb)
            have HBc := hide (hbx.trans (hb.mono (hbx).size))
            clear hb
            go_wp2_with fail
            refine (HPq.out _).mono ?_
            rintro e w5 ⟨rfl, hb⟩
            have K11d := hide (K11c.out.kept hb)
            have K12d := hide (K12c.out.kept hb)
            have HBd := hide (HBc.out.trans (hb.mono HBc.out.size))
            clear hb K11c K12c HBc
            go_wp2_with fail
            refine calls_gen ?_
            intro W6 hW6
            have K11e := hide (K11d.out.al2 hW6)
            have K12e := hide (K12d.out.al2 hW6)
            have K15 := hide (blk2_1 hW6)
            have K16 := hide (blk2_2 hW6)
            have HBe : Hid (Below w.heap.size w W6) := hide (by rw [hW6]; exact (HBd.out.alloc HBd.out.size _).alloc (Nat.le_trans HBd.out.size (by simp)) _)
            clear hW6 K11d K12d HBd
            refine (spans_any _).mono ?_
            rintro e w7 ⟨rfl, hb⟩
            have k11' := K11e.out.kept hb
            have k12' := K12e.out.kept hb
            have k15 := K15.out.kept hb
            have k16 := K16.out.kept hb
            have HBf := hide (HBe.out.trans (hb.mono HBe.out.size))
            clear hb K11e K12e K15 K16 HBe
            have f15 := k15.three
            have f16 := k16.three
            have f21 := k11'.three
            have f22 := k12'.three
            clear k11' k12' k15 k16
            have heq : (u.toList == u.toList) = true := by simp
            go_wp2
            go_ret
            exact ⟨rfl, HBf.out⟩
end Go.Proofs.YtckgdkjgllopmaaDoor
