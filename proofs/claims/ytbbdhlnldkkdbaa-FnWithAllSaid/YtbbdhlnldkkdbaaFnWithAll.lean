/- Walk: laws.FnWithAll, from the places on. No condition but sizes. -/
import Derived.Test.YtbbdhlnldkkdbaaPlaces
import Derived.Test.YtbbdhlnldkkdbaaMade
import Derived.Test.YtbbdhlnldkkdbaaSpans
import Derived.Deep.DeepCutAuto
namespace Go.Proofs.Ytbbdhlnldkkdbaa
open Go.RowKit
attribute [local go_sem ↓] Go.wp_at_zero Go.wp_at_succ

set_option maxHeartbeats 4000000 in
theorem fnWithAll_near (s : ByteArray) (i j : Nat) (hs : s.size ≤ 2147483647) (hij : i ≤ j) (hj : j < s.size) (hsh : shortB [s] = true) (bare : Bool) (w : World) :
    Calls Try.prog 12 #[.string s, .int .i64 i, .int .i64 j, .bool bare] w fun e w' => e = .returned (.bool true) ∧ Below w.heap.size w w' := by
  have HF := hide hsh
  have HP := hide (fun W => place_any s i (by omega) hs W)
  have HQ := hide (fun W => place_any s j (by omega) hs W)
  have HW := hide (fun W => withAll_only s i j hs hij hj W)
  have HV := hide (fun W => withAll_bare s i j hs hij (by omega) W)
  have q1 : decide ((i : Int) < 0) = false := by simp
  have q2 : decide (j < i) = false := by simp; omega
  have q3 : decide (s.size ≤ j) = false := by simp; omega
  generalize (nlTo s i : Int) + 1 = a at *
  generalize (i : Int) - lastNl s i = b at *
  generalize (nlTo s j : Int) + 1 = a2 at *
  generalize (j : Int) - lastNl s j = b2 at *
  clear hsh
  go_enter Try.func12, Try.ntmps12
  go_wp2_with fail
  refine (isShort_any _ _ [s] (by simp) (by simp; omega) _ (Strs.blk (Blk.newAt (by simp)) rfl)).mono ?_
  rintro e w1 ⟨rfl, rfl⟩
  rw [HF.out]
  go_wp2_with fail
  refine (HP.out _).mono ?_
  rintro e w1 ⟨rfl, hb1⟩
  have hbl1 : Below w.heap.size w w1 := Below.trans (by go_grown) (hb1.mono (by simp))
  go_wp2_with fail
  refine (HQ.out _).mono ?_
  rintro e w2 ⟨rfl, hb2⟩
  have hbl2 := hbl1.trans (hb2.mono hbl1.size)
  have hz2 := hbl2.size
  clear hb1 hb2 hbl1
  go_upto_region 6 with fail
  refine wp_gen ?_
  intro W hW
  have hblW : Below w.heap.size w W := by rw [hW]; go_grown
  have b1 := blk2_1 hW
  have b2 := blk2_2 hW
  have c1 := b1.lt
  have c2 := b2.lt
  have f1 := b1.three
  have f2 := b2.three
  clear hW hbl2
  have hD : W.drew.heap.size = W.heap.size := rfl
  have B1 := hide b1
  have B2 := hide b2
  clear b1 b2
  go_cut [11, 12] (fun s11 s12 wc => ∃ g11 g12 : Nat, s11 = .pointer (some ⟨g11, 0, none⟩) ∧ s12 = .pointer (some ⟨g12, 0, none⟩) ∧ w2.heap.size + 1 < g11 ∧ w2.heap.size + 1 < g12 ∧ ¬ g11 = g12 ∧ CutW w wc w2.heap.size (w2.heap.size + 1) g11 g12 #[.int .i64 a, .int .i64 b, .int .i64 i] #[.int .i64 a2, .int .i64 b2, .int .i64 j] #[.int .i64 0, .int .i64 0, .int .i64 i] #[.int .i64 0, .int .i64 0, .int .i64 j])
  case first =>
    go_region_held3? (fun w' => (∀ b o, b < W.heap.size → w'.cell? ⟨b, o, none⟩ = W.cell? ⟨b, o, none⟩) ∧ W.heap.size ≤ w'.heap.size ∧ Below W.heap.size W w')
      (first
        | (with_reducible exact SB.start (by omega))
        | (go_split_ands; (repeat' (first | (with_reducible exact ⟨by assumption, by assumption, by assumption⟩) | (with_reducible exact SB.start (Nat.le_refl _)) | (with_reducible exact SB.start' (Nat.le_refl _)) | (with_reducible refine SB.alloc ?_ _) | (with_reducible refine SB.drew_ ?_) | (with_reducible refine SB.set ?_ ?_ _) | (with_reducible refine SB.call ?_ (by assumption)) | (simp only [World.alloc, Array.size_push]; omega) | (dsimp only; omega) | omega)); done))
      (first
        | (go_at_call 20; refine (only_any _ _ _ _).mono ?_; rintro e w1 ⟨rfl, hb⟩; have hzz := hb.size; (try simp only [World.size_alloc, World.size_drew_] at hzz); (try (have kB := Blk.kept kB hb; (try simp only [World.size_alloc, World.size_drew_] at kB); have tB := kB.three; have lB := kB.lt)); (try (have kB := Blk.kept (Blk.alloc kA _) hb; (try simp only [World.size_alloc, World.size_drew_] at kB); have tB := kB.three; have lB := kB.lt)); (try (have kA := Blk.kept kA hb; (try simp only [World.size_alloc, World.size_drew_] at kA); have tA := kA.three; have lA := kA.lt)); (try (have kB := Blk.kept (Blk.alloc (Blk.new _ _ _) _) hb; (try simp only [World.size_alloc, World.size_drew_] at kB); have tB := kB.three; have lB := kB.lt)); (try (have kA := Blk.kept (Blk.new _ _ _) hb; (try simp only [World.size_alloc, World.size_drew_] at kA); have tA := kA.three; have lA := kA.lt)); (try (have kB := Blk.kept (Blk.drew (Blk.alloc (Blk.new _ _ _) _)) hb; (try simp only [World.size_alloc, World.size_drew_] at kB); have tB := kB.three; have lB := kB.lt)); (try (have kA := Blk.kept (Blk.drew (Blk.new _ _ _)) hb; (try simp only [World.size_alloc, World.size_drew_] at kA); have tA := kA.three; have lA := kA.lt))))
    go_goals
    all_goals ((try (go_wp2_with fail)); (try go_meet); refine ⟨_, _, rfl, rfl, ?_, ?_, ?_, cutW_of hblW (by omega) B1.out B2.out ?_ ?_ ?_⟩)
    all_goals first
      | ((try simp only [World.size_alloc, World.size_drew_]); omega)
      | (go_split_ands; (repeat' (first | (with_reducible exact ⟨by assumption, by assumption, by assumption⟩) | (with_reducible exact SB.start (Nat.le_refl _)) | (with_reducible exact SB.start' (Nat.le_refl _)) | (with_reducible refine SB.alloc ?_ _) | (with_reducible refine SB.drew_ ?_) | (with_reducible refine SB.set ?_ ?_ _) | (with_reducible refine SB.call ?_ (by assumption)) | (simp only [World.alloc, Array.size_push]; omega) | (dsimp only; omega) | omega)); done)
      | (go_split_ands; (repeat' (first | (with_reducible assumption) | (with_reducible refine Blk.newAt ?_) | (with_reducible apply put3_) | (with_reducible refine Blk.far ?_ (by dsimp only; omega) _) | (with_reducible refine Blk.alloc ?_ _) | (with_reducible refine Blk.drew ?_) | (with_reducible rfl) | (simp; done) | omega)); done)
      | skip
  case rest =>
    obtain ⟨g11, g12, rfl, rfl, n1, n2, n3, k9, k10, k11, k12, hbc⟩ := hcut
    have l11 := k11.lt
    have l12 := k12.lt
    have f9 := k9.three
    have f10 := k10.three
    have f11 := k11.three
    have f12 := k12.three
    cases bare
    · go_wp2_with fail
      refine (HW.out _).mono ?_
      rintro e w3 ⟨rfl, hb3⟩
      have hbl3 := hbc.trans (hb3.mono hbc.size)
      have m9 := k9.kept hb3
      have m10 := k10.kept hb3
      have hz3 := hbl3.size
      have hy3 := hb3.size
      go_wp2_with fail
      refine (spans_any _).mono ?_
      rintro e w4 ⟨rfl, hb4⟩
      have hbl4 : Below w.heap.size w w4 := Below.trans (by go_grown) (hb4.mono (by simp; omega))
      have h9 := (((m9.alloc _).alloc _).kept hb4).three
      have h10 := (((m10.alloc _).alloc _).kept hb4).three
      have h13 := Blk.three (((Blk.newAt (w := w3) (g := w3.heap.size) rfl).alloc _).kept hb4)
      have h14 := Blk.three (Blk.kept (Blk.newAt (g := w3.heap.size + 1) (by simp)) hb4)
      go_wp2
      go_ret
      exact ⟨rfl, hbl4⟩
    · go_upto_region 8 with fail
      have m1 : ¬ w2.heap.size = g11 := by omega
      have m2 : ¬ w2.heap.size = g12 := by omega
      have m3 : ¬ w2.heap.size + 1 = g11 := by omega
      have m4 : ¬ w2.heap.size + 1 = g12 := by omega
      have l9 := k9.lt
      have l10 := k10.lt
      have K9 := hide k9
      have K10 := hide k10
      clear k9 k10
      go_cut [11] (fun s11 wx => s11 = .pointer (some ⟨g11, 0, none⟩) ∧ CutW w wx w2.heap.size (w2.heap.size + 1) g11 g12 #[.int .i64 a, .int .i64 b, .int .i64 i] #[.int .i64 a2, .int .i64 b2, .int .i64 j] #[.int .i64 a, .int .i64 b, .int .i64 (-1)] #[.int .i64 a2, .int .i64 b2, .int .i64 (-1)])
      case first =>
        go_region_held3 (fun w' => (∀ b o, b < wc.heap.size → ¬ b = g11 → ¬ b = g12 → w'.cell? ⟨b, o, none⟩ = wc.cell? ⟨b, o, none⟩) ∧ wc.heap.size ≤ w'.heap.size ∧ Off2 (g11) (g12) wc w')
    (first
      | (go_split_ands; with_reducible (refine SY.set ?_ ?_ _; refine SY.set ?_ ?_ _; refine SY.set ?_ ?_ _; exact ⟨by assumption, by assumption, by assumption⟩; all_goals first | exact Or.inl rfl | exact Or.inr rfl))
      | (with_reducible exact SY.start)
      | (go_split_ands; (with_reducible refine SY.call ?_ hb); exact ⟨by assumption, by assumption, by assumption⟩))
    (first
      | (go_at_call 21; refine (bare_any _ _ _ _).mono ?_; rintro e w1 ⟨rfl, hb⟩; have kk := Blk.kept (g := g11) (by assumption) hb; have kk := Blk.kept (g := g12) (by assumption) hb; have k2 := Blk.three (g := g11) (by assumption); have k3 := Blk.three (g := g12) (by assumption)))
        go_goals
        all_goals (try (go_wp2_with fail))
        all_goals (try go_meet)
        all_goals go_split_ands
        all_goals (refine ⟨rfl, cutW_of2 (by assumption) hbc (by omega) (by omega) K9.out K10.out (by omega) (by omega) (by omega) (by omega) ?_ ?_⟩
                   · (repeat' (first | (with_reducible assumption) | (with_reducible refine Blk.newAt ?_) | (with_reducible apply put3_) | (with_reducible refine Blk.far ?_ (by dsimp only; omega) _) | (with_reducible refine Blk.alloc ?_ _) | (with_reducible refine Blk.drew ?_) | (with_reducible rfl) | (simp; done) | omega))
                   · (repeat' (first | (with_reducible assumption) | (with_reducible refine Blk.newAt ?_) | (with_reducible apply put3_) | (with_reducible refine Blk.far ?_ (by dsimp only; omega) _) | (with_reducible refine Blk.alloc ?_ _) | (with_reducible refine Blk.drew ?_) | (with_reducible rfl) | (simp; done) | omega)))
      case rest =>
        obtain ⟨rfl, k9, k10, k11, k12, hbx⟩ := hcut
        clear f9 f10 f11 f12 l9 l10 K9 K10 m1 m2 m3 m4 HW
        have l11 := k11.lt
        have l12 := k12.lt
        have f9 := k9.three
        have f10 := k10.three
        have f11 := k11.three
        have f12 := k12.three
        go_wp2_with fail
        refine (HV.out _).mono ?_
        rintro e w3 ⟨rfl, hb3⟩
        have hbl3 := hbx.trans (hb3.mono hbx.size)
        have m9 := k9.kept hb3
        have m10 := k10.kept hb3
        have hz3 := hbl3.size
        have hy3 := hb3.size
        go_wp2_with fail
        refine (spans_any _).mono ?_
        rintro e w4 ⟨rfl, hb4⟩
        have hbl4 : Below w.heap.size w w4 := Below.trans (by go_grown) (hb4.mono (by simp; omega))
        have h9 := (((m9.alloc _).alloc _).kept hb4).three
        have h10 := (((m10.alloc _).alloc _).kept hb4).three
        have h13 := Blk.three (((Blk.newAt (w := w3) (g := w3.heap.size) rfl).alloc _).kept hb4)
        have h14 := Blk.three (Blk.kept (Blk.newAt (g := w3.heap.size + 1) (by simp)) hb4)
        go_wp2
        go_ret
        exact ⟨rfl, hbl4⟩
end Go.Proofs.Ytbbdhlnldkkdbaa
