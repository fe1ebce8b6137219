/- Walk: laws.FnWithOffset, from the places on. No condition but sizes. -/
import Derived.Test.YtbbdhlnldkkdbaaPlaces
import Derived.Test.YtbbdhlnldkkdbaaMade
import Derived.Test.YtbbdhlnldkkdbaaSpans
import Derived.Deep.DeepCutAuto
namespace Go.Proofs.Ytbbdhlnldkkdbaa
open Go.RowKit
attribute [local go_sem ↓] Go.wp_at_zero Go.wp_at_succ

set_option maxHeartbeats 4000000 in
theorem fnWithOffset_near (s : ByteArray) (i j : Nat) (hs : s.size ≤ 2147483647) (hij : i ≤ j) (hj : j ≤ s.size) (hsh : shortB [s] = true) (w : World) :
    Calls Try.prog 13 #[.string s, .int .i64 i, .int .i64 j] w fun e w' => e = .returned (.bool true) ∧ Below w.heap.size w w' := by
  have HF := hide hsh
  have HP := hide (fun W => place_any s i (by omega) hs W)
  have HQ := hide (fun W => place_any s j (by omega) hs W)
  have HW := hide (fun W => withOffset_places s i j hs hij hj W)
  have q1 : decide ((i : Int) < 0) = false := by simp
  have q2 : decide (j < i) = false := by simp; omega
  have q3 : decide (s.size < j) = false := by simp; omega
  generalize (nlTo s i : Int) + 1 = a at *
  generalize (i : Int) - lastNl s i = b at *
  generalize (nlTo s j : Int) + 1 = a2 at *
  generalize (j : Int) - lastNl s j = b2 at *
  clear hsh
  go_enter Try.func13, Try.ntmps13
  go_wp2_with fail
  refine (isShort_any _ _ [s] (by simp) (by simp; omega) _ (Strs.blk (Blk.newAt (by simp)) rfl)).mono ?_
  rintro e w1 ⟨rfl, rfl⟩
  rw [HF.out]
  go_wp2_with fail
  refine (HP.out _).mono ?_
  rintro e w1 ⟨rfl, hb1⟩
  have hbl1 : Below w.heap.size w w1 := Below.trans (by go_grown) (hb1.mono (by simp))
  go_wp2_with fail
  refine (HQ.out _).mono ?_
  rintro e w2 ⟨rfl, hb2⟩
  have hbl2 := hbl1.trans (hb2.mono hbl1.size)
  have hz2 := hbl2.size
  clear hb1 hb2 hbl1
  go_upto_region 6 with fail
  refine wp_gen ?_
  intro W hW
  have hblW : Below w.heap.size w W := by rw [hW]; go_grown
  have b1 := blk2_1 hW
  have b2 := blk2_2 hW
  have c1 := b1.lt
  have c2 := b2.lt
  have f1 := b1.three
  have f2 := b2.three
  clear hW hbl2
  have hD : W.drew.heap.size = W.heap.size := rfl
  have B1 := hide b1
  have B2 := hide b2
  clear b1 b2
  go_cut [9, 10, 11] (fun s9 s10 s11 wc => ∃ g9 g10 : Nat, s9 = .pointer (some ⟨g9, 0, none⟩) ∧ s10 = .pointer (some ⟨g10, 0, none⟩) ∧ s11 = .bool true ∧ CutW w wc w2.heap.size (w2.heap.size + 1) g9 g10 #[.int .i64 a, .int .i64 b, .int .i64 i] #[.int .i64 a2, .int .i64 b2, .int .i64 j] #[.int .i64 a, .int .i64 b, .int .i64 i] #[.int .i64 a2, .int .i64 b2, .int .i64 j])
  case first =>
    go_region_held3? (fun w' => (∀ b o, b < W.heap.size → w'.cell? ⟨b, o, none⟩ = W.cell? ⟨b, o, none⟩) ∧ W.heap.size ≤ w'.heap.size ∧ Below W.heap.size W w')
      (first
        | (with_reducible exact SB.start (by omega))
        | (go_split_ands; (repeat' (first | (with_reducible exact ⟨by assumption, by assumption, by assumption⟩) | (with_reducible exact SB.start (Nat.le_refl _)) | (with_reducible exact SB.start' (Nat.le_refl _)) | (with_reducible refine SB.alloc ?_ _) | (with_reducible refine SB.drew_ ?_) | (with_reducible refine SB.set ?_ ?_ _) | (with_reducible refine SB.call ?_ (by assumption)) | (simp only [World.alloc, Array.size_push]; omega) | (dsimp only; omega) | omega)); done))
      (first
        | (go_at_call 21; refine (bare_any _ _ _ _).mono ?_; rintro e w1 ⟨rfl, hb⟩; have hzz := hb.size; (try simp only [World.size_alloc, World.size_drew_] at hzz); (try (have kB := Blk.kept kB hb; (try simp only [World.size_alloc, World.size_drew_] at kB); have tB := kB.three; have lB := kB.lt)); (try (have kB := Blk.kept (Blk.alloc kA _) hb; (try simp only [World.size_alloc, World.size_drew_] at kB); have tB := kB.three; have lB := kB.lt)); (try (have kA := Blk.kept kA hb; (try simp only [World.size_alloc, World.size_drew_] at kA); have tA := kA.three; have lA := kA.lt)); (try (have kB := Blk.kept (Blk.alloc (Blk.new _ _ _) _) hb; (try simp only [World.size_alloc, World.size_drew_] at kB); have tB := kB.three; have lB := kB.lt)); (try (have kA := Blk.kept (Blk.new _ _ _) hb; (try simp only [World.size_alloc, World.size_drew_] at kA); have tA := kA.three; have lA := kA.lt)); (try (have kB := Blk.kept (Blk.drew (Blk.alloc (Blk.new _ _ _) _)) hb; (try simp only [World.size_alloc, World.size_drew_] at kB); have tB := kB.three; have lB := kB.lt)); (try (have kA := Blk.kept (Blk.drew (Blk.new _ _ _)) hb; (try simp only [World.size_alloc, World.size_drew_] at kA); have tA := kA.three; have lA := kA.lt)))
        | (go_at_call 34; refine (HW.out _).mono ?_; rintro e w1 ⟨rfl, hb⟩; have hzz := hb.size; (try simp only [World.size_alloc, World.size_drew_] at hzz); (try (have kB := Blk.kept kB hb; (try simp only [World.size_alloc, World.size_drew_] at kB); have tB := kB.three; have lB := kB.lt)); (try (have kB := Blk.kept (Blk.alloc kA _) hb; (try simp only [World.size_alloc, World.size_drew_] at kB); have tB := kB.three; have lB := kB.lt)); (try (have kA := Blk.kept kA hb; (try simp only [World.size_alloc, World.size_drew_] at kA); have tA := kA.three; have lA := kA.lt)); (try (have kB := Blk.kept (Blk.alloc (Blk.new _ _ _) _) hb; (try simp only [World.size_alloc, World.size_drew_] at kB); have tB := kB.three; have lB := kB.lt)); (try (have kA := Blk.kept (Blk.new _ _ _) hb; (try simp only [World.size_alloc, World.size_drew_] at kA); have tA := kA.three; have lA := kA.lt)); (try (have kB := Blk.kept (Blk.drew (Blk.alloc (Blk.new _ _ _) _)) hb; (try simp only [World.size_alloc, World.size_drew_] at kB); have tB := kB.three; have lB := kB.lt)); (try (have kA := Blk.kept (Blk.drew (Blk.new _ _ _)) hb; (try simp only [World.size_alloc, World.size_drew_] at kA); have tA := kA.three; have lA := kA.lt))))
    go_goals
    all_goals (try (go_wp2_with fail))
    all_goals (try go_meet)
    all_goals go_split_ands
    all_goals first
      | (refine ⟨_, _, rfl, rfl, rfl, cutW_of hblW (by omega) B1.out B2.out ?_ ?_ ?_⟩
         · (repeat' (first | (with_reducible exact ⟨by assumption, by assumption, by assumption⟩) | (with_reducible exact SB.start (Nat.le_refl _)) | (with_reducible exact SB.start' (Nat.le_refl _)) | (with_reducible refine SB.alloc ?_ _) | (with_reducible refine SB.drew_ ?_) | (with_reducible refine SB.set ?_ ?_ _) | (with_reducible refine SB.call ?_ (by assumption)) | (simp only [World.alloc, Array.size_push]; omega) | (dsimp only; omega) | omega))
         · (repeat' (first | (with_reducible assumption) | (with_reducible refine Blk.newAt ?_) | (with_reducible apply put3_) | (with_reducible refine Blk.far ?_ (by dsimp only; omega) _) | (with_reducible refine Blk.alloc ?_ _) | (with_reducible refine Blk.drew ?_) | (with_reducible rfl) | (simp; done) | omega))
         · (repeat' (first | (with_reducible assumption) | (with_reducible refine Blk.newAt ?_) | (with_reducible apply put3_) | (with_reducible refine Blk.far ?_ (by dsimp only; omega) _) | (with_reducible refine Blk.alloc ?_ _) | (with_reducible refine Blk.drew ?_) | (with_reducible rfl) | (simp; done) | omega)))
      | skip
  case rest =>
    obtain ⟨g9, g10, rfl, rfl, rfl, k7, k8, k9, k10, hbc⟩ := hcut
    have f7 := k7.three
    have f8 := k8.three
    have f9 := k9.three
    have f10 := k10.three
    go_wp2_with fail
    refine (spans_any _).mono ?_
    rintro e w3 ⟨rfl, hb3⟩
    have hbl3 := hbc.trans (hb3.mono hbc.size)
    have h7 := (k7.kept hb3).three
    have h8 := (k8.kept hb3).three
    have h9 := (k9.kept hb3).three
    have h10 := (k10.kept hb3).three
    go_wp2
    go_ret
    exact ⟨rfl, hbl3⟩
end Go.Proofs.Ytbbdhlnldkkdbaa
