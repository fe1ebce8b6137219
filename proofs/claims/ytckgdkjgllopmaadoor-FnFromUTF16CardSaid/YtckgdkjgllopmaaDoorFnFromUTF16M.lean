/- Walk: laws.FnFromUTF16, from the place on. No condition but sizes and the listed variables. -/
import Derived.Test.YtckgdkjgllopmaaDoorFromColM
import Derived.Test.YtckgdkjgllopmaaDoorSpansM
import Derived.Test.YtckgdkjgllopmaaDoorPa
import Derived.Deep.RegionHeld3
import Derived.Deep.CutRange
import Derived.Deep.DeepMust
import Derived.Deep.DeepCutAuto
set_option linter.unusedVariables false
set_option linter.unusedSimpArgs false
namespace Go.Proofs.YtckgdkjgllopmaaDoor
open Go.RowKit Go.Proofs.YtckgdkjgllopmaaDoor.Lines
attribute [local go_sem ↓] Go.wp_at_zero Go.wp_at_succ

theorem short_size {s : ByteArray} (h : shortB [s] = true) : s.size ≤ 100000 := by
  unfold shortB at h
  simp at h
  have := h.1
  unfold sumSz at this
  simp at this
  exact this
theorem uF_ext (s : ByteArray) (b m : Nat) : units (s.extract b (b + m)).data.toList = uF (s.data.toList.drop b) m 0 := by
  unfold uF
  rw [extract_list, List.drop_zero, show b + m - b = m - 0 by omega]
theorem SB.drew_ {g : Nat} {W w : World} (h : SB g W w) : SB g W w.drew := ⟨h.1, h.2.1, h.2.2.drew⟩
theorem World.size_drew_ (w : World) : w.drew.heap.size = w.heap.size := rfl
theorem put3_ {w : World} {g t : Nat} {x0 y0 z0 x y z : Value} (h : Blk w g t #[x0, y0, z0]) : Blk (((w.setCell ⟨g, 0, none⟩ x).setCell ⟨g, 1, none⟩ y).setCell ⟨g, 2, none⟩ z) g t #[x, y, z] := ((h.set_ 0 x).set_ 1 y).set_ 2 z
theorem cutF_of {w wc wx : World} {g0 g7 : Nat} {p q : Array Value} (hbc : Below w.heap.size w wc) (hz : w.heap.size ≤ wc.heap.size) (h1 : Blk wc g0 25 p) (hS : SB wc.heap.size wc wx) (h2 : Blk wx g7 25 q) : Blk wx g0 25 p ∧ Blk wx g7 25 q ∧ Below w.heap.size w wx := ⟨h1.kept hS.2.2, h2, hbc.trans (hS.2.2.mono hz)⟩
theorem wrap_ok (x : Int) (h0 : 0 ≤ x) (h1 : x ≤ 9223372036854775807) : IntKind.i64.wrap x = x := by
  unfold IntKind.wrap
  have hb : IntKind.i64.bits = 64 := rfl
  have hs : IntKind.i64.signed = true := rfl
  simp only [hb, hs]
  rw [Int.emod_eq_of_lt h0 (by omega)]
  simp
  omega

set_option maxHeartbeats 8000000 in
set_option maxRecDepth 100000 in
theorem fnFromUTF16_near (s : ByteArray) (k : Nat) (hk : k ≤ s.size) (hsh : shortB [s] = true) (w : World) (hT : U8Tabs w) :
    Calls Tryd.prog 3 #[.string s, .int .i64 k] w fun e w' => e = .returned (.bool true) ∧ Below w.heap.size w w' := by
  have hs := short_size hsh
  have HF := hide hsh
  clear hsh
  have hbd := lastNl_bd s k
  obtain ⟨b, hb⟩ := Int.eq_ofNat_of_zero_le (show 0 ≤ lastNl s k + 1 by omega)
  obtain ⟨hbk, hnl, hlb, hnt⟩ := line_start s k b hk hb.symm
  have hP := fun W => place_any s k hk (by omega) W
  have hP2 := fun W => place_any s b (by omega) (by omega) W
  rw [hnl, hlb, show (b : Int) - ((b : Int) - 1) = 1 by omega] at hP2
  have h0 : b = 0 → ((nlTo s k : Nat) : Int) + 1 = 1 := by rintro rfl; rw [← hnl]; simp [nlTo]
  obtain ⟨m, rfl⟩ : ∃ m, k = b + m := ⟨k - b, by omega⟩
  rw [show ((b + m : Nat) : Int) - lastNl s (b + m) = (m : Int) + 1 by omega] at hP
  generalize hl : ((nlTo s (b + m) : Nat) : Int) + 1 = l at *
  have h1 : 1 ≤ l := by omega
  have HI := hide (fun W => isWhole_any (s.extract b s.size) m (by rw [ByteArray.size_extract]; omega) (by rw [ByteArray.size_extract]; omega) W)
  rw [drop_list] at HI
  have HU := hide (fun W => units_any (s.extract b (b + m)) (by rw [ByteArray.size_extract]; omega) W)
  rw [uF_ext] at HU
  have HFr := hide (fun hgo W hT => iFromUTF16_any s l b m h1 hk h0 (by omega) hgo hnt W hT)
  have hUle : uF (s.data.toList.drop b) m 0 ≤ 2147483647 := by
    unfold uF
    have := units_le _ (((s.data.toList.drop b).drop 0).take (m - 0)) (Nat.le_refl _)
    rw [List.length_take] at this
    omega
  have HP := hide hP
  have HP2 := hide hP2
  have HT := hide hT
  have q1 : decide (((b + m : Nat) : Int) < 0) = false := by simp <;> omega
  have q2 : decide (s.size < b + m) = false := by simp; omega
  have e1 : (b : Int) + (m : Int) - ((m : Int) + 1) + 1 = (b : Int) := by omega
  have e2 : (m : Int) + 1 - 1 = (m : Int) := by omega
  have hz0 : (0 : Int) ≤ (b : Int) := by omega
  have hz1 : (b : Int) ≤ (s.size : Int) := by omega
  have hz2 : (b : Int) ≤ (b : Int) + (m : Int) := by omega
  have hz3 : (b : Int) + (m : Int) ≤ (s.size : Int) := by omega
  obtain ⟨gw, hgw⟩ : ∃ gw, goes (s.data.toList.drop b) m 0 = gw := ⟨_, rfl⟩
  rw [hgw] at HI HFr
  clear hP hP2 hb hbd hl hT hnl hlb hnt h0 hgw
  generalize uF (s.data.toList.drop b) m 0 = U at *
  go_enter Tryd.func3, Tryd.ntmps3
  go_wp2_with fail
  refine (isShort_any _ _ [s] (by simp) (by simp; omega) _ (Strs.blk (Blk.newAt (by simp)) rfl)).mono ?_
  rintro e w1 ⟨rfl, rfl⟩
  rw [HF.out]
  go_wp2_with fail
  refine (HP.out _).mono ?_
  rintro e w1 ⟨rfl, hb1⟩
  have hbl1 : Below w.heap.size w w1 := Below.trans (by go_grown) (hb1.mono (by simp))
  clear hb1
  go_upto_region 7 with fail
  refine wp_gen ?_
  intro W hW
  have hbW : Below w.heap.size w W := by rw [hW]; exact hbl1.alloc hbl1.size _
  have b1 : Blk W w1.heap.size 25 #[.int .i64 l, .int .i64 ((m : Int) + 1), .int .i64 ((b + m : Nat) : Int)] := by rw [hW]; exact Blk.new _ _ _
  have f1 := b1.three
  have l1 := b1.lt
  have hzW := hbW.size
  clear hW hbl1
  have B1 := hide b1
  clear b1
  go_cut [42] (fun s42 wc => s42 = .bool (!gw) ∧ Blk wc w1.heap.size 25 #[.int .i64 l, .int .i64 ((m : Int) + 1), .int .i64 ((b + m : Nat) : Int)] ∧ Below w.heap.size w wc)
  case first =>
    go_region_held3 (fun w' => (∀ b o, b < W.heap.size → w'.cell? ⟨b, o, none⟩ = W.cell? ⟨b, o, none⟩) ∧ W.heap.size ≤ w'.heap.size ∧ Below W.heap.size W w')
      (first
        | (with_reducible exact SB.start (by omega))
        | (go_split_ands; (repeat' (first | (with_reducible exact ⟨by assumption, by assumption, by assumption⟩) | (with_reducible exact SB.start (Nat.le_refl _)) | (with_reducible exact SB.start' (Nat.le_refl _)) | (with_reducible refine SB.alloc ?_ _) | (with_reducible refine SB.drew_ ?_) | (with_reducible refine SB.set ?_ ?_ _) | (with_reducible refine SB.call ?_ (by assumption)) | (simp only [World.alloc, Array.size_push]; omega) | (dsimp only; omega) | omega)); done))
      (first
        | (go_at_call 9; (try rw [wrap_ok (m : Int) (by omega) (by omega)]); refine (HI.out _).mono ?_; rintro e w2 ⟨rfl, hb⟩))
    all_goals (try (go_wp2_with fail))
    all_goals (try go_meet)
    all_goals go_split_ands
    all_goals exact ⟨rfl, Blk.kept B1.out (by assumption), hbW.trans (Below.mono (by assumption) hzW)⟩
  case rest =>
    obtain ⟨rfl, k1, hbc⟩ := hcut
    cases gw
    · clear k1
      go_wp2_with fail
      refine (spans_any _).mono ?_
      rintro e w3 ⟨rfl, hb3⟩
      have hbl3 := hbc.trans (hb3.mono hbc.size)
      clear hb3
      go_wp2
      go_ret
      exact ⟨rfl, hbl3⟩
    · have HFr2 := hide (HFr.out rfl)
      have f2 := k1.three
      have K1 := hide k1
      have lk := k1.lt
      have HTc := hide (HT.out.on hbc)
      have hzc := hbc.size
      clear k1 HFr HI
      have hD : wc.drew.heap.size = wc.heap.size := rfl
      go_upto_region 9 with fail
      go_cut [7, 8] (fun s7 s8 wx => ∃ g7 : Nat, s7 = .pointer (some ⟨g7, 0, none⟩) ∧ s8 = .bool true ∧ Blk wx w1.heap.size 25 #[.int .i64 l, .int .i64 ((m : Int) + 1), .int .i64 ((b + m : Nat) : Int)] ∧ Blk wx g7 25 #[.int .i64 l, .int .i64 ((m : Int) + 1), .int .i64 ((b : Int) + m)] ∧ Below w.heap.size w wx)
      case first =>
        go_region_held3 (fun w' => (∀ b o, b < wc.heap.size → w'.cell? ⟨b, o, none⟩ = wc.cell? ⟨b, o, none⟩) ∧ wc.heap.size ≤ w'.heap.size ∧ Below wc.heap.size wc w')
          (first
            | (with_reducible exact SB.start (by omega))
            | (go_split_ands; (repeat' (first | (with_reducible exact ⟨by assumption, by assumption, by assumption⟩) | (with_reducible exact SB.start (Nat.le_refl _)) | (with_reducible exact SB.start' (Nat.le_refl _)) | (with_reducible refine SB.alloc ?_ _) | (with_reducible refine SB.drew_ ?_) | (with_reducible refine SB.set ?_ ?_ _) | (with_reducible refine SB.call ?_ (by assumption)) | (simp only [World.alloc, Array.size_push]; omega) | (dsimp only; omega) | omega)); done))
          (first
            | (go_at_call 8; refine (HP2.out _).mono ?_; rintro e w2 ⟨rfl, hb⟩; have hzz := hb.size; (try simp only [World.size_alloc, World.size_drew_] at hzz); (try (have kB := Blk.kept kB hb; (try simp only [World.size_alloc, World.size_drew_] at kB); have tB := kB.three; have lB := kB.lt)); (try (have kB := Blk.kept (Blk.alloc kA _) hb; (try simp only [World.size_alloc, World.size_drew_] at kB); have tB := kB.three; have lB := kB.lt)); (try (have kA := Blk.kept kA hb; (try simp only [World.size_alloc, World.size_drew_] at kA); have tA := kA.three; have lA := kA.lt)); (try (have kB := Blk.kept (Blk.alloc (Blk.new _ _ _) _) hb; (try simp only [World.size_alloc, World.size_drew_] at kB); have tB := kB.three; have lB := kB.lt)); (try (have kA := Blk.kept (Blk.new _ _ _) hb; (try simp only [World.size_alloc, World.size_drew_] at kA); have tA := kA.three; have lA := kA.lt)); (try (have kB := Blk.kept (Blk.drew (Blk.alloc (Blk.new _ _ _) _)) hb; (try simp only [World.size_alloc, World.size_drew_] at kB); have tB := kB.three; have lB := kB.lt)); (try (have kA := Blk.kept (Blk.drew (Blk.new _ _ _)) hb; (try simp only [World.size_alloc, World.size_drew_] at kA); have tA := kA.three; have lA := kA.lt)))
            | (go_at_call 11; refine (HU.out _).mono ?_; rintro e w2 ⟨rfl, hb⟩; have hzz := hb.size; (try simp only [World.size_alloc, World.size_drew_] at hzz); (try (have kB := Blk.kept kB hb; (try simp only [World.size_alloc, World.size_drew_] at kB); have tB := kB.three; have lB := kB.lt)); (try (have kB := Blk.kept (Blk.alloc kA _) hb; (try simp only [World.size_alloc, World.size_drew_] at kB); have tB := kB.three; have lB := kB.lt)); (try (have kA := Blk.kept kA hb; (try simp only [World.size_alloc, World.size_drew_] at kA); have tA := kA.three; have lA := kA.lt)); (try (have kB := Blk.kept (Blk.alloc (Blk.new _ _ _) _) hb; (try simp only [World.size_alloc, World.size_drew_] at kB); have tB := kB.three; have lB := kB.lt)); (try (have kA := Blk.kept (Blk.new _ _ _) hb; (try simp only [World.size_alloc, World.size_drew_] at kA); have tA := kA.three; have lA := kA.lt)); (try (have kB := Blk.kept (Blk.drew (Blk.alloc (Blk.new _ _ _) _)) hb; (try simp only [World.size_alloc, World.size_drew_] at kB); have tB := kB.three; have lB := kB.lt)); (try (have kA := Blk.kept (Blk.drew (Blk.new _ _ _)) hb; (try simp only [World.size_alloc, World.size_drew_] at kA); have tA := kA.three; have lA := kA.lt)))
            | (go_at_call 10; go_must (rw [wrap_ok (1 + (U : Int)) (by omega) (by omega)]; refine (HFr2.out _ (HTc.out.on ?hbel)).mono ?_; (case hbel => go_split_ands; assumption); rintro e w2 ⟨rfl, hb⟩); have hzz := hb.size; (try simp only [World.size_alloc, World.size_drew_] at hzz); (try (have kB := Blk.kept kB hb; (try simp only [World.size_alloc, World.size_drew_] at kB); have tB := kB.three; have lB := kB.lt)); (try (have kB := Blk.kept (Blk.alloc kA _) hb; (try simp only [World.size_alloc, World.size_drew_] at kB); have tB := kB.three; have lB := kB.lt)); (try (have kA := Blk.kept kA hb; (try simp only [World.size_alloc, World.size_drew_] at kA); have tA := kA.three; have lA := kA.lt)); (try (have kB := Blk.kept (Blk.alloc (Blk.new _ _ _) _) hb; (try simp only [World.size_alloc, World.size_drew_] at kB); have tB := kB.three; have lB := kB.lt)); (try (have kA := Blk.kept (Blk.new _ _ _) hb; (try simp only [World.size_alloc, World.size_drew_] at kA); have tA := kA.three; have lA := kA.lt)); (try (have kB := Blk.kept (Blk.drew (Blk.alloc (Blk.new _ _ _) _)) hb; (try simp only [World.size_alloc, World.size_drew_] at kB); have tB := kB.three; have lB := kB.lt)); (try (have kA := Blk.kept (Blk.drew (Blk.new _ _ _)) hb; (try simp only [World.size_alloc, World.size_drew_] at kA); have tA := kA.three; have lA := kA.lt))))
        all_goals (try (go_wp2_with fail))
        all_goals (try go_meet)
        all_goals go_split_ands
        all_goals first
          | (refine ⟨_, rfl, rfl, cutF_of hbc hzc K1.out ?_ ?_⟩
             · (repeat' (first | (with_reducible exact ⟨by assumption, by assumption, by assumption⟩) | (with_reducible exact SB.start (Nat.le_refl _)) | (with_reducible exact SB.start' (Nat.le_refl _)) | (with_reducible refine SB.alloc ?_ _) | (with_reducible refine SB.drew_ ?_) | (with_reducible refine SB.set ?_ ?_ _) | (with_reducible refine SB.call ?_ (by assumption)) | (simp only [World.alloc, Array.size_push]; omega) | (dsimp only; omega) | omega))
             · (repeat' (first | (with_reducible assumption) | (with_reducible refine Blk.newAt ?_) | (with_reducible apply put3_) | (with_reducible refine Blk.far ?_ (by dsimp only; omega) _) | (with_reducible refine Blk.alloc ?_ _) | (with_reducible refine Blk.drew ?_) | (with_reducible rfl) | (simp; done) | omega)))
          | skip
      case rest =>
        obtain ⟨g7, rfl, rfl, k2, k3, hbx⟩ := hcut
        go_wp2_with fail
        refine (spans_any _).mono ?_
        rintro e w3 ⟨rfl, hb3⟩
        have hbl3 := hbx.trans (hb3.mono hbx.size)
        have f2 := (k2.kept hb3).three
        have f3 := (k3.kept hb3).three
        clear hb3 k2 k3
        go_wp2
        go_ret
        exact ⟨rfl, hbl3⟩
end Go.Proofs.YtckgdkjgllopmaaDoor
