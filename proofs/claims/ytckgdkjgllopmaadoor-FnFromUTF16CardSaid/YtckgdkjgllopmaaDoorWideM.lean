/- Walk: spec.wide: the first character of a text. No condition but its size. (Written by gen_wide.py.) -/
import Derived.Test.YtckgdkjgllopmaaDoorUtfM
import Derived.Test.YtckgdkjgllopmaaDoorPb
set_option linter.unusedVariables false
set_option linter.unusedSimpArgs false
namespace Go.Proofs.YtckgdkjgllopmaaDoor
open Go.RowKit
attribute [local go_sem ↓] Go.wp_at_zero Go.wp_at_succ

/-- What spec.wide answers: how many bytes, and whether there are two units. -/
def WideRes (w : World) (d : Nat × Nat) (e : Ending) (w' : World) : Prop := e = .returned (.tuple #[.int .i64 d.2, .bool (decide (65536 ≤ d.1))]) ∧ Below w.heap.size w w'
theorem wideRes_of {w w' : World} {d : Nat × Nat} {r n : Nat} {b : Bool} {e : Ending} (h : d = (r, n)) (hb : decide (65536 ≤ r) = b) (he : e = .returned (.tuple #[.int .i64 n, .bool b])) (hw : Below w.heap.size w w') : WideRes w d e w' := by
  subst h; subst hb; exact ⟨he, hw⟩
theorem slow_short {n b0 b1 b2 b3 sz lo hi : Nat} (h : n < sz) : Lib.slowN n b0 b1 b2 b3 sz lo hi = (65533, 1) := by unfold Lib.slowN; rw [if_pos h]
theorem slow_bad {n b0 b1 b2 b3 sz lo hi k : Nat} (hk : 1 ≤ k) (hk2 : k < sz) (hsz : sz ≤ 4) (hlo : 128 ≤ lo) (hhi : hi ≤ 191) (h1 : k = 1 → b1 < 128 ∨ 191 < b1) (h2 : k = 2 → b2 < 128 ∨ 191 < b2) (h3 : k = 3 → b3 < 128 ∨ 191 < b3) : Lib.slowN n b0 b1 b2 b3 sz lo hi = (65533, 1) := by
  unfold Lib.slowN
  repeat' split
  all_goals first | rfl | (exfalso; omega)
theorem slow_range {n b0 b1 b2 b3 sz lo hi : Nat} (h : b1 < lo ∨ hi < b1) : Lib.slowN n b0 b1 b2 b3 sz lo hi = (65533, 1) := by
  unfold Lib.slowN
  repeat' split
  all_goals first | rfl | (exfalso; omega)
theorem slow_two {n b0 b1 b2 b3 lo hi : Nat} (h : ¬ n < 2) (h1 : ¬ (b1 < lo ∨ hi < b1)) : Lib.slowN n b0 b1 b2 b3 2 lo hi = (b0 % 32 * 64 + b1 % 64, 2) := by
  unfold Lib.slowN
  rw [if_neg h, if_neg h1, if_pos (by omega)]
theorem slow_three {n b0 b1 b2 b3 lo hi : Nat} (h : ¬ n < 3) (h1 : ¬ (b1 < lo ∨ hi < b1)) (h2 : ¬ (b2 < 128 ∨ 191 < b2)) : Lib.slowN n b0 b1 b2 b3 3 lo hi = (b0 % 16 * 4096 + b1 % 64 * 64 + b2 % 64, 3) := by
  unfold Lib.slowN
  rw [if_neg h, if_neg h1, if_neg (by omega), if_neg h2, if_pos (by omega)]
theorem slow_four {n b0 b1 b2 b3 lo hi : Nat} (h : ¬ n < 4) (h1 : ¬ (b1 < lo ∨ hi < b1)) (h2 : ¬ (b2 < 128 ∨ 191 < b2)) (h3 : ¬ (b3 < 128 ∨ 191 < b3)) : Lib.slowN n b0 b1 b2 b3 4 lo hi = (b0 % 8 * 262144 + b1 % 64 * 4096 + b2 % 64 * 64 + b3 % 64, 4) := by
  unfold Lib.slowN
  rw [if_neg h, if_neg h1, if_neg (by omega), if_neg h2, if_neg (by omega), if_neg h3]
theorem dec_one {l : List UInt8} (h : (l.getD 0 0).toNat < 194 ∨ 245 ≤ (l.getD 0 0).toNat) : ∃ r, dec l = (r, 1) ∧ r < 65536 := by
  have h1 := (l.getD 1 0).toNat_lt
  have h2 := (l.getD 2 0).toNat_lt
  have h3 := (l.getD 3 0).toNat_lt
  have hb := (l.getD 0 0).toNat_lt
  unfold dec
  generalize (l.getD 0 0).toNat = b0 at *
  generalize (l.getD 1 0).toNat = b1 at *
  generalize (l.getD 2 0).toNat = b2 at *
  generalize (l.getD 3 0).toNat = b3 at *
  unfold Lib.decodeN
  repeat' split
  all_goals first | exact ⟨_, rfl, by omega⟩ | (exfalso; omega)
theorem dec_bt (s : ByteArray) : dec s.data.toList = Lib.decodeN s.size (bt s 0) (bt s 1) (bt s 2) (bt s 3) := by
  unfold dec bt
  rw [show s.data.toList.length = s.size from by rw [Array.length_toList]; rfl]
theorem bt_lt (s : ByteArray) (k : Nat) : bt s k < 256 := (s.data.toList.getD k 0).toNat_lt


set_option maxHeartbeats 4000000 in
set_option maxRecDepth 100000 in
theorem wide_A (s : ByteArray) (h0 : 0 < s.size) (hs : s.size ≤ 2147483647) (hc : bt s 0 < 194) (w : World) : Calls Tryd.prog 22 #[.string s] w (WideRes w (dec s.data.toList)) := by
  have hx := bt_get h0
  have g0 : decide ((240 : Int) ≤ ((s[0]'h0).toNat : Int)) = false := by rw [hx]; simp; omega
  have g1 : decide (((s[0]'h0).toNat : Int) < 245) = true := by rw [hx]; simp; omega
  have g2 : decide ((224 : Int) ≤ ((s[0]'h0).toNat : Int)) = false := by rw [hx]; simp; omega
  have g3 : decide (((s[0]'h0).toNat : Int) < 240) = true := by rw [hx]; simp; omega
  have g4 : decide ((194 : Int) ≤ ((s[0]'h0).toNat : Int)) = false := by rw [hx]; simp; omega
  have g5 : decide (((s[0]'h0).toNat : Int) < 224) = true := by rw [hx]; simp; omega
  obtain ⟨r, hd, hr⟩ := dec_one (l := s.data.toList) (by first | exact Or.inl hc | exact Or.inr hc)
  have hr' : decide (65536 ≤ r) = false := by simp; omega
  have HD := hide hd
  have HR := hide hr'
  clear hd hr hr' hc hx
  have q0 : decide ((s.size : Int) < 1) = false := by simp; omega
  go_enter Tryd.func22, Tryd.ntmps22
  go_wp2
  go_loop [6] (fun i => i = .int .i64 1) (fun _ => 0)
  case atStart => rfl
  case round =>
    subst hrel
    go_wp2
    go_ret2
    exact wideRes_of HD.out HR.out rfl (by go_grown)

set_option maxHeartbeats 4000000 in
set_option maxRecDepth 100000 in
theorem wide_B (s : ByteArray) (h0 : 0 < s.size) (hs : s.size ≤ 2147483647) (hc : 245 ≤ bt s 0) (w : World) : Calls Tryd.prog 22 #[.string s] w (WideRes w (dec s.data.toList)) := by
  have hx := bt_get h0
  have g0 : decide ((240 : Int) ≤ ((s[0]'h0).toNat : Int)) = true := by rw [hx]; simp; omega
  have g1 : decide (((s[0]'h0).toNat : Int) < 245) = false := by rw [hx]; simp; omega
  have g2 : decide ((224 : Int) ≤ ((s[0]'h0).toNat : Int)) = true := by rw [hx]; simp; omega
  have g3 : decide (((s[0]'h0).toNat : Int) < 240) = false := by rw [hx]; simp; omega
  have g4 : decide ((194 : Int) ≤ ((s[0]'h0).toNat : Int)) = true := by rw [hx]; simp; omega
  have g5 : decide (((s[0]'h0).toNat : Int) < 224) = false := by rw [hx]; simp; omega
  obtain ⟨r, hd, hr⟩ := dec_one (l := s.data.toList) (by first | exact Or.inl hc | exact Or.inr hc)
  have hr' : decide (65536 ≤ r) = false := by simp; omega
  have HD := hide hd
  have HR := hide hr'
  clear hd hr hr' hc hx
  have q0 : decide ((s.size : Int) < 1) = false := by simp; omega
  go_enter Tryd.func22, Tryd.ntmps22
  go_wp2
  go_loop [6] (fun i => i = .int .i64 1) (fun _ => 0)
  case atStart => rfl
  case round =>
    subst hrel
    go_wp2
    go_ret2
    exact wideRes_of HD.out HR.out rfl (by go_grown)

set_option maxHeartbeats 4000000 in
set_option maxRecDepth 100000 in
theorem wide_C2 (s : ByteArray) (h0 : 0 < s.size) (hs : s.size ≤ 2147483647) (hc : 194 ≤ bt s 0 ∧ bt s 0 < 224) (w : World) : Calls Tryd.prog 22 #[.string s] w (WideRes w (dec s.data.toList)) := by
  have hx := bt_get h0
  have g0 : decide ((240 : Int) ≤ ((s[0]'h0).toNat : Int)) = false := by rw [hx]; simp; omega
  have g1 : decide (((s[0]'h0).toNat : Int) < 245) = true := by rw [hx]; simp; omega
  have g2 : decide ((224 : Int) ≤ ((s[0]'h0).toNat : Int)) = false := by rw [hx]; simp; omega
  have g3 : decide (((s[0]'h0).toNat : Int) < 240) = true := by rw [hx]; simp; omega
  have g4 : decide ((194 : Int) ≤ ((s[0]'h0).toNat : Int)) = true := by rw [hx]; simp; omega
  have g5 : decide (((s[0]'h0).toNat : Int) < 224) = true := by rw [hx]; simp; omega
  have g6 : (((s[0]'h0).toNat : Int) == 224) = false := by rw [hx]; simp; omega
  have g7 : (((s[0]'h0).toNat : Int) == 237) = false := by rw [hx]; simp; omega
  have g8 : (((s[0]'h0).toNat : Int) == 240) = false := by rw [hx]; simp; omega
  have g9 : (((s[0]'h0).toNat : Int) == 244) = false := by rw [hx]; simp; omega
  have hd : dec s.data.toList = Lib.slowN s.size (bt s 0) (bt s 1) (bt s 2) (bt s 3) 2 128 191 := by rw [dec_bt]; exact (Lib.slow_C2 _ _ _ _ _ (by omega) (bt_lt s 1) (bt_lt s 2) (bt_lt s 3) hc).symm
  have HD := hide hd
  have HC := hide hc
  have HX := hide hx
  clear hd hc hx
  cases hq : decide ((s.size : Int) < 2)
  · have hl : 2 ≤ s.size := by simp at hq; omega
    go_enter Tryd.func22, Tryd.ntmps22
    go_wp2
    go_loop [6] (fun i => ∃ k : Nat, 1 ≤ k ∧ k ≤ 2 ∧ i = .int .i64 k ∧ Hid (∀ j, 1 ≤ j → j < k → 128 ≤ bt s j ∧ bt s j ≤ 191)) (fun i => 2 - (intOf i).toNat)
    case atStart => exact ⟨1, Nat.le_refl _, by omega, rfl, hide (fun j h1 h2 => by omega)⟩
    case round =>
      obtain ⟨k, hk1, hk2, rfl, hok⟩ := hrel
      by_cases hlt : k < 2
      · have hks : k < s.size := by omega
        have hb := hide (bt_get hks)
        cases hm : decide (((s[k]'hks).toNat : Int) < 128)
        · cases hm2 : decide ((191 : Int) < ((s[k]'hks).toNat : Int))
          · go_wp2
            go_round
            case rel => exact ⟨k + 1, by omega, by omega, by go_num, hide (fun j h1 h2 => by
              by_cases he : j = k
              · subst he; have := hb.out; simp at hm hm2; omega
              · exact hok.out j h1 (by omega))⟩
            case measure => simp [intOf]; omega
          · go_wp2
            go_ret2
            exact wideRes_of (HD.out.trans (slow_bad hk1 hlt (by omega) (by omega) (by omega) (fun e => by subst e; have := hb.out; simp at hm2; omega) (fun e => by subst e; have := hb.out; simp at hm2; omega) (fun e => by subst e; have := hb.out; simp at hm2; omega))) rfl rfl (by go_grown)
        · go_wp2
          go_ret2
          exact wideRes_of (HD.out.trans (slow_bad hk1 hlt (by omega) (by omega) (by omega) (fun e => by subst e; have := hb.out; simp at hm; omega) (fun e => by subst e; have := hb.out; simp at hm; omega) (fun e => by subst e; have := hb.out; simp at hm; omega))) rfl rfl (by go_grown)
      · have : k = 2 := by omega
        subst this
        go_wp2
        go_ret2
        exact wideRes_of (HD.out.trans (slow_two (by omega) (by have a1 := hok.out 1 (by omega) (by omega); omega))) (by have := HC.out; simp; omega) rfl (by go_grown)
  · have hl : s.size < 2 := by simp at hq; omega
    go_enter Tryd.func22, Tryd.ntmps22
    go_wp2
    go_ret2
    exact wideRes_of (HD.out.trans (slow_short hl)) rfl rfl (by go_grown)

set_option maxHeartbeats 4000000 in
set_option maxRecDepth 100000 in
theorem wide_E0 (s : ByteArray) (h0 : 0 < s.size) (hs : s.size ≤ 2147483647) (hc : bt s 0 = 224) (w : World) : Calls Tryd.prog 22 #[.string s] w (WideRes w (dec s.data.toList)) := by
  have hx := bt_get h0
  have g0 : decide ((240 : Int) ≤ ((s[0]'h0).toNat : Int)) = false := by rw [hx]; simp; omega
  have g1 : decide (((s[0]'h0).toNat : Int) < 245) = true := by rw [hx]; simp; omega
  have g2 : decide ((224 : Int) ≤ ((s[0]'h0).toNat : Int)) = true := by rw [hx]; simp; omega
  have g3 : decide (((s[0]'h0).toNat : Int) < 240) = true := by rw [hx]; simp; omega
  have g4 : decide ((194 : Int) ≤ ((s[0]'h0).toNat : Int)) = true := by rw [hx]; simp; omega
  have g5 : decide (((s[0]'h0).toNat : Int) < 224) = false := by rw [hx]; simp; omega
  have g6 : (((s[0]'h0).toNat : Int) == 224) = true := by rw [hx]; simp; omega
  have g7 : (((s[0]'h0).toNat : Int) == 237) = false := by rw [hx]; simp; omega
  have g8 : (((s[0]'h0).toNat : Int) == 240) = false := by rw [hx]; simp; omega
  have g9 : (((s[0]'h0).toNat : Int) == 244) = false := by rw [hx]; simp; omega
  have hd : dec s.data.toList = Lib.slowN s.size (bt s 0) (bt s 1) (bt s 2) (bt s 3) 3 160 191 := by rw [dec_bt]; exact (Lib.slow_E0 _ _ _ _ _ (by omega) (bt_lt s 1) (bt_lt s 2) (bt_lt s 3) hc).symm
  have HD := hide hd
  have HC := hide hc
  have HX := hide hx
  clear hd hc hx
  cases hq : decide ((s.size : Int) < 3)
  · have hl : 3 ≤ s.size := by simp at hq; omega
    go_enter Tryd.func22, Tryd.ntmps22
    go_wp2
    go_loop [6] (fun i => ∃ k : Nat, 1 ≤ k ∧ k ≤ 3 ∧ i = .int .i64 k ∧ Hid (∀ j, 1 ≤ j → j < k → 128 ≤ bt s j ∧ bt s j ≤ 191)) (fun i => 3 - (intOf i).toNat)
    case atStart => exact ⟨1, Nat.le_refl _, by omega, rfl, hide (fun j h1 h2 => by omega)⟩
    case round =>
      obtain ⟨k, hk1, hk2, rfl, hok⟩ := hrel
      by_cases hlt : k < 3
      · have hks : k < s.size := by omega
        have hb := hide (bt_get hks)
        cases hm : decide (((s[k]'hks).toNat : Int) < 128)
        · cases hm2 : decide ((191 : Int) < ((s[k]'hks).toNat : Int))
          · go_wp2
            go_round
            case rel => exact ⟨k + 1, by omega, by omega, by go_num, hide (fun j h1 h2 => by
              by_cases he : j = k
              · subst he; have := hb.out; simp at hm hm2; omega
              · exact hok.out j h1 (by omega))⟩
            case measure => simp [intOf]; omega
          · go_wp2
            go_ret2
            exact wideRes_of (HD.out.trans (slow_bad hk1 hlt (by omega) (by omega) (by omega) (fun e => by subst e; have := hb.out; simp at hm2; omega) (fun e => by subst e; have := hb.out; simp at hm2; omega) (fun e => by subst e; have := hb.out; simp at hm2; omega))) rfl rfl (by go_grown)
        · go_wp2
          go_ret2
          exact wideRes_of (HD.out.trans (slow_bad hk1 hlt (by omega) (by omega) (by omega) (fun e => by subst e; have := hb.out; simp at hm; omega) (fun e => by subst e; have := hb.out; simp at hm; omega) (fun e => by subst e; have := hb.out; simp at hm; omega))) rfl rfl (by go_grown)
      · have : k = 3 := by omega
        subst this
        have h1s : 1 < s.size := by omega
        have hb := hide (bt_get h1s)
        cases hm : decide (((s[1]'h1s).toNat : Int) < 160)
        · cases hm2 : decide ((191 : Int) < ((s[1]'h1s).toNat : Int))
          · go_wp2
            go_ret2
            exact wideRes_of (HD.out.trans (slow_three (by omega) (by have := hb.out; simp at hm hm2; omega) (by have a2 := hok.out 2 (by omega) (by omega); omega))) (by have := HC.out; simp; omega) rfl (by go_grown)
          · go_wp2
            go_ret2
            exact wideRes_of (HD.out.trans (slow_range (by have := hb.out; simp at hm2; omega))) rfl rfl (by go_grown)
        · go_wp2
          go_ret2
          exact wideRes_of (HD.out.trans (slow_range (by have := hb.out; simp at hm; omega))) rfl rfl (by go_grown)
  · have hl : s.size < 3 := by simp at hq; omega
    go_enter Tryd.func22, Tryd.ntmps22
    go_wp2
    go_ret2
    exact wideRes_of (HD.out.trans (slow_short hl)) rfl rfl (by go_grown)

set_option maxHeartbeats 4000000 in
set_option maxRecDepth 100000 in
theorem wide_E1 (s : ByteArray) (h0 : 0 < s.size) (hs : s.size ≤ 2147483647) (hc : 225 ≤ bt s 0 ∧ bt s 0 < 237) (w : World) : Calls Tryd.prog 22 #[.string s] w (WideRes w (dec s.data.toList)) := by
  have hx := bt_get h0
  have g0 : decide ((240 : Int) ≤ ((s[0]'h0).toNat : Int)) = false := by rw [hx]; simp; omega
  have g1 : decide (((s[0]'h0).toNat : Int) < 245) = true := by rw [hx]; simp; omega
  have g2 : decide ((224 : Int) ≤ ((s[0]'h0).toNat : Int)) = true := by rw [hx]; simp; omega
  have g3 : decide (((s[0]'h0).toNat : Int) < 240) = true := by rw [hx]; simp; omega
  have g4 : decide ((194 : Int) ≤ ((s[0]'h0).toNat : Int)) = true := by rw [hx]; simp; omega
  have g5 : decide (((s[0]'h0).toNat : Int) < 224) = false := by rw [hx]; simp; omega
  have g6 : (((s[0]'h0).toNat : Int) == 224) = false := by rw [hx]; simp; omega
  have g7 : (((s[0]'h0).toNat : Int) == 237) = false := by rw [hx]; simp; omega
  have g8 : (((s[0]'h0).toNat : Int) == 240) = false := by rw [hx]; simp; omega
  have g9 : (((s[0]'h0).toNat : Int) == 244) = false := by rw [hx]; simp; omega
  have hd : dec s.data.toList = Lib.slowN s.size (bt s 0) (bt s 1) (bt s 2) (bt s 3) 3 128 191 := by rw [dec_bt]; exact (Lib.slow_E1 _ _ _ _ _ (by omega) (bt_lt s 1) (bt_lt s 2) (bt_lt s 3) (by omega)).symm
  have HD := hide hd
  have HC := hide hc
  have HX := hide hx
  clear hd hc hx
  cases hq : decide ((s.size : Int) < 3)
  · have hl : 3 ≤ s.size := by simp at hq; omega
    go_enter Tryd.func22, Tryd.ntmps22
    go_wp2
    go_loop [6] (fun i => ∃ k : Nat, 1 ≤ k ∧ k ≤ 3 ∧ i = .int .i64 k ∧ Hid (∀ j, 1 ≤ j → j < k → 128 ≤ bt s j ∧ bt s j ≤ 191)) (fun i => 3 - (intOf i).toNat)
    case atStart => exact ⟨1, Nat.le_refl _, by omega, rfl, hide (fun j h1 h2 => by omega)⟩
    case round =>
      obtain ⟨k, hk1, hk2, rfl, hok⟩ := hrel
      by_cases hlt : k < 3
      · have hks : k < s.size := by omega
        have hb := hide (bt_get hks)
        cases hm : decide (((s[k]'hks).toNat : Int) < 128)
        · cases hm2 : decide ((191 : Int) < ((s[k]'hks).toNat : Int))
          · go_wp2
            go_round
            case rel => exact ⟨k + 1, by omega, by omega, by go_num, hide (fun j h1 h2 => by
              by_cases he : j = k
              · subst he; have := hb.out; simp at hm hm2; omega
              · exact hok.out j h1 (by omega))⟩
            case measure => simp [intOf]; omega
          · go_wp2
            go_ret2
            exact wideRes_of (HD.out.trans (slow_bad hk1 hlt (by omega) (by omega) (by omega) (fun e => by subst e; have := hb.out; simp at hm2; omega) (fun e => by subst e; have := hb.out; simp at hm2; omega) (fun e => by subst e; have := hb.out; simp at hm2; omega))) rfl rfl (by go_grown)
        · go_wp2
          go_ret2
          exact wideRes_of (HD.out.trans (slow_bad hk1 hlt (by omega) (by omega) (by omega) (fun e => by subst e; have := hb.out; simp at hm; omega) (fun e => by subst e; have := hb.out; simp at hm; omega) (fun e => by subst e; have := hb.out; simp at hm; omega))) rfl rfl (by go_grown)
      · have : k = 3 := by omega
        subst this
        have h1s : 1 < s.size := by omega
        have hb := hide (bt_get h1s)
        cases hm : decide (((s[1]'h1s).toNat : Int) < 128)
        · cases hm2 : decide ((191 : Int) < ((s[1]'h1s).toNat : Int))
          · go_wp2
            go_ret2
            exact wideRes_of (HD.out.trans (slow_three (by omega) (by have := hb.out; simp at hm hm2; omega) (by have a2 := hok.out 2 (by omega) (by omega); omega))) (by have := HC.out; simp; omega) rfl (by go_grown)
          · go_wp2
            go_ret2
            exact wideRes_of (HD.out.trans (slow_range (by have := hb.out; simp at hm2; omega))) rfl rfl (by go_grown)
        · go_wp2
          go_ret2
          exact wideRes_of (HD.out.trans (slow_range (by have := hb.out; simp at hm; omega))) rfl rfl (by go_grown)
  · have hl : s.size < 3 := by simp at hq; omega
    go_enter Tryd.func22, Tryd.ntmps22
    go_wp2
    go_ret2
    exact wideRes_of (HD.out.trans (slow_short hl)) rfl rfl (by go_grown)

set_option maxHeartbeats 4000000 in
set_option maxRecDepth 100000 in
theorem wide_ED (s : ByteArray) (h0 : 0 < s.size) (hs : s.size ≤ 2147483647) (hc : bt s 0 = 237) (w : World) : Calls Tryd.prog 22 #[.string s] w (WideRes w (dec s.data.toList)) := by
  have hx := bt_get h0
  have g0 : decide ((240 : Int) ≤ ((s[0]'h0).toNat : Int)) = false := by rw [hx]; simp; omega
  have g1 : decide (((s[0]'h0).toNat : Int) < 245) = true := by rw [hx]; simp; omega
  have g2 : decide ((224 : Int) ≤ ((s[0]'h0).toNat : Int)) = true := by rw [hx]; simp; omega
  have g3 : decide (((s[0]'h0).toNat : Int) < 240) = true := by rw [hx]; simp; omega
  have g4 : decide ((194 : Int) ≤ ((s[0]'h0).toNat : Int)) = true := by rw [hx]; simp; omega
  have g5 : decide (((s[0]'h0).toNat : Int) < 224) = false := by rw [hx]; simp; omega
  have g6 : (((s[0]'h0).toNat : Int) == 224) = false := by rw [hx]; simp; omega
  have g7 : (((s[0]'h0).toNat : Int) == 237) = true := by rw [hx]; simp; omega
  have g8 : (((s[0]'h0).toNat : Int) == 240) = false := by rw [hx]; simp; omega
  have g9 : (((s[0]'h0).toNat : Int) == 244) = false := by rw [hx]; simp; omega
  have hd : dec s.data.toList = Lib.slowN s.size (bt s 0) (bt s 1) (bt s 2) (bt s 3) 3 128 159 := by rw [dec_bt]; exact (Lib.slow_ED _ _ _ _ _ (by omega) (bt_lt s 1) (bt_lt s 2) (bt_lt s 3) hc).symm
  have HD := hide hd
  have HC := hide hc
  have HX := hide hx
  clear hd hc hx
  cases hq : decide ((s.size : Int) < 3)
  · have hl : 3 ≤ s.size := by simp at hq; omega
    go_enter Tryd.func22, Tryd.ntmps22
    go_wp2
    go_loop [6] (fun i => ∃ k : Nat, 1 ≤ k ∧ k ≤ 3 ∧ i = .int .i64 k ∧ Hid (∀ j, 1 ≤ j → j < k → 128 ≤ bt s j ∧ bt s j ≤ 191)) (fun i => 3 - (intOf i).toNat)
    case atStart => exact ⟨1, Nat.le_refl _, by omega, rfl, hide (fun j h1 h2 => by omega)⟩
    case round =>
      obtain ⟨k, hk1, hk2, rfl, hok⟩ := hrel
      by_cases hlt : k < 3
      · have hks : k < s.size := by omega
        have hb := hide (bt_get hks)
        cases hm : decide (((s[k]'hks).toNat : Int) < 128)
        · cases hm2 : decide ((191 : Int) < ((s[k]'hks).toNat : Int))
          · go_wp2
            go_round
            case rel => exact ⟨k + 1, by omega, by omega, by go_num, hide (fun j h1 h2 => by
              by_cases he : j = k
              · subst he; have := hb.out; simp at hm hm2; omega
              · exact hok.out j h1 (by omega))⟩
            case measure => simp [intOf]; omega
          · go_wp2
            go_ret2
            exact wideRes_of (HD.out.trans (slow_bad hk1 hlt (by omega) (by omega) (by omega) (fun e => by subst e; have := hb.out; simp at hm2; omega) (fun e => by subst e; have := hb.out; simp at hm2; omega) (fun e => by subst e; have := hb.out; simp at hm2; omega))) rfl rfl (by go_grown)
        · go_wp2
          go_ret2
          exact wideRes_of (HD.out.trans (slow_bad hk1 hlt (by omega) (by omega) (by omega) (fun e => by subst e; have := hb.out; simp at hm; omega) (fun e => by subst e; have := hb.out; simp at hm; omega) (fun e => by subst e; have := hb.out; simp at hm; omega))) rfl rfl (by go_grown)
      · have : k = 3 := by omega
        subst this
        have h1s : 1 < s.size := by omega
        have hb := hide (bt_get h1s)
        cases hm : decide (((s[1]'h1s).toNat : Int) < 128)
        · cases hm2 : decide ((159 : Int) < ((s[1]'h1s).toNat : Int))
          · go_wp2
            go_ret2
            exact wideRes_of (HD.out.trans (slow_three (by omega) (by have := hb.out; simp at hm hm2; omega) (by have a2 := hok.out 2 (by omega) (by omega); omega))) (by have := HC.out; simp; omega) rfl (by go_grown)
          · go_wp2
            go_ret2
            exact wideRes_of (HD.out.trans (slow_range (by have := hb.out; simp at hm2; omega))) rfl rfl (by go_grown)
        · go_wp2
          go_ret2
          exact wideRes_of (HD.out.trans (slow_range (by have := hb.out; simp at hm; omega))) rfl rfl (by go_grown)
  · have hl : s.size < 3 := by simp at hq; omega
    go_enter Tryd.func22, Tryd.ntmps22
    go_wp2
    go_ret2
    exact wideRes_of (HD.out.trans (slow_short hl)) rfl rfl (by go_grown)

set_option maxHeartbeats 4000000 in
set_option maxRecDepth 100000 in
theorem wide_EE (s : ByteArray) (h0 : 0 < s.size) (hs : s.size ≤ 2147483647) (hc : 238 ≤ bt s 0 ∧ bt s 0 < 240) (w : World) : Calls Tryd.prog 22 #[.string s] w (WideRes w (dec s.data.toList)) := by
  have hx := bt_get h0
  have g0 : decide ((240 : Int) ≤ ((s[0]'h0).toNat : Int)) = false := by rw [hx]; simp; omega
  have g1 : decide (((s[0]'h0).toNat : Int) < 245) = true := by rw [hx]; simp; omega
  have g2 : decide ((224 : Int) ≤ ((s[0]'h0).toNat : Int)) = true := by rw [hx]; simp; omega
  have g3 : decide (((s[0]'h0).toNat : Int) < 240) = true := by rw [hx]; simp; omega
  have g4 : decide ((194 : Int) ≤ ((s[0]'h0).toNat : Int)) = true := by rw [hx]; simp; omega
  have g5 : decide (((s[0]'h0).toNat : Int) < 224) = false := by rw [hx]; simp; omega
  have g6 : (((s[0]'h0).toNat : Int) == 224) = false := by rw [hx]; simp; omega
  have g7 : (((s[0]'h0).toNat : Int) == 237) = false := by rw [hx]; simp; omega
  have g8 : (((s[0]'h0).toNat : Int) == 240) = false := by rw [hx]; simp; omega
  have g9 : (((s[0]'h0).toNat : Int) == 244) = false := by rw [hx]; simp; omega
  have hd : dec s.data.toList = Lib.slowN s.size (bt s 0) (bt s 1) (bt s 2) (bt s 3) 3 128 191 := by rw [dec_bt]; exact (Lib.slow_E1 _ _ _ _ _ (by omega) (bt_lt s 1) (bt_lt s 2) (bt_lt s 3) (by omega)).symm
  have HD := hide hd
  have HC := hide hc
  have HX := hide hx
  clear hd hc hx
  cases hq : decide ((s.size : Int) < 3)
  · have hl : 3 ≤ s.size := by simp at hq; omega
    go_enter Tryd.func22, Tryd.ntmps22
    go_wp2
    go_loop [6] (fun i => ∃ k : Nat, 1 ≤ k ∧ k ≤ 3 ∧ i = .int .i64 k ∧ Hid (∀ j, 1 ≤ j → j < k → 128 ≤ bt s j ∧ bt s j ≤ 191)) (fun i => 3 - (intOf i).toNat)
    case atStart => exact ⟨1, Nat.le_refl _, by omega, rfl, hide (fun j h1 h2 => by omega)⟩
    case round =>
      obtain ⟨k, hk1, hk2, rfl, hok⟩ := hrel
      by_cases hlt : k < 3
      · have hks : k < s.size := by omega
        have hb := hide (bt_get hks)
        cases hm : decide (((s[k]'hks).toNat : Int) < 128)
        · cases hm2 : decide ((191 : Int) < ((s[k]'hks).toNat : Int))
          · go_wp2
            go_round
            case rel => exact ⟨k + 1, by omega, by omega, by go_num, hide (fun j h1 h2 => by
              by_cases he : j = k
              · subst he; have := hb.out; simp at hm hm2; omega
              · exact hok.out j h1 (by omega))⟩
            case measure => simp [intOf]; omega
          · go_wp2
            go_ret2
            exact wideRes_of (HD.out.trans (slow_bad hk1 hlt (by omega) (by omega) (by omega) (fun e => by subst e; have := hb.out; simp at hm2; omega) (fun e => by subst e; have := hb.out; simp at hm2; omega) (fun e => by subst e; have := hb.out; simp at hm2; omega))) rfl rfl (by go_grown)
        · go_wp2
          go_ret2
          exact wideRes_of (HD.out.trans (slow_bad hk1 hlt (by omega) (by omega) (by omega) (fun e => by subst e; have := hb.out; simp at hm; omega) (fun e => by subst e; have := hb.out; simp at hm; omega) (fun e => by subst e; have := hb.out; simp at hm; omega))) rfl rfl (by go_grown)
      · have : k = 3 := by omega
        subst this
        have h1s : 1 < s.size := by omega
        have hb := hide (bt_get h1s)
        cases hm : decide (((s[1]'h1s).toNat : Int) < 128)
        · cases hm2 : decide ((191 : Int) < ((s[1]'h1s).toNat : Int))
          · go_wp2
            go_ret2
            exact wideRes_of (HD.out.trans (slow_three (by omega) (by have := hb.out; simp at hm hm2; omega) (by have a2 := hok.out 2 (by omega) (by omega); omega))) (by have := HC.out; simp; omega) rfl (by go_grown)
          · go_wp2
            go_ret2
            exact wideRes_of (HD.out.trans (slow_range (by have := hb.out; simp at hm2; omega))) rfl rfl (by go_grown)
        · go_wp2
          go_ret2
          exact wideRes_of (HD.out.trans (slow_range (by have := hb.out; simp at hm; omega))) rfl rfl (by go_grown)
  · have hl : s.size < 3 := by simp at hq; omega
    go_enter Tryd.func22, Tryd.ntmps22
    go_wp2
    go_ret2
    exact wideRes_of (HD.out.trans (slow_short hl)) rfl rfl (by go_grown)

set_option maxHeartbeats 4000000 in
set_option maxRecDepth 100000 in
theorem wide_F0 (s : ByteArray) (h0 : 0 < s.size) (hs : s.size ≤ 2147483647) (hc : bt s 0 = 240) (w : World) : Calls Tryd.prog 22 #[.string s] w (WideRes w (dec s.data.toList)) := by
  have hx := bt_get h0
  have g0 : decide ((240 : Int) ≤ ((s[0]'h0).toNat : Int)) = true := by rw [hx]; simp; omega
  have g1 : decide (((s[0]'h0).toNat : Int) < 245) = true := by rw [hx]; simp; omega
  have g2 : decide ((224 : Int) ≤ ((s[0]'h0).toNat : Int)) = true := by rw [hx]; simp; omega
  have g3 : decide (((s[0]'h0).toNat : Int) < 240) = false := by rw [hx]; simp; omega
  have g4 : decide ((194 : Int) ≤ ((s[0]'h0).toNat : Int)) = true := by rw [hx]; simp; omega
  have g5 : decide (((s[0]'h0).toNat : Int) < 224) = false := by rw [hx]; simp; omega
  have g6 : (((s[0]'h0).toNat : Int) == 224) = false := by rw [hx]; simp; omega
  have g7 : (((s[0]'h0).toNat : Int) == 237) = false := by rw [hx]; simp; omega
  have g8 : (((s[0]'h0).toNat : Int) == 240) = true := by rw [hx]; simp; omega
  have g9 : (((s[0]'h0).toNat : Int) == 244) = false := by rw [hx]; simp; omega
  have hd : dec s.data.toList = Lib.slowN s.size (bt s 0) (bt s 1) (bt s 2) (bt s 3) 4 144 191 := by rw [dec_bt]; exact (Lib.slow_F0 _ _ _ _ _ (by omega) (bt_lt s 1) (bt_lt s 2) (bt_lt s 3) hc).symm
  have HD := hide hd
  have HC := hide hc
  have HX := hide hx
  clear hd hc hx
  cases hq : decide ((s.size : Int) < 4)
  · have hl : 4 ≤ s.size := by simp at hq; omega
    go_enter Tryd.func22, Tryd.ntmps22
    go_wp2
    go_loop [6] (fun i => ∃ k : Nat, 1 ≤ k ∧ k ≤ 4 ∧ i = .int .i64 k ∧ Hid (∀ j, 1 ≤ j → j < k → 128 ≤ bt s j ∧ bt s j ≤ 191)) (fun i => 4 - (intOf i).toNat)
    case atStart => exact ⟨1, Nat.le_refl _, by omega, rfl, hide (fun j h1 h2 => by omega)⟩
    case round =>
      obtain ⟨k, hk1, hk2, rfl, hok⟩ := hrel
      by_cases hlt : k < 4
      · have hks : k < s.size := by omega
        have hb := hide (bt_get hks)
        cases hm : decide (((s[k]'hks).toNat : Int) < 128)
        · cases hm2 : decide ((191 : Int) < ((s[k]'hks).toNat : Int))
          · go_wp2
            go_round
            case rel => exact ⟨k + 1, by omega, by omega, by go_num, hide (fun j h1 h2 => by
              by_cases he : j = k
              · subst he; have := hb.out; simp at hm hm2; omega
              · exact hok.out j h1 (by omega))⟩
            case measure => simp [intOf]; omega
          · go_wp2
            go_ret2
            exact wideRes_of (HD.out.trans (slow_bad hk1 hlt (by omega) (by omega) (by omega) (fun e => by subst e; have := hb.out; simp at hm2; omega) (fun e => by subst e; have := hb.out; simp at hm2; omega) (fun e => by subst e; have := hb.out; simp at hm2; omega))) rfl rfl (by go_grown)
        · go_wp2
          go_ret2
          exact wideRes_of (HD.out.trans (slow_bad hk1 hlt (by omega) (by omega) (by omega) (fun e => by subst e; have := hb.out; simp at hm; omega) (fun e => by subst e; have := hb.out; simp at hm; omega) (fun e => by subst e; have := hb.out; simp at hm; omega))) rfl rfl (by go_grown)
      · have : k = 4 := by omega
        subst this
        have h1s : 1 < s.size := by omega
        have hb := hide (bt_get h1s)
        cases hm : decide (((s[1]'h1s).toNat : Int) < 144)
        · cases hm2 : decide ((191 : Int) < ((s[1]'h1s).toNat : Int))
          · go_wp2
            go_ret2
            exact wideRes_of (HD.out.trans (slow_four (by omega) (by have := hb.out; simp at hm hm2; omega) (by have a2 := hok.out 2 (by omega) (by omega); omega) (by have a3 := hok.out 3 (by omega) (by omega); omega))) (by have := HC.out; have := hb.out; simp at hm hm2 ⊢; omega) rfl (by go_grown)
          · go_wp2
            go_ret2
            exact wideRes_of (HD.out.trans (slow_range (by have := hb.out; simp at hm2; omega))) rfl rfl (by go_grown)
        · go_wp2
          go_ret2
          exact wideRes_of (HD.out.trans (slow_range (by have := hb.out; simp at hm; omega))) rfl rfl (by go_grown)
  · have hl : s.size < 4 := by simp at hq; omega
    go_enter Tryd.func22, Tryd.ntmps22
    go_wp2
    go_ret2
    exact wideRes_of (HD.out.trans (slow_short hl)) rfl rfl (by go_grown)

set_option maxHeartbeats 4000000 in
set_option maxRecDepth 100000 in
theorem wide_F1 (s : ByteArray) (h0 : 0 < s.size) (hs : s.size ≤ 2147483647) (hc : 241 ≤ bt s 0 ∧ bt s 0 < 244) (w : World) : Calls Tryd.prog 22 #[.string s] w (WideRes w (dec s.data.toList)) := by
  have hx := bt_get h0
  have g0 : decide ((240 : Int) ≤ ((s[0]'h0).toNat : Int)) = true := by rw [hx]; simp; omega
  have g1 : decide (((s[0]'h0).toNat : Int) < 245) = true := by rw [hx]; simp; omega
  have g2 : decide ((224 : Int) ≤ ((s[0]'h0).toNat : Int)) = true := by rw [hx]; simp; omega
  have g3 : decide (((s[0]'h0).toNat : Int) < 240) = false := by rw [hx]; simp; omega
  have g4 : decide ((194 : Int) ≤ ((s[0]'h0).toNat : Int)) = true := by rw [hx]; simp; omega
  have g5 : decide (((s[0]'h0).toNat : Int) < 224) = false := by rw [hx]; simp; omega
  have g6 : (((s[0]'h0).toNat : Int) == 224) = false := by rw [hx]; simp; omega
  have g7 : (((s[0]'h0).toNat : Int) == 237) = false := by rw [hx]; simp; omega
  have g8 : (((s[0]'h0).toNat : Int) == 240) = false := by rw [hx]; simp; omega
  have g9 : (((s[0]'h0).toNat : Int) == 244) = false := by rw [hx]; simp; omega
  have hd : dec s.data.toList = Lib.slowN s.size (bt s 0) (bt s 1) (bt s 2) (bt s 3) 4 128 191 := by rw [dec_bt]; exact (Lib.slow_F1 _ _ _ _ _ (by omega) (bt_lt s 1) (bt_lt s 2) (bt_lt s 3) hc).symm
  have HD := hide hd
  have HC := hide hc
  have HX := hide hx
  clear hd hc hx
  cases hq : decide ((s.size : Int) < 4)
  · have hl : 4 ≤ s.size := by simp at hq; omega
    go_enter Tryd.func22, Tryd.ntmps22
    go_wp2
    go_loop [6] (fun i => ∃ k : Nat, 1 ≤ k ∧ k ≤ 4 ∧ i = .int .i64 k ∧ Hid (∀ j, 1 ≤ j → j < k → 128 ≤ bt s j ∧ bt s j ≤ 191)) (fun i => 4 - (intOf i).toNat)
    case atStart => exact ⟨1, Nat.le_refl _, by omega, rfl, hide (fun j h1 h2 => by omega)⟩
    case round =>
      obtain ⟨k, hk1, hk2, rfl, hok⟩ := hrel
      by_cases hlt : k < 4
      · have hks : k < s.size := by omega
        have hb := hide (bt_get hks)
        cases hm : decide (((s[k]'hks).toNat : Int) < 128)
        · cases hm2 : decide ((191 : Int) < ((s[k]'hks).toNat : Int))
          · go_wp2
            go_round
            case rel => exact ⟨k + 1, by omega, by omega, by go_num, hide (fun j h1 h2 => by
              by_cases he : j = k
              · subst he; have := hb.out; simp at hm hm2; omega
              · exact hok.out j h1 (by omega))⟩
            case measure => simp [intOf]; omega
          · go_wp2
            go_ret2
            exact wideRes_of (HD.out.trans (slow_bad hk1 hlt (by omega) (by omega) (by omega) (fun e => by subst e; have := hb.out; simp at hm2; omega) (fun e => by subst e; have := hb.out; simp at hm2; omega) (fun e => by subst e; have := hb.out; simp at hm2; omega))) rfl rfl (by go_grown)
        · go_wp2
          go_ret2
          exact wideRes_of (HD.out.trans (slow_bad hk1 hlt (by omega) (by omega) (by omega) (fun e => by subst e; have := hb.out; simp at hm; omega) (fun e => by subst e; have := hb.out; simp at hm; omega) (fun e => by subst e; have := hb.out; simp at hm; omega))) rfl rfl (by go_grown)
      · have : k = 4 := by omega
        subst this
        have h1s : 1 < s.size := by omega
        have hb := hide (bt_get h1s)
        cases hm : decide (((s[1]'h1s).toNat : Int) < 128)
        · cases hm2 : decide ((191 : Int) < ((s[1]'h1s).toNat : Int))
          · go_wp2
            go_ret2
            exact wideRes_of (HD.out.trans (slow_four (by omega) (by have := hb.out; simp at hm hm2; omega) (by have a2 := hok.out 2 (by omega) (by omega); omega) (by have a3 := hok.out 3 (by omega) (by omega); omega))) (by have := HC.out; have := hb.out; simp at hm hm2 ⊢; omega) rfl (by go_grown)
          · go_wp2
            go_ret2
            exact wideRes_of (HD.out.trans (slow_range (by have := hb.out; simp at hm2; omega))) rfl rfl (by go_grown)
        · go_wp2
          go_ret2
          exact wideRes_of (HD.out.trans (slow_range (by have := hb.out; simp at hm; omega))) rfl rfl (by go_grown)
  · have hl : s.size < 4 := by simp at hq; omega
    go_enter Tryd.func22, Tryd.ntmps22
    go_wp2
    go_ret2
    exact wideRes_of (HD.out.trans (slow_short hl)) rfl rfl (by go_grown)

set_option maxHeartbeats 4000000 in
set_option maxRecDepth 100000 in
theorem wide_F4 (s : ByteArray) (h0 : 0 < s.size) (hs : s.size ≤ 2147483647) (hc : bt s 0 = 244) (w : World) : Calls Tryd.prog 22 #[.string s] w (WideRes w (dec s.data.toList)) := by
  have hx := bt_get h0
  have g0 : decide ((240 : Int) ≤ ((s[0]'h0).toNat : Int)) = true := by rw [hx]; simp; omega
  have g1 : decide (((s[0]'h0).toNat : Int) < 245) = true := by rw [hx]; simp; omega
  have g2 : decide ((224 : Int) ≤ ((s[0]'h0).toNat : Int)) = true := by rw [hx]; simp; omega
  have g3 : decide (((s[0]'h0).toNat : Int) < 240) = false := by rw [hx]; simp; omega
  have g4 : decide ((194 : Int) ≤ ((s[0]'h0).toNat : Int)) = true := by rw [hx]; simp; omega
  have g5 : decide (((s[0]'h0).toNat : Int) < 224) = false := by rw [hx]; simp; omega
  have g6 : (((s[0]'h0).toNat : Int) == 224) = false := by rw [hx]; simp; omega
  have g7 : (((s[0]'h0).toNat : Int) == 237) = false := by rw [hx]; simp; omega
  have g8 : (((s[0]'h0).toNat : Int) == 240) = false := by rw [hx]; simp; omega
  have g9 : (((s[0]'h0).toNat : Int) == 244) = true := by rw [hx]; simp; omega
  have hd : dec s.data.toList = Lib.slowN s.size (bt s 0) (bt s 1) (bt s 2) (bt s 3) 4 128 143 := by rw [dec_bt]; exact (Lib.slow_F4 _ _ _ _ _ (by omega) (bt_lt s 1) (bt_lt s 2) (bt_lt s 3) hc).symm
  have HD := hide hd
  have HC := hide hc
  have HX := hide hx
  clear hd hc hx
  cases hq : decide ((s.size : Int) < 4)
  · have hl : 4 ≤ s.size := by simp at hq; omega
    go_enter Tryd.func22, Tryd.ntmps22
    go_wp2
    go_loop [6] (fun i => ∃ k : Nat, 1 ≤ k ∧ k ≤ 4 ∧ i = .int .i64 k ∧ Hid (∀ j, 1 ≤ j → j < k → 128 ≤ bt s j ∧ bt s j ≤ 191)) (fun i => 4 - (intOf i).toNat)
    case atStart => exact ⟨1, Nat.le_refl _, by omega, rfl, hide (fun j h1 h2 => by omega)⟩
    case round =>
      obtain ⟨k, hk1, hk2, rfl, hok⟩ := hrel
      by_cases hlt : k < 4
      · have hks : k < s.size := by omega
        have hb := hide (bt_get hks)
        cases hm : decide (((s[k]'hks).toNat : Int) < 128)
        · cases hm2 : decide ((191 : Int) < ((s[k]'hks).toNat : Int))
          · go_wp2
            go_round
            case rel => exact ⟨k + 1, by omega, by omega, by go_num, hide (fun j h1 h2 => by
              by_cases he : j = k
              · subst he; have := hb.out; simp at hm hm2; omega
              · exact hok.out j h1 (by omega))⟩
            case measure => simp [intOf]; omega
          · go_wp2
            go_ret2
            exact wideRes_of (HD.out.trans (slow_bad hk1 hlt (by omega) (by omega) (by omega) (fun e => by subst e; have := hb.out; simp at hm2; omega) (fun e => by subst e; have := hb.out; simp at hm2; omega) (fun e => by subst e; have := hb.out; simp at hm2; omega))) rfl rfl (by go_grown)
        · go_wp2
          go_ret2
          exact wideRes_of (HD.out.trans (slow_bad hk1 hlt (by omega) (by omega) (by omega) (fun e => by subst e; have := hb.out; simp at hm; omega) (fun e => by subst e; have := hb.out; simp at hm; omega) (fun e => by subst e; have := hb.out; simp at hm; omega))) rfl rfl (by go_grown)
      · have : k = 4 := by omega
        subst this
        have h1s : 1 < s.size := by omega
        have hb := hide (bt_get h1s)
        cases hm : decide (((s[1]'h1s).toNat : Int) < 128)
        · cases hm2 : decide ((143 : Int) < ((s[1]'h1s).toNat : Int))
          · go_wp2
            go_ret2
            exact wideRes_of (HD.out.trans (slow_four (by omega) (by have := hb.out; simp at hm hm2; omega) (by have a2 := hok.out 2 (by omega) (by omega); omega) (by have a3 := hok.out 3 (by omega) (by omega); omega))) (by have := HC.out; have := hb.out; simp at hm hm2 ⊢; omega) rfl (by go_grown)
          · go_wp2
            go_ret2
            exact wideRes_of (HD.out.trans (slow_range (by have := hb.out; simp at hm2; omega))) rfl rfl (by go_grown)
        · go_wp2
          go_ret2
          exact wideRes_of (HD.out.trans (slow_range (by have := hb.out; simp at hm; omega))) rfl rfl (by go_grown)
  · have hl : s.size < 4 := by simp at hq; omega
    go_enter Tryd.func22, Tryd.ntmps22
    go_wp2
    go_ret2
    exact wideRes_of (HD.out.trans (slow_short hl)) rfl rfl (by go_grown)

theorem wide_any (s : ByteArray) (h0 : 0 < s.size) (hs : s.size ≤ 2147483647) (w : World) : Calls Tryd.prog 22 #[.string s] w (WideRes w (dec s.data.toList)) := by
  have hb := bt_lt s 0
  have : bt s 0 < 194 ∨ 245 ≤ bt s 0 ∨ (194 ≤ bt s 0 ∧ bt s 0 < 224) ∨ bt s 0 = 224 ∨ (225 ≤ bt s 0 ∧ bt s 0 < 237) ∨ bt s 0 = 237 ∨ (238 ≤ bt s 0 ∧ bt s 0 < 240) ∨ bt s 0 = 240 ∨ (241 ≤ bt s 0 ∧ bt s 0 < 244) ∨ bt s 0 = 244 := by omega
  rcases this with h | h | h | h | h | h | h | h | h | h
  · exact wide_A s h0 hs h w
  · exact wide_B s h0 hs h w
  · exact wide_C2 s h0 hs h w
  · exact wide_E0 s h0 hs h w
  · exact wide_E1 s h0 hs h w
  · exact wide_ED s h0 hs h w
  · exact wide_EE s h0 hs h w
  · exact wide_F0 s h0 hs h w
  · exact wide_F1 s h0 hs h w
  · exact wide_F4 s h0 hs h w
end Go.Proofs.YtckgdkjgllopmaaDoor
