/- Walks: update of a span of lines and columns. No condition but sizes. -/
import Derived.Test.YtbbdhlnldkkdbaaUpdB
namespace Go.Proofs.Ytbbdhlnldkkdbaa
open Go.RowKit
attribute [local go_sem ↓] Go.wp_at_zero Go.wp_at_succ

theorem told_l {l o : Int} (h : 0 < l) : told l o = true := by unfold told; simp; omega

set_option maxHeartbeats 4000000 in
theorem updA_one (wp : Bool) (u : ByteArray) (l c o l2 c2 o2 r : Int) (g p n : Nat) (L : List Int) (w0 w : World) (hC : Conv w0 p n L) (hb0 : Below w0.heap.size w0 w) (hg : w0.heap.size ≤ g)
    (hB : Blk w g 62 #[.string u, .int .i64 l, .int .i64 c, .int .i64 o, .int .i64 l2, .int .i64 c2, .int .i64 o2]) (p1 : 0 < l) (p2 : 0 < l2) (hd : decide ((0 : Int) ≤ o) = false ∨ (decide ((0 : Int) ≤ o) = true ∧ decide ((0 : Int) ≤ o2) = false)) (q1 : (l2 == l) = true) (q2 : (c2 == c) = true)
    (hT1 : ∀ W, Conv W p n L → Calls Try.prog 45 #[.pointer (some ⟨p, 0, none⟩), .int .i64 l, .int .i64 c] W (OffRes W r))
    : Calls Try.prog 73 #[.pointer (some ⟨g, 0, none⟩), .iface 71 (.pointer (some ⟨p, 0, none⟩)), .bool wp, .bool true] w
      (UpdRes w g #[.string u, .int .i64 l, .int .i64 c, .int .i64 r, .int .i64 l2, .int .i64 c2, .int .i64 r]) := by
  have HX := hide (fun (W : World) (h : w.grownBy W (some g)) => hb0.trans (SX.below h hg hb0.size))
  have H1 := hide (fun (W : World) (h : w.grownBy W (some g)) (h2 : Blk W g 62 #[.string u, .int .i64 l, .int .i64 c, .int .i64 o, .int .i64 l2, .int .i64 c2, .int .i64 o2]) => updOff1 u l c o l2 c2 o2 r g p n L w0 W hC (HX.out W h) h2 hT1)
  have HV := hide (fun W => isValid_any u l c o l2 c2 o2 W)
  rw [told_l p1] at HV
  have k7 := hB.seven
  have hG := World.grownBy.refl w (some g)
  have z1 : decide (0 < l) = true := by simpa using p1
  have z2 : decide (0 < l2) = true := by simpa using p2
  clear hC hT1
  cases wp <;> rcases hd with d1 | ⟨d1, d2⟩
  all_goals
    go_enter Try.func73, Try.ntmps73
    go_wp2_with (first
      | (go_at_call 58; refine (HV.out _).mono ?_; rintro e w1 ⟨rfl, hb⟩; have kk := Blk.kept (g := g) (by assumption) hb; have hG := gcall (by assumption) hb; have k7 := kk.seven; clear hb)
      | (go_at_call 81; refine (spHasPos_any _ _ _ _ _ _ _ _).mono ?_; rintro e w1 ⟨rfl, hb⟩; have kk := Blk.kept (g := g) (by assumption) hb; have hG := gcall (by assumption) hb; have k7 := kk.seven; clear hb)
      | (go_at_call 83; refine (spHasOff_any _ _ _ _ _ _ _ _).mono ?_; rintro e w1 ⟨rfl, hb⟩; have kk := Blk.kept (g := g) (by assumption) hb; have hG := gcall (by assumption) hb; have k7 := kk.seven; clear hb)
      | (go_at_call 76; refine (ptHasPos_any _ _ _ _).mono ?_; rintro e w1 ⟨rfl, hb⟩; have kk := Blk.kept (g := g) (by assumption) hb; have hG := gcall (by assumption) hb; have k7 := kk.seven; clear hb)
      | (go_at_call 77; refine (ptHasOff_any _ _ _ _).mono ?_; rintro e w1 ⟨rfl, hb⟩; have kk := Blk.kept (g := g) (by assumption) hb; have hG := gcall (by assumption) hb; have k7 := kk.seven; clear hb)
      | (go_at_call 84; refine (H1.out _ (by assumption) (by assumption)).mono ?_; rintro e w1 ⟨rfl, kk, hg1⟩; have hG := gtrans (by assumption) hg1; have k7 := kk.seven; clear hg1))
    have kkd := kk.drew
    have hGd := grown_drew hG
    go_region_held3 (fun w' => w'.cell? ⟨g, 4, none⟩ = some (.int .i64 l2) ∧ w'.cell? ⟨g, 1, none⟩ = some (.int .i64 l) ∧ w'.cell? ⟨g, 5, none⟩ = some (.int .i64 c2) ∧ w'.cell? ⟨g, 2, none⟩ = some (.int .i64 c)) (go_keep) (fail)
    have kd7 := kkd.seven
    go_wp2
    go_ret
    exact ⟨rfl, kkd.set_ 6 (.int .i64 r), (SX.set (p := ⟨g, 6, none⟩) (SX.of (g := g) hGd) rfl _).2.2⟩

set_option maxHeartbeats 4000000 in
theorem updA_twoC (wp : Bool) (u : ByteArray) (l c o l2 c2 o2 r r2 : Int) (g p n : Nat) (L : List Int) (w0 w : World) (hC : Conv w0 p n L) (hb0 : Below w0.heap.size w0 w) (hg : w0.heap.size ≤ g)
    (hB : Blk w g 62 #[.string u, .int .i64 l, .int .i64 c, .int .i64 o, .int .i64 l2, .int .i64 c2, .int .i64 o2]) (p1 : 0 < l) (p2 : 0 < l2) (hd : decide ((0 : Int) ≤ o) = false ∨ (decide ((0 : Int) ≤ o) = true ∧ decide ((0 : Int) ≤ o2) = false)) (q1 : (l2 == l) = true) (q2 : (c2 == c) = false)
    (hT1 : ∀ W, Conv W p n L → Calls Try.prog 45 #[.pointer (some ⟨p, 0, none⟩), .int .i64 l, .int .i64 c] W (OffRes W r))
    (hT2 : ∀ W, Conv W p n L → Calls Try.prog 45 #[.pointer (some ⟨p, 0, none⟩), .int .i64 l2, .int .i64 c2] W (OffRes W r2))
    : Calls Try.prog 73 #[.pointer (some ⟨g, 0, none⟩), .iface 71 (.pointer (some ⟨p, 0, none⟩)), .bool wp, .bool true] w
      (UpdRes w g #[.string u, .int .i64 l, .int .i64 c, .int .i64 r, .int .i64 l2, .int .i64 c2, .int .i64 r2]) := by
  have HX := hide (fun (W : World) (h : w.grownBy W (some g)) => hb0.trans (SX.below h hg hb0.size))
  have H1 := hide (fun (W : World) (h : w.grownBy W (some g)) (h2 : Blk W g 62 #[.string u, .int .i64 l, .int .i64 c, .int .i64 o, .int .i64 l2, .int .i64 c2, .int .i64 o2]) => updOff1 u l c o l2 c2 o2 r g p n L w0 W hC (HX.out W h) h2 hT1)
  have H4 := hide (fun (W : World) (h : w.grownBy W (some g)) (h2 : Blk W g 62 #[.string u, .int .i64 l, .int .i64 c, .int .i64 r, .int .i64 l2, .int .i64 c2, .int .i64 o2]) => updOff4 u l c r l2 c2 o2 r2 g p n L w0 W hC (HX.out W h) h2 hT2)
  have HV := hide (fun W => isValid_any u l c o l2 c2 o2 W)
  rw [told_l p1] at HV
  have k7 := hB.seven
  have hG := World.grownBy.refl w (some g)
  have z1 : decide (0 < l) = true := by simpa using p1
  have z2 : decide (0 < l2) = true := by simpa using p2
  clear hC hT1 hT2
  cases wp <;> rcases hd with d1 | ⟨d1, d2⟩
  all_goals
    go_enter Try.func73, Try.ntmps73
    go_wp2_with (first
      | (go_at_call 58; refine (HV.out _).mono ?_; rintro e w1 ⟨rfl, hb⟩; have kk := Blk.kept (g := g) (by assumption) hb; have hG := gcall (by assumption) hb; have k7 := kk.seven; clear hb)
      | (go_at_call 81; refine (spHasPos_any _ _ _ _ _ _ _ _).mono ?_; rintro e w1 ⟨rfl, hb⟩; have kk := Blk.kept (g := g) (by assumption) hb; have hG := gcall (by assumption) hb; have k7 := kk.seven; clear hb)
      | (go_at_call 83; refine (spHasOff_any _ _ _ _ _ _ _ _).mono ?_; rintro e w1 ⟨rfl, hb⟩; have kk := Blk.kept (g := g) (by assumption) hb; have hG := gcall (by assumption) hb; have k7 := kk.seven; clear hb)
      | (go_at_call 76; refine (ptHasPos_any _ _ _ _).mono ?_; rintro e w1 ⟨rfl, hb⟩; have kk := Blk.kept (g := g) (by assumption) hb; have hG := gcall (by assumption) hb; have k7 := kk.seven; clear hb)
      | (go_at_call 77; refine (ptHasOff_any _ _ _ _).mono ?_; rintro e w1 ⟨rfl, hb⟩; have kk := Blk.kept (g := g) (by assumption) hb; have hG := gcall (by assumption) hb; have k7 := kk.seven; clear hb)
      | (go_at_call 84; refine (H1.out _ (by assumption) (by assumption)).mono ?_; rintro e w1 ⟨rfl, kk, hg1⟩; have hG := gtrans (by assumption) hg1; have k7 := kk.seven; clear hg1))
    have kkd := kk.drew
    have hGd := grown_drew hG
    go_region_held3 (fun w' => w'.cell? ⟨g, 4, none⟩ = some (.int .i64 l2) ∧ w'.cell? ⟨g, 1, none⟩ = some (.int .i64 l) ∧ w'.cell? ⟨g, 5, none⟩ = some (.int .i64 c2) ∧ w'.cell? ⟨g, 2, none⟩ = some (.int .i64 c)) (go_keep) (fail)
    have kd7 := kkd.seven
    go_wp2_with (first
      | (go_at_call 84; refine (H4.out _ (by assumption) (by assumption)).mono ?_; rintro e w1 ⟨rfl, kk, hg1⟩; have hG := gtrans (by assumption) hg1; have k7 := kk.seven; clear hg1))
    go_ret
    exact ⟨rfl, by assumption, by assumption⟩

set_option maxHeartbeats 4000000 in
/-- A span that has all stays as it is. -/
theorem updA_none (wp : Bool) (u : ByteArray) (l c o l2 c2 o2 : Int) (g p : Nat) (w : World)
    (hB : Blk w g 62 #[.string u, .int .i64 l, .int .i64 c, .int .i64 o, .int .i64 l2, .int .i64 c2, .int .i64 o2]) (p1 : 0 < l) (p2 : 0 < l2) (d1 : decide ((0 : Int) ≤ o) = true) (d2 : decide ((0 : Int) ≤ o2) = true) :
    Calls Try.prog 73 #[.pointer (some ⟨g, 0, none⟩), .iface 71 (.pointer (some ⟨p, 0, none⟩)), .bool wp, .bool true] w
      (UpdRes w g #[.string u, .int .i64 l, .int .i64 c, .int .i64 o, .int .i64 l2, .int .i64 c2, .int .i64 o2]) := by
  have HV := hide (fun W => isValid_any u l c o l2 c2 o2 W)
  rw [told_l p1] at HV
  have k7 := hB.seven
  have hG := World.grownBy.refl w (some g)
  have z1 : decide (0 < l) = true := by simpa using p1
  have z2 : decide (0 < l2) = true := by simpa using p2
  cases wp
  all_goals
    go_enter Try.func73, Try.ntmps73
    go_wp2_with (first
      | (go_at_call 58; refine (HV.out _).mono ?_; rintro e w1 ⟨rfl, hb⟩; have kk := Blk.kept (g := g) (by assumption) hb; have hG := gcall (by assumption) hb; have k7 := kk.seven; clear hb)
      | (go_at_call 81; refine (spHasPos_any _ _ _ _ _ _ _ _).mono ?_; rintro e w1 ⟨rfl, hb⟩; have kk := Blk.kept (g := g) (by assumption) hb; have hG := gcall (by assumption) hb; have k7 := kk.seven; clear hb)
      | (go_at_call 83; refine (spHasOff_any _ _ _ _ _ _ _ _).mono ?_; rintro e w1 ⟨rfl, hb⟩; have kk := Blk.kept (g := g) (by assumption) hb; have hG := gcall (by assumption) hb; have k7 := kk.seven; clear hb)
      | (go_at_call 76; refine (ptHasPos_any _ _ _ _).mono ?_; rintro e w1 ⟨rfl, hb⟩; have kk := Blk.kept (g := g) (by assumption) hb; have hG := gcall (by assumption) hb; have k7 := kk.seven; clear hb)
      | (go_at_call 77; refine (ptHasOff_any _ _ _ _).mono ?_; rintro e w1 ⟨rfl, hb⟩; have kk := Blk.kept (g := g) (by assumption) hb; have hG := gcall (by assumption) hb; have k7 := kk.seven; clear hb))
    go_ret
    exact ⟨rfl, by assumption, by assumption⟩

end Go.Proofs.Ytbbdhlnldkkdbaa
