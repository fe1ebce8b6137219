/- Walks: update of a span of offsets, of a span of lines and columns. No condition but sizes. -/
import Derived.Test.YtbbdhlnldkkdbaaUpd
namespace Go.Proofs.Ytbbdhlnldkkdbaa
open Go.RowKit
attribute [local go_sem ↓] Go.wp_at_zero Go.wp_at_succ

theorem gcall {a W w1 : World} {row : Option Nat} (h : a.grownBy W row) (hb : Below W.heap.size W w1) : a.grownBy w1 row :=
  ⟨hb.os.trans h.os, hb.tape.trans h.tape, hb.output.trans h.output, Nat.le_trans h.size hb.size, fun k hk hne => (hb.block k (Nat.lt_of_lt_of_le hk h.size)).trans (h.block k hk hne)⟩
theorem gtrans {a W w1 : World} {g : Nat} (h : a.grownBy W (some g)) (h2 : W.grownBy w1 (some g)) : a.grownBy w1 (some g) :=
  ⟨h2.os.trans h.os, h2.tape.trans h.tape, h2.output.trans h.output, Nat.le_trans h.size h2.size, fun k hk hne => (h2.block k (Nat.lt_of_lt_of_le hk h.size) hne).trans (h.block k hk hne)⟩

section
variable (u : ByteArray) (l c o l2 c2 o2 : Int) (w : World)
theorem spHasPos_any : Calls Try.prog 81 #[.agg #[.string u, .int .i64 l, .int .i64 c, .int .i64 o, .int .i64 l2, .int .i64 c2, .int .i64 o2]] w fun e w' => e = .returned (.bool (decide (0 < l))) ∧ Below w.heap.size w w' := by
  go_enter Try.func81, Try.ntmps81
  go_wp2
  go_ret
  exact ⟨rfl, by go_grown⟩
theorem spHasOff_any : Calls Try.prog 83 #[.agg #[.string u, .int .i64 l, .int .i64 c, .int .i64 o, .int .i64 l2, .int .i64 c2, .int .i64 o2]] w fun e w' => e = .returned (.bool (decide (0 ≤ o))) ∧ Below w.heap.size w w' := by
  go_enter Try.func83, Try.ntmps83
  go_wp2
  go_ret
  exact ⟨rfl, by go_grown⟩
theorem ptHasPos_any : Calls Try.prog 76 #[.agg #[.int .i64 l, .int .i64 c, .int .i64 o]] w fun e w' => e = .returned (.bool (decide (0 < l))) ∧ Below w.heap.size w w' := by
  go_enter Try.func76, Try.ntmps76
  go_wp2
  go_ret
  exact ⟨rfl, by go_grown⟩
theorem ptHasOff_any : Calls Try.prog 77 #[.agg #[.int .i64 l, .int .i64 c, .int .i64 o]] w fun e w' => e = .returned (.bool (decide (0 ≤ o))) ∧ Below w.heap.size w w' := by
  go_enter Try.func77, Try.ntmps77
  go_wp2
  go_ret
  exact ⟨rfl, by go_grown⟩
end

set_option maxHeartbeats 4000000 in
/-- A span of two different offsets gets lines and columns. -/
theorem updB_two (wo : Bool) (u : ByteArray) (o o2 : Int) (g p n : Nat) (L : List Int) (w0 w : World) (hC : Conv w0 p n L) (hb0 : Below w0.heap.size w0 w) (hg : w0.heap.size ≤ g)
    (hB : Blk w g 62 #[.string u, .int .i64 0, .int .i64 0, .int .i64 o, .int .i64 0, .int .i64 0, .int .i64 o2]) (h0 : 0 ≤ o) (ho : o ≤ n) (h02 : 0 ≤ o2) (ho2 : o2 ≤ n) (hne : (o2 == o) = false)
    (hL : L.length ≤ 2147483647) (hn : n ≤ 2147483647) (hLb : ∀ x ∈ L, 0 ≤ x ∧ x ≤ 2147483647) (hp2 : 0 < posLine n L o2) :
    Calls Try.prog 73 #[.pointer (some ⟨g, 0, none⟩), .iface 71 (.pointer (some ⟨p, 0, none⟩)), .bool true, .bool wo] w
      (UpdRes w g #[.string u, .int .i64 (posLine n L o), .int .i64 (posCol n L o), .int .i64 o, .int .i64 (posLine n L o2), .int .i64 (posCol n L o2), .int .i64 o2]) := by
  have HX := hide (fun (W : World) (h : w.grownBy W (some g)) => hb0.trans (SX.below h hg hb0.size))
  have H1 := hide (fun (W : World) (h : w.grownBy W (some g)) (h2 : Blk W g 62 #[.string u, .int .i64 0, .int .i64 0, .int .i64 o, .int .i64 0, .int .i64 0, .int .i64 o2]) => updPos1 u 0 0 o 0 0 o2 g p n L w0 W hC (HX.out W h) h2 h0 ho hL hn hLb)
  have H4 := hide (fun (W : World) (h : w.grownBy W (some g)) (h2 : Blk W g 62 #[.string u, .int .i64 (posLine n L o), .int .i64 (posCol n L o), .int .i64 o, .int .i64 0, .int .i64 0, .int .i64 o2]) => updPos4 u _ _ o 0 0 o2 g p n L w0 W hC (HX.out W h) h2 h02 ho2 hL hn hLb)
  have z2 : decide ((0 : Int) ≤ o2) = true := by simpa using h02
  have ht : told 0 o = true := by unfold told; simp; omega
  have HV := hide (fun W => isValid_any u 0 0 o 0 0 o2 W)
  rw [ht] at HV
  have k7 := hB.seven
  have hG := World.grownBy.refl w (some g)
  have z0 : decide ((0 : Int) ≤ o) = true := by simpa using h0
  generalize posLine n L o = a at *
  generalize posCol n L o = b at *
  generalize posLine n L o2 = a2 at *
  generalize posCol n L o2 = b2 at *
  clear hC hLb ht
  cases wo
  all_goals
    go_enter Try.func73, Try.ntmps73
    go_wp2_with (first
      | (go_at_call 58; refine (HV.out _).mono ?_; rintro e w1 ⟨rfl, hb⟩; have kk := Blk.kept (g := g) (by assumption) hb; have hG := gcall (by assumption) hb; have k7 := kk.seven; clear hb)
      | (go_at_call 81; refine (spHasPos_any _ _ _ _ _ _ _ _).mono ?_; rintro e w1 ⟨rfl, hb⟩; have kk := Blk.kept (g := g) (by assumption) hb; have hG := gcall (by assumption) hb; have k7 := kk.seven; clear hb)
      | (go_at_call 82; refine (H1.out _ (by assumption) (by assumption)).mono ?_; rintro e w1 ⟨rfl, kk, hg1⟩; have hG := gtrans (by assumption) hg1; have k7 := kk.seven; clear hg1))
    have kkd := kk.drew
    have hGd := grown_drew hG
    go_region_held3 (fun w' => w'.cell? ⟨g, 6, none⟩ = some (.int .i64 o2) ∧ w'.cell? ⟨g, 3, none⟩ = some (.int .i64 o)) (go_keep) (fail)
    have kd7 := kkd.seven
    go_wp2_with (first
      | (go_at_call 82; refine (H4.out _ (by assumption) (by assumption)).mono ?_; rintro e w1 ⟨rfl, kk, hg1⟩; have hG := gtrans (by assumption) hg1; have k7 := kk.seven; clear hg1)
      | (go_at_call 83; refine (spHasOff_any _ _ _ _ _ _ _ _).mono ?_; rintro e w1 ⟨rfl, hb⟩; have kk := Blk.kept (g := g) (by assumption) hb; have hG := gcall (by assumption) hb; have k7 := kk.seven; clear hb)
      | (go_at_call 76; refine (ptHasPos_any _ _ _ _).mono ?_; rintro e w1 ⟨rfl, hb⟩; have kk := Blk.kept (g := g) (by assumption) hb; have hG := gcall (by assumption) hb; have k7 := kk.seven; clear hb)
      | (go_at_call 77; refine (ptHasOff_any _ _ _ _).mono ?_; rintro e w1 ⟨rfl, hb⟩; have kk := Blk.kept (g := g) (by assumption) hb; have hG := gcall (by assumption) hb; have k7 := kk.seven; clear hb))
    go_ret
    exact ⟨rfl, by assumption, by assumption⟩

set_option maxHeartbeats 4000000 in
/-- A span of one offset gets its line and column. -/
theorem updB_one (wo : Bool) (u : ByteArray) (o : Int) (g p n : Nat) (L : List Int) (w0 w : World) (hC : Conv w0 p n L) (hb0 : Below w0.heap.size w0 w) (hg : w0.heap.size ≤ g)
    (hB : Blk w g 62 #[.string u, .int .i64 0, .int .i64 0, .int .i64 o, .int .i64 0, .int .i64 0, .int .i64 o]) (h0 : 0 ≤ o) (ho : o ≤ n) 
    (hL : L.length ≤ 2147483647) (hn : n ≤ 2147483647) (hLb : ∀ x ∈ L, 0 ≤ x ∧ x ≤ 2147483647) (hp2 : 0 < posLine n L o) :
    Calls Try.prog 73 #[.pointer (some ⟨g, 0, none⟩), .iface 71 (.pointer (some ⟨p, 0, none⟩)), .bool true, .bool wo] w
      (UpdRes w g #[.string u, .int .i64 (posLine n L o), .int .i64 (posCol n L o), .int .i64 o, .int .i64 (posLine n L o), .int .i64 (posCol n L o), .int .i64 o]) := by
  have HX := hide (fun (W : World) (h : w.grownBy W (some g)) => hb0.trans (SX.below h hg hb0.size))
  have H1 := hide (fun (W : World) (h : w.grownBy W (some g)) (h2 : Blk W g 62 #[.string u, .int .i64 0, .int .i64 0, .int .i64 o, .int .i64 0, .int .i64 0, .int .i64 o]) => updPos1 u 0 0 o 0 0 o g p n L w0 W hC (HX.out W h) h2 h0 ho hL hn hLb)
  have ht : told 0 o = true := by unfold told; simp; omega
  have HV := hide (fun W => isValid_any u 0 0 o 0 0 o W)
  rw [ht] at HV
  have k7 := hB.seven
  have hG := World.grownBy.refl w (some g)
  have z0 : decide ((0 : Int) ≤ o) = true := by simpa using h0
  generalize posLine n L o = a at *
  generalize posCol n L o = b at *
  clear hC hLb ht
  cases wo
  all_goals
    go_enter Try.func73, Try.ntmps73
    go_wp2_with (first
      | (go_at_call 58; refine (HV.out _).mono ?_; rintro e w1 ⟨rfl, hb⟩; have kk := Blk.kept (g := g) (by assumption) hb; have hG := gcall (by assumption) hb; have k7 := kk.seven; clear hb)
      | (go_at_call 81; refine (spHasPos_any _ _ _ _ _ _ _ _).mono ?_; rintro e w1 ⟨rfl, hb⟩; have kk := Blk.kept (g := g) (by assumption) hb; have hG := gcall (by assumption) hb; have k7 := kk.seven; clear hb)
      | (go_at_call 82; refine (H1.out _ (by assumption) (by assumption)).mono ?_; rintro e w1 ⟨rfl, kk, hg1⟩; have hG := gtrans (by assumption) hg1; have k7 := kk.seven; clear hg1))
    have kkd := kk.drew
    have hGd := grown_drew hG
    go_region_held3 (fun w' => w'.cell? ⟨g, 6, none⟩ = some (.int .i64 o) ∧ w'.cell? ⟨g, 3, none⟩ = some (.int .i64 o)) (go_keep) (fail)
    have kd7 := kkd.seven
    have kk2 : Blk (((w1.drew.setCell ⟨g, 4, none⟩ (.int .i64 a)).setCell ⟨g, 5, none⟩ (.int .i64 b)).setCell ⟨g, 6, none⟩ (.int .i64 o)) g 62 #[.string u, .int .i64 a, .int .i64 b, .int .i64 o, .int .i64 a, .int .i64 b, .int .i64 o] := ((kkd.set_ 4 (.int .i64 a)).set_ 5 (.int .i64 b)).set_ 6 (.int .i64 o)
    have hG2 : w.grownBy (((w1.drew.setCell ⟨g, 4, none⟩ (.int .i64 a)).setCell ⟨g, 5, none⟩ (.int .i64 b)).setCell ⟨g, 6, none⟩ (.int .i64 o)) (some g) := (SX.set (p := ⟨g, 6, none⟩) (SX.set (p := ⟨g, 5, none⟩) (SX.set (p := ⟨g, 4, none⟩) (SX.of (g := g) hGd) rfl _) rfl _) rfl _).2.2
    have k72 := kk2.seven
    go_wp2_with (first
      | (go_at_call 83; refine (spHasOff_any _ _ _ _ _ _ _ _).mono ?_; rintro e w1 ⟨rfl, hb⟩; have kk := Blk.kept (g := g) (by assumption) hb; have hG := gcall (by assumption) hb; have k7 := kk.seven; clear hb)
      | (go_at_call 76; refine (ptHasPos_any _ _ _ _).mono ?_; rintro e w1 ⟨rfl, hb⟩; have kk := Blk.kept (g := g) (by assumption) hb; have hG := gcall (by assumption) hb; have k7 := kk.seven; clear hb)
      | (go_at_call 77; refine (ptHasOff_any _ _ _ _).mono ?_; rintro e w1 ⟨rfl, hb⟩; have kk := Blk.kept (g := g) (by assumption) hb; have hG := gcall (by assumption) hb; have k7 := kk.seven; clear hb))
    go_ret
    exact ⟨rfl, by assumption, by assumption⟩

end Go.Proofs.Ytbbdhlnldkkdbaa
