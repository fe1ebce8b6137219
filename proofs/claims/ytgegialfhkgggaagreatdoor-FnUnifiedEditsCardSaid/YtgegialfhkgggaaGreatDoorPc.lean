/- Walks: a span gets its lines, columns and offsets. No condition but sizes. -/
import Derived.Test.YtgegialfhkgggaaGreatDoorPb
import Derived.Test.YtgegialfhkgggaaGreatDoorPa
import Derived.Deep.QuietTactic
import Derived.BigQuiet
set_option linter.unusedVariables false
set_option linter.unusedSimpArgs false
namespace Go.Proofs.YtgegialfhkgggaaGreatDoor
open Go.RowKit
attribute [local go_sem ↓] Go.wp_at_zero Go.wp_at_succ

theorem nil_pos (a : Addr) (w : World) : (nilAhead 298 101 (.pointer (some a)) "ToPosition").run Tryz.prog w = .ok (some false) w := by kernel_rfl
theorem met_pos (a : Addr) (w : World) : (method 298 101 (.pointer (some a)) "ToPosition").run Tryz.prog w = .ok (143, .pointer (some a)) w := by kernel_rfl
theorem nil_off (a : Addr) (w : World) : (nilAhead 298 101 (.pointer (some a)) "ToOffset").run Tryz.prog w = .ok (some false) w := by kernel_rfl
theorem met_off (a : Addr) (w : World) : (method 298 101 (.pointer (some a)) "ToOffset").run Tryz.prog w = .ok (142, .pointer (some a)) w := by kernel_rfl

/-- A span's block was changed, and nothing else that was there. -/
def UpdRes (w : World) (g : Nat) (cs : Array Value) (e : Ending) (w' : World) : Prop := e = .returned .nilIface ∧ Blk w' g 87 cs ∧ w.grownBy w' (some g)

theorem grown_of_below {a w : World} (h : Below a.heap.size a w) (row : Option Nat) : a.grownBy w row := ⟨h.os, h.tape, h.output, h.size, fun i hi _ => h.block i hi⟩

set_option maxHeartbeats 1000000 in
theorem updPos1 (u : ByteArray) (l c o l2 c2 o2 : Int) (g p n : Nat) (L : List Int) (w0 w : World) (hC : Conv w0 p n L) (hb0 : Below w0.heap.size w0 w)
    (hB : Blk w g 87 #[.string u, .int .i64 l, .int .i64 c, .int .i64 o, .int .i64 l2, .int .i64 c2, .int .i64 o2]) (h0 : 0 ≤ o) (ho : o ≤ n) (hL : L.length ≤ 2147483647) (hn : n ≤ 2147483647) (hLb : ∀ x ∈ L, 0 ≤ x ∧ x ≤ 2147483647) :
    Calls Tryz.prog 103 #[.pointer (some ⟨g, 1, none⟩), .iface 101 (.pointer (some ⟨p, 0, none⟩))] w
      (UpdRes w g #[.string u, .int .i64 (posLine n L o), .int .i64 (posCol n L o), .int .i64 o, .int .i64 l2, .int .i64 c2, .int .i64 o2]) := by
  have HT := hide (fun W (h : Conv W p n L) => toPosition_in p n L o W h h0 ho hL hn hLb)
  have HC := hide hC
  clear hC hLb
  have f := hB.seven
  have lt := hB.lt
  have hBd := hB.drew
  generalize posLine n L o = a at *
  generalize posCol n L o = b at *
  have nl := fun W => nil_pos ⟨p, 0, none⟩ W
  have mt := fun W => met_pos ⟨p, 0, none⟩ W
  go_enter Tryz.func103, Tryz.ntmps103
  go_wp2_with fail
  go_region_held3 (fun w' => (∀ b o, b < w.heap.size → w'.cell? ⟨b, o, none⟩ = w.cell? ⟨b, o, none⟩) ∧ w.heap.size ≤ w'.heap.size ∧ Below (w.heap.size) w w')
    (first
      | (with_reducible exact SB.start (by omega))
      | (go_split_ands; (with_reducible refine SB.call ?_ hb); exact ⟨by assumption, by assumption, by assumption⟩))
    (first
      | (go_at_call 143; go_split_ands; refine (HT.out _ (HC.out.kept (hb0.trans (Below.mono (B := w.heap.size) (by assumption) hb0.size)))).mono ?_; rintro e w1 ⟨rfl, hb⟩; have kk := Blk.kept (g := g) (by assumption) hb; have k7 := kk.seven))
  clear nl mt
  go_split_ands
  have hbw : Below w.heap.size w w1 := by assumption
  clear hb hB hBd
  go_wp2
  go_ret
  exact ⟨rfl, (kk.set_ 1 (.int .i64 a)).set_ 2 (.int .i64 b), (SX.set (p := ⟨g, 2, none⟩) (SX.set (p := ⟨g, 1, none⟩) (SX.of (g := g) (grown_of_below hbw _)) rfl _) rfl _).2.2⟩

set_option maxHeartbeats 1000000 in
theorem updPos4 (u : ByteArray) (l c o l2 c2 o2 : Int) (g p n : Nat) (L : List Int) (w0 w : World) (hC : Conv w0 p n L) (hb0 : Below w0.heap.size w0 w)
    (hB : Blk w g 87 #[.string u, .int .i64 l, .int .i64 c, .int .i64 o, .int .i64 l2, .int .i64 c2, .int .i64 o2]) (h0 : 0 ≤ o2) (ho : o2 ≤ n) (hL : L.length ≤ 2147483647) (hn : n ≤ 2147483647) (hLb : ∀ x ∈ L, 0 ≤ x ∧ x ≤ 2147483647) :
    Calls Tryz.prog 103 #[.pointer (some ⟨g, 4, none⟩), .iface 101 (.pointer (some ⟨p, 0, none⟩))] w
      (UpdRes w g #[.string u, .int .i64 l, .int .i64 c, .int .i64 o, .int .i64 (posLine n L o2), .int .i64 (posCol n L o2), .int .i64 o2]) := by
  have HT := hide (fun W (h : Conv W p n L) => toPosition_in p n L o2 W h h0 ho hL hn hLb)
  have HC := hide hC
  clear hC hLb
  have f := hB.seven
  have lt := hB.lt
  have hBd := hB.drew
  generalize posLine n L o2 = a at *
  generalize posCol n L o2 = b at *
  have nl := fun W => nil_pos ⟨p, 0, none⟩ W
  have mt := fun W => met_pos ⟨p, 0, none⟩ W
  go_enter Tryz.func103, Tryz.ntmps103
  go_wp2_with fail
  go_region_held3 (fun w' => (∀ b o, b < w.heap.size → w'.cell? ⟨b, o, none⟩ = w.cell? ⟨b, o, none⟩) ∧ w.heap.size ≤ w'.heap.size ∧ Below (w.heap.size) w w')
    (first
      | (with_reducible exact SB.start (by omega))
      | (go_split_ands; (with_reducible refine SB.call ?_ hb); exact ⟨by assumption, by assumption, by assumption⟩))
    (first
      | (go_at_call 143; go_split_ands; refine (HT.out _ (HC.out.kept (hb0.trans (Below.mono (B := w.heap.size) (by assumption) hb0.size)))).mono ?_; rintro e w1 ⟨rfl, hb⟩; have kk := Blk.kept (g := g) (by assumption) hb; have k7 := kk.seven))
  clear nl mt
  go_split_ands
  have hbw : Below w.heap.size w w1 := by assumption
  clear hb hB hBd
  go_wp2
  go_ret
  exact ⟨rfl, (kk.set_ 4 (.int .i64 a)).set_ 5 (.int .i64 b), (SX.set (p := ⟨g, 5, none⟩) (SX.set (p := ⟨g, 4, none⟩) (SX.of (g := g) (grown_of_below hbw _)) rfl _) rfl _).2.2⟩

set_option maxHeartbeats 1000000 in
theorem updOff1 (u : ByteArray) (l c o l2 c2 o2 r : Int) (g p n : Nat) (L : List Int) (w0 w : World) (hC : Conv w0 p n L) (hb0 : Below w0.heap.size w0 w)
    (hB : Blk w g 87 #[.string u, .int .i64 l, .int .i64 c, .int .i64 o, .int .i64 l2, .int .i64 c2, .int .i64 o2])
    (hT : ∀ W, Conv W p n L → Calls Tryz.prog 142 #[.pointer (some ⟨p, 0, none⟩), .int .i64 l, .int .i64 c] W (OffRes W r)) :
    Calls Tryz.prog 105 #[.pointer (some ⟨g, 1, none⟩), .iface 101 (.pointer (some ⟨p, 0, none⟩))] w
      (UpdRes w g #[.string u, .int .i64 l, .int .i64 c, .int .i64 r, .int .i64 l2, .int .i64 c2, .int .i64 o2]) := by
  have HT := hide hT
  have HC := hide hC
  clear hC hT
  have f := hB.seven
  have lt := hB.lt
  have hBd := hB.drew
  have nl := fun W => nil_off ⟨p, 0, none⟩ W
  have mt := fun W => met_off ⟨p, 0, none⟩ W
  go_enter Tryz.func105, Tryz.ntmps105
  go_wp2_with fail
  go_region_held3 (fun w' => (∀ b o, b < w.heap.size → w'.cell? ⟨b, o, none⟩ = w.cell? ⟨b, o, none⟩) ∧ w.heap.size ≤ w'.heap.size ∧ Below (w.heap.size) w w')
    (first
      | (with_reducible exact SB.start (by omega))
      | (go_split_ands; (with_reducible refine SB.call ?_ hb); exact ⟨by assumption, by assumption, by assumption⟩))
    (first
      | (go_at_call 142; go_split_ands; refine (HT.out _ (HC.out.kept (hb0.trans (Below.mono (B := w.heap.size) (by assumption) hb0.size)))).mono ?_; rintro e w1 ⟨rfl, hb⟩; have kk := Blk.kept (g := g) (by assumption) hb; have k7 := kk.seven))
  clear nl mt
  go_split_ands
  have hbw : Below w.heap.size w w1 := by assumption
  clear hb hB hBd
  go_wp2
  go_ret
  exact ⟨rfl, kk.set_ 3 (.int .i64 r), (SX.set (p := ⟨g, 3, none⟩) (SX.of (g := g) (grown_of_below hbw _)) rfl _).2.2⟩

set_option maxHeartbeats 1000000 in
theorem updOff4 (u : ByteArray) (l c o l2 c2 o2 r : Int) (g p n : Nat) (L : List Int) (w0 w : World) (hC : Conv w0 p n L) (hb0 : Below w0.heap.size w0 w)
    (hB : Blk w g 87 #[.string u, .int .i64 l, .int .i64 c, .int .i64 o, .int .i64 l2, .int .i64 c2, .int .i64 o2])
    (hT : ∀ W, Conv W p n L → Calls Tryz.prog 142 #[.pointer (some ⟨p, 0, none⟩), .int .i64 l2, .int .i64 c2] W (OffRes W r)) :
    Calls Tryz.prog 105 #[.pointer (some ⟨g, 4, none⟩), .iface 101 (.pointer (some ⟨p, 0, none⟩))] w
      (UpdRes w g #[.string u, .int .i64 l, .int .i64 c, .int .i64 o, .int .i64 l2, .int .i64 c2, .int .i64 r]) := by
  have HT := hide hT
  have HC := hide hC
  clear hC hT
  have f := hB.seven
  have lt := hB.lt
  have hBd := hB.drew
  have nl := fun W => nil_off ⟨p, 0, none⟩ W
  have mt := fun W => met_off ⟨p, 0, none⟩ W
  go_enter Tryz.func105, Tryz.ntmps105
  go_wp2_with fail
  go_region_held3 (fun w' => (∀ b o, b < w.heap.size → w'.cell? ⟨b, o, none⟩ = w.cell? ⟨b, o, none⟩) ∧ w.heap.size ≤ w'.heap.size ∧ Below (w.heap.size) w w')
    (first
      | (with_reducible exact SB.start (by omega))
      | (go_split_ands; (with_reducible refine SB.call ?_ hb); exact ⟨by assumption, by assumption, by assumption⟩))
    (first
      | (go_at_call 142; go_split_ands; refine (HT.out _ (HC.out.kept (hb0.trans (Below.mono (B := w.heap.size) (by assumption) hb0.size)))).mono ?_; rintro e w1 ⟨rfl, hb⟩; have kk := Blk.kept (g := g) (by assumption) hb; have k7 := kk.seven))
  clear nl mt
  go_split_ands
  have hbw : Below w.heap.size w w1 := by assumption
  clear hb hB hBd
  go_wp2
  go_ret
  exact ⟨rfl, kk.set_ 6 (.int .i64 r), (SX.set (p := ⟨g, 6, none⟩) (SX.of (g := g) (grown_of_below hbw _)) rfl _).2.2⟩

end Go.Proofs.YtgegialfhkgggaaGreatDoor
namespace Go.Proofs.YtgegialfhkgggaaGreatDoor
open Go.RowKit
attribute [local go_sem ↓] Go.wp_at_zero Go.wp_at_succ

theorem gcall {a W w1 : World} {row : Option Nat} (h : a.grownBy W row) (hb : Below W.heap.size W w1) : a.grownBy w1 row :=
  ⟨hb.os.trans h.os, hb.tape.trans h.tape, hb.output.trans h.output, Nat.le_trans h.size hb.size, fun k hk hne => (hb.block k (Nat.lt_of_lt_of_le hk h.size)).trans (h.block k hk hne)⟩
theorem gtrans {a W w1 : World} {g : Nat} (h : a.grownBy W (some g)) (h2 : W.grownBy w1 (some g)) : a.grownBy w1 (some g) :=
  ⟨h2.os.trans h.os, h2.tape.trans h.tape, h2.output.trans h.output, Nat.le_trans h.size h2.size, fun k hk hne => (h2.block k (Nat.lt_of_lt_of_le hk h.size) hne).trans (h.block k hk hne)⟩

section
variable (u : ByteArray) (l c o l2 c2 o2 : Int) (w : World)
theorem spHasPos_any : Calls Tryz.prog 102 #[.agg #[.string u, .int .i64 l, .int .i64 c, .int .i64 o, .int .i64 l2, .int .i64 c2, .int .i64 o2]] w fun e w' => e = .returned (.bool (decide (0 < l))) ∧ Below w.heap.size w w' := by
  go_enter Tryz.func102, Tryz.ntmps102
  go_wp2
  go_ret
  exact ⟨rfl, by go_grown⟩
theorem spHasOff_any : Calls Tryz.prog 104 #[.agg #[.string u, .int .i64 l, .int .i64 c, .int .i64 o, .int .i64 l2, .int .i64 c2, .int .i64 o2]] w fun e w' => e = .returned (.bool (decide (0 ≤ o))) ∧ Below w.heap.size w w' := by
  go_enter Tryz.func104, Tryz.ntmps104
  go_wp2
  go_ret
  exact ⟨rfl, by go_grown⟩
theorem ptHasPos_any : Calls Tryz.prog 82 #[.agg #[.int .i64 l, .int .i64 c, .int .i64 o]] w fun e w' => e = .returned (.bool (decide (0 < l))) ∧ Below w.heap.size w w' := by
  go_enter Tryz.func82, Tryz.ntmps82
  go_wp2
  go_ret
  exact ⟨rfl, by go_grown⟩
theorem ptHasOff_any : Calls Tryz.prog 75 #[.agg #[.int .i64 l, .int .i64 c, .int .i64 o]] w fun e w' => e = .returned (.bool (decide (0 ≤ o))) ∧ Below w.heap.size w w' := by
  go_enter Tryz.func75, Tryz.ntmps75
  go_wp2
  go_ret
  exact ⟨rfl, by go_grown⟩
end

set_option maxHeartbeats 4000000 in
/-- A span of two different offsets gets lines and columns. -/
theorem updB_two (wo : Bool) (u : ByteArray) (o o2 : Int) (g p n : Nat) (L : List Int) (w0 w : World) (hC : Conv w0 p n L) (hb0 : Below w0.heap.size w0 w) (hg : w0.heap.size ≤ g)
    (hB : Blk w g 87 #[.string u, .int .i64 0, .int .i64 0, .int .i64 o, .int .i64 0, .int .i64 0, .int .i64 o2]) (h0 : 0 ≤ o) (ho : o ≤ n) (h02 : 0 ≤ o2) (ho2 : o2 ≤ n) (hne : (o2 == o) = false)
    (hL : L.length ≤ 2147483647) (hn : n ≤ 2147483647) (hLb : ∀ x ∈ L, 0 ≤ x ∧ x ≤ 2147483647) (hp2 : 0 < posLine n L o2) :
    Calls Tryz.prog 92 #[.pointer (some ⟨g, 0, none⟩), .iface 101 (.pointer (some ⟨p, 0, none⟩)), .bool true, .bool wo] w
      (UpdRes w g #[.string u, .int .i64 (posLine n L o), .int .i64 (posCol n L o), .int .i64 o, .int .i64 (posLine n L o2), .int .i64 (posCol n L o2), .int .i64 o2]) := by
  have HX := hide (fun (W : World) (h : w.grownBy W (some g)) => hb0.trans (SX.below h hg hb0.size))
  have H1 := hide (fun (W : World) (h : w.grownBy W (some g)) (h2 : Blk W g 87 #[.string u, .int .i64 0, .int .i64 0, .int .i64 o, .int .i64 0, .int .i64 0, .int .i64 o2]) => updPos1 u 0 0 o 0 0 o2 g p n L w0 W hC (HX.out W h) h2 h0 ho hL hn hLb)
  have H4 := hide (fun (W : World) (h : w.grownBy W (some g)) (h2 : Blk W g 87 #[.string u, .int .i64 (posLine n L o), .int .i64 (posCol n L o), .int .i64 o, .int .i64 0, .int .i64 0, .int .i64 o2]) => updPos4 u _ _ o 0 0 o2 g p n L w0 W hC (HX.out W h) h2 h02 ho2 hL hn hLb)
  have z2 : decide ((0 : Int) ≤ o2) = true := by simpa using h02
  have ht : told 0 o = true := by unfold told; simp; omega
  have HV := hide (fun W => isValid_any u 0 0 o 0 0 o2 W)
  rw [ht] at HV
  have k7 := hB.seven
  have hG := World.grownBy.refl w (some g)
  have z0 : decide ((0 : Int) ≤ o) = true := by simpa using h0
  generalize posLine n L o = a at *
  generalize posCol n L o = b at *
  generalize posLine n L o2 = a2 at *
  generalize posCol n L o2 = b2 at *
  clear hC hLb ht
  cases wo
  all_goals
    go_enter Tryz.func92, Tryz.ntmps92
    go_wp2_with (first
      | (go_at_call 79; refine (HV.out _).mono ?_; rintro e w1 ⟨rfl, hb⟩; have kk := Blk.kept (g := g) (by assumption) hb; have hG := gcall (by assumption) hb; have k7 := kk.seven; clear hb)
      | (go_at_call 102; refine (spHasPos_any _ _ _ _ _ _ _ _).mono ?_; rintro e w1 ⟨rfl, hb⟩; have kk := Blk.kept (g := g) (by assumption) hb; have hG := gcall (by assumption) hb; have k7 := kk.seven; clear hb)
      | (go_at_call 103; refine (H1.out _ (by assumption) (by assumption)).mono ?_; rintro e w1 ⟨rfl, kk, hg1⟩; have hG := gtrans (by assumption) hg1; have k7 := kk.seven; clear hg1))
    have kkd := kk.drew
    have hGd := grown_drew hG
    go_region_held3 (fun w' => w'.cell? ⟨g, 6, none⟩ = some (.int .i64 o2) ∧ w'.cell? ⟨g, 3, none⟩ = some (.int .i64 o)) (go_keep) (fail)
    have kd7 := kkd.seven
    go_wp2_with (first
      | (go_at_call 103; refine (H4.out _ (by assumption) (by assumption)).mono ?_; rintro e w1 ⟨rfl, kk, hg1⟩; have hG := gtrans (by assumption) hg1; have k7 := kk.seven; clear hg1)
      | (go_at_call 104; refine (spHasOff_any _ _ _ _ _ _ _ _).mono ?_; rintro e w1 ⟨rfl, hb⟩; have kk := Blk.kept (g := g) (by assumption) hb; have hG := gcall (by assumption) hb; have k7 := kk.seven; clear hb)
      | (go_at_call 82; refine (ptHasPos_any _ _ _ _).mono ?_; rintro e w1 ⟨rfl, hb⟩; have kk := Blk.kept (g := g) (by assumption) hb; have hG := gcall (by assumption) hb; have k7 := kk.seven; clear hb)
      | (go_at_call 75; refine (ptHasOff_any _ _ _ _).mono ?_; rintro e w1 ⟨rfl, hb⟩; have kk := Blk.kept (g := g) (by assumption) hb; have hG := gcall (by assumption) hb; have k7 := kk.seven; clear hb))
    go_ret
    exact ⟨rfl, by assumption, by assumption⟩

set_option maxHeartbeats 4000000 in
/-- A span of one offset gets its line and column. -/
theorem updB_one (wo : Bool) (u : ByteArray) (o : Int) (g p n : Nat) (L : List Int) (w0 w : World) (hC : Conv w0 p n L) (hb0 : Below w0.heap.size w0 w) (hg : w0.heap.size ≤ g)
    (hB : Blk w g 87 #[.string u, .int .i64 0, .int .i64 0, .int .i64 o, .int .i64 0, .int .i64 0, .int .i64 o]) (h0 : 0 ≤ o) (ho : o ≤ n) 
    (hL : L.length ≤ 2147483647) (hn : n ≤ 2147483647) (hLb : ∀ x ∈ L, 0 ≤ x ∧ x ≤ 2147483647) (hp2 : 0 < posLine n L o) :
    Calls Tryz.prog 92 #[.pointer (some ⟨g, 0, none⟩), .iface 101 (.pointer (some ⟨p, 0, none⟩)), .bool true, .bool wo] w
      (UpdRes w g #[.string u, .int .i64 (posLine n L o), .int .i64 (posCol n L o), .int .i64 o, .int .i64 (posLine n L o), .int .i64 (posCol n L o), .int .i64 o]) := by
  have HX := hide (fun (W : World) (h : w.grownBy W (some g)) => hb0.trans (SX.below h hg hb0.size))
  have H1 := hide (fun (W : World) (h : w.grownBy W (some g)) (h2 : Blk W g 87 #[.string u, .int .i64 0, .int .i64 0, .int .i64 o, .int .i64 0, .int .i64 0, .int .i64 o]) => updPos1 u 0 0 o 0 0 o g p n L w0 W hC (HX.out W h) h2 h0 ho hL hn hLb)
  have ht : told 0 o = true := by unfold told; simp; omega
  have HV := hide (fun W => isValid_any u 0 0 o 0 0 o W)
  rw [ht] at HV
  have k7 := hB.seven
  have hG := World.grownBy.refl w (some g)
  have z0 : decide ((0 : Int) ≤ o) = true := by simpa using h0
  generalize posLine n L o = a at *
  generalize posCol n L o = b at *
  clear hC hLb ht
  cases wo
  all_goals
    go_enter Tryz.func92, Tryz.ntmps92
    go_wp2_with (first
      | (go_at_call 79; refine (HV.out _).mono ?_; rintro e w1 ⟨rfl, hb⟩; have kk := Blk.kept (g := g) (by assumption) hb; have hG := gcall (by assumption) hb; have k7 := kk.seven; clear hb)
      | (go_at_call 102; refine (spHasPos_any _ _ _ _ _ _ _ _).mono ?_; rintro e w1 ⟨rfl, hb⟩; have kk := Blk.kept (g := g) (by assumption) hb; have hG := gcall (by assumption) hb; have k7 := kk.seven; clear hb)
      | (go_at_call 103; refine (H1.out _ (by assumption) (by assumption)).mono ?_; rintro e w1 ⟨rfl, kk, hg1⟩; have hG := gtrans (by assumption) hg1; have k7 := kk.seven; clear hg1))
    have kkd := kk.drew
    have hGd := grown_drew hG
    go_region_held3 (fun w' => w'.cell? ⟨g, 6, none⟩ = some (.int .i64 o) ∧ w'.cell? ⟨g, 3, none⟩ = some (.int .i64 o)) (go_keep) (fail)
    have kd7 := kkd.seven
    have kk2 : Blk (((w1.drew.setCell ⟨g, 4, none⟩ (.int .i64 a)).setCell ⟨g, 5, none⟩ (.int .i64 b)).setCell ⟨g, 6, none⟩ (.int .i64 o)) g 87 #[.string u, .int .i64 a, .int .i64 b, .int .i64 o, .int .i64 a, .int .i64 b, .int .i64 o] := ((kkd.set_ 4 (.int .i64 a)).set_ 5 (.int .i64 b)).set_ 6 (.int .i64 o)
    have hG2 : w.grownBy (((w1.drew.setCell ⟨g, 4, none⟩ (.int .i64 a)).setCell ⟨g, 5, none⟩ (.int .i64 b)).setCell ⟨g, 6, none⟩ (.int .i64 o)) (some g) := (SX.set (p := ⟨g, 6, none⟩) (SX.set (p := ⟨g, 5, none⟩) (SX.set (p := ⟨g, 4, none⟩) (SX.of (g := g) hGd) rfl _) rfl _) rfl _).2.2
    have k72 := kk2.seven
    go_wp2_with (first
      | (go_at_call 104; refine (spHasOff_any _ _ _ _ _ _ _ _).mono ?_; rintro e w1 ⟨rfl, hb⟩; have kk := Blk.kept (g := g) (by assumption) hb; have hG := gcall (by assumption) hb; have k7 := kk.seven; clear hb)
      | (go_at_call 82; refine (ptHasPos_any _ _ _ _).mono ?_; rintro e w1 ⟨rfl, hb⟩; have kk := Blk.kept (g := g) (by assumption) hb; have hG := gcall (by assumption) hb; have k7 := kk.seven; clear hb)
      | (go_at_call 75; refine (ptHasOff_any _ _ _ _).mono ?_; rintro e w1 ⟨rfl, hb⟩; have kk := Blk.kept (g := g) (by assumption) hb; have hG := gcall (by assumption) hb; have k7 := kk.seven; clear hb))
    go_ret
    exact ⟨rfl, by assumption, by assumption⟩

end Go.Proofs.YtgegialfhkgggaaGreatDoor
namespace Go.Proofs.YtgegialfhkgggaaGreatDoor
open Go.RowKit
attribute [local go_sem ↓] Go.wp_at_zero Go.wp_at_succ

theorem told_l {l o : Int} (h : 0 < l) : told l o = true := by unfold told; simp; omega

set_option maxHeartbeats 4000000 in
theorem updA_one (wp : Bool) (u : ByteArray) (l c o l2 c2 o2 r : Int) (g p n : Nat) (L : List Int) (w0 w : World) (hC : Conv w0 p n L) (hb0 : Below w0.heap.size w0 w) (hg : w0.heap.size ≤ g)
    (hB : Blk w g 87 #[.string u, .int .i64 l, .int .i64 c, .int .i64 o, .int .i64 l2, .int .i64 c2, .int .i64 o2]) (p1 : 0 < l) (p2 : 0 < l2) (hd : decide ((0 : Int) ≤ o) = false ∨ (decide ((0 : Int) ≤ o) = true ∧ decide ((0 : Int) ≤ o2) = false)) (q1 : (l2 == l) = true) (q2 : (c2 == c) = true)
    (hT1 : ∀ W, Conv W p n L → Calls Tryz.prog 142 #[.pointer (some ⟨p, 0, none⟩), .int .i64 l, .int .i64 c] W (OffRes W r))
    : Calls Tryz.prog 92 #[.pointer (some ⟨g, 0, none⟩), .iface 101 (.pointer (some ⟨p, 0, none⟩)), .bool wp, .bool true] w
      (UpdRes w g #[.string u, .int .i64 l, .int .i64 c, .int .i64 r, .int .i64 l2, .int .i64 c2, .int .i64 r]) := by
  have HX := hide (fun (W : World) (h : w.grownBy W (some g)) => hb0.trans (SX.below h hg hb0.size))
  have H1 := hide (fun (W : World) (h : w.grownBy W (some g)) (h2 : Blk W g 87 #[.string u, .int .i64 l, .int .i64 c, .int .i64 o, .int .i64 l2, .int .i64 c2, .int .i64 o2]) => updOff1 u l c o l2 c2 o2 r g p n L w0 W hC (HX.out W h) h2 hT1)
  have HV := hide (fun W => isValid_any u l c o l2 c2 o2 W)
  rw [told_l p1] at HV
  have k7 := hB.seven
  have hG := World.grownBy.refl w (some g)
  have z1 : decide (0 < l) = true := by simpa using p1
  have z2 : decide (0 < l2) = true := by simpa using p2
  clear hC hT1
  cases wp <;> rcases hd with d1 | ⟨d1, d2⟩
  all_goals
    go_enter Tryz.func92, Tryz.ntmps92
    go_wp2_with (first
      | (go_at_call 79; refine (HV.out _).mono ?_; rintro e w1 ⟨rfl, hb⟩; have kk := Blk.kept (g := g) (by assumption) hb; have hG := gcall (by assumption) hb; have k7 := kk.seven; clear hb)
      | (go_at_call 102; refine (spHasPos_any _ _ _ _ _ _ _ _).mono ?_; rintro e w1 ⟨rfl, hb⟩; have kk := Blk.kept (g := g) (by assumption) hb; have hG := gcall (by assumption) hb; have k7 := kk.seven; clear hb)
      | (go_at_call 104; refine (spHasOff_any _ _ _ _ _ _ _ _).mono ?_; rintro e w1 ⟨rfl, hb⟩; have kk := Blk.kept (g := g) (by assumption) hb; have hG := gcall (by assumption) hb; have k7 := kk.seven; clear hb)
      | (go_at_call 82; refine (ptHasPos_any _ _ _ _).mono ?_; rintro e w1 ⟨rfl, hb⟩; have kk := Blk.kept (g := g) (by assumption) hb; have hG := gcall (by assumption) hb; have k7 := kk.seven; clear hb)
      | (go_at_call 75; refine (ptHasOff_any _ _ _ _).mono ?_; rintro e w1 ⟨rfl, hb⟩; have kk := Blk.kept (g := g) (by assumption) hb; have hG := gcall (by assumption) hb; have k7 := kk.seven; clear hb)
      | (go_at_call 105; refine (H1.out _ (by assumption) (by assumption)).mono ?_; rintro e w1 ⟨rfl, kk, hg1⟩; have hG := gtrans (by assumption) hg1; have k7 := kk.seven; clear hg1))
    have kkd := kk.drew
    have hGd := grown_drew hG
    go_region_held3 (fun w' => w'.cell? ⟨g, 4, none⟩ = some (.int .i64 l2) ∧ w'.cell? ⟨g, 1, none⟩ = some (.int .i64 l) ∧ w'.cell? ⟨g, 5, none⟩ = some (.int .i64 c2) ∧ w'.cell? ⟨g, 2, none⟩ = some (.int .i64 c)) (go_keep) (fail)
    have kd7 := kkd.seven
    go_wp2
    go_ret
    exact ⟨rfl, kkd.set_ 6 (.int .i64 r), (SX.set (p := ⟨g, 6, none⟩) (SX.of (g := g) hGd) rfl _).2.2⟩

set_option maxHeartbeats 4000000 in
theorem updA_twoC (wp : Bool) (u : ByteArray) (l c o l2 c2 o2 r r2 : Int) (g p n : Nat) (L : List Int) (w0 w : World) (hC : Conv w0 p n L) (hb0 : Below w0.heap.size w0 w) (hg : w0.heap.size ≤ g)
    (hB : Blk w g 87 #[.string u, .int .i64 l, .int .i64 c, .int .i64 o, .int .i64 l2, .int .i64 c2, .int .i64 o2]) (p1 : 0 < l) (p2 : 0 < l2) (hd : decide ((0 : Int) ≤ o) = false ∨ (decide ((0 : Int) ≤ o) = true ∧ decide ((0 : Int) ≤ o2) = false)) (q1 : (l2 == l) = true) (q2 : (c2 == c) = false)
    (hT1 : ∀ W, Conv W p n L → Calls Tryz.prog 142 #[.pointer (some ⟨p, 0, none⟩), .int .i64 l, .int .i64 c] W (OffRes W r))
    (hT2 : ∀ W, Conv W p n L → Calls Tryz.prog 142 #[.pointer (some ⟨p, 0, none⟩), .int .i64 l2, .int .i64 c2] W (OffRes W r2))
    : Calls Tryz.prog 92 #[.pointer (some ⟨g, 0, none⟩), .iface 101 (.pointer (some ⟨p, 0, none⟩)), .bool wp, .bool true] w
      (UpdRes w g #[.string u, .int .i64 l, .int .i64 c, .int .i64 r, .int .i64 l2, .int .i64 c2, .int .i64 r2]) := by
  have HX := hide (fun (W : World) (h : w.grownBy W (some g)) => hb0.trans (SX.below h hg hb0.size))
  have H1 := hide (fun (W : World) (h : w.grownBy W (some g)) (h2 : Blk W g 87 #[.string u, .int .i64 l, .int .i64 c, .int .i64 o, .int .i64 l2, .int .i64 c2, .int .i64 o2]) => updOff1 u l c o l2 c2 o2 r g p n L w0 W hC (HX.out W h) h2 hT1)
  have H4 := hide (fun (W : World) (h : w.grownBy W (some g)) (h2 : Blk W g 87 #[.string u, .int .i64 l, .int .i64 c, .int .i64 r, .int .i64 l2, .int .i64 c2, .int .i64 o2]) => updOff4 u l c r l2 c2 o2 r2 g p n L w0 W hC (HX.out W h) h2 hT2)
  have HV := hide (fun W => isValid_any u l c o l2 c2 o2 W)
  rw [told_l p1] at HV
  have k7 := hB.seven
  have hG := World.grownBy.refl w (some g)
  have z1 : decide (0 < l) = true := by simpa using p1
  have z2 : decide (0 < l2) = true := by simpa using p2
  clear hC hT1 hT2
  cases wp <;> rcases hd with d1 | ⟨d1, d2⟩
  all_goals
    go_enter Tryz.func92, Tryz.ntmps92
    go_wp2_with (first
      | (go_at_call 79; refine (HV.out _).mono ?_; rintro e w1 ⟨rfl, hb⟩; have kk := Blk.kept (g := g) (by assumption) hb; have hG := gcall (by assumption) hb; have k7 := kk.seven; clear hb)
      | (go_at_call 102; refine (spHasPos_any _ _ _ _ _ _ _ _).mono ?_; rintro e w1 ⟨rfl, hb⟩; have kk := Blk.kept (g := g) (by assumption) hb; have hG := gcall (by assumption) hb; have k7 := kk.seven; clear hb)
      | (go_at_call 104; refine (spHasOff_any _ _ _ _ _ _ _ _).mono ?_; rintro e w1 ⟨rfl, hb⟩; have kk := Blk.kept (g := g) (by assumption) hb; have hG := gcall (by assumption) hb; have k7 := kk.seven; clear hb)
      | (go_at_call 82; refine (ptHasPos_any _ _ _ _).mono ?_; rintro e w1 ⟨rfl, hb⟩; have kk := Blk.kept (g := g) (by assumption) hb; have hG := gcall (by assumption) hb; have k7 := kk.seven; clear hb)
      | (go_at_call 75; refine (ptHasOff_any _ _ _ _).mono ?_; rintro e w1 ⟨rfl, hb⟩; have kk := Blk.kept (g := g) (by assumption) hb; have hG := gcall (by assumption) hb; have k7 := kk.seven; clear hb)
      | (go_at_call 105; refine (H1.out _ (by assumption) (by assumption)).mono ?_; rintro e w1 ⟨rfl, kk, hg1⟩; have hG := gtrans (by assumption) hg1; have k7 := kk.seven; clear hg1))
    have kkd := kk.drew
    have hGd := grown_drew hG
    go_region_held3 (fun w' => w'.cell? ⟨g, 4, none⟩ = some (.int .i64 l2) ∧ w'.cell? ⟨g, 1, none⟩ = some (.int .i64 l) ∧ w'.cell? ⟨g, 5, none⟩ = some (.int .i64 c2) ∧ w'.cell? ⟨g, 2, none⟩ = some (.int .i64 c)) (go_keep) (fail)
    have kd7 := kkd.seven
    go_wp2_with (first
      | (go_at_call 105; refine (H4.out _ (by assumption) (by assumption)).mono ?_; rintro e w1 ⟨rfl, kk, hg1⟩; have hG := gtrans (by assumption) hg1; have k7 := kk.seven; clear hg1))
    go_ret
    exact ⟨rfl, by assumption, by assumption⟩

set_option maxHeartbeats 4000000 in
/-- A span that has all stays as it is. -/
theorem updA_none (wp : Bool) (u : ByteArray) (l c o l2 c2 o2 : Int) (g p : Nat) (w : World)
    (hB : Blk w g 87 #[.string u, .int .i64 l, .int .i64 c, .int .i64 o, .int .i64 l2, .int .i64 c2, .int .i64 o2]) (p1 : 0 < l) (p2 : 0 < l2) (d1 : decide ((0 : Int) ≤ o) = true) (d2 : decide ((0 : Int) ≤ o2) = true) :
    Calls Tryz.prog 92 #[.pointer (some ⟨g, 0, none⟩), .iface 101 (.pointer (some ⟨p, 0, none⟩)), .bool wp, .bool true] w
      (UpdRes w g #[.string u, .int .i64 l, .int .i64 c, .int .i64 o, .int .i64 l2, .int .i64 c2, .int .i64 o2]) := by
  have HV := hide (fun W => isValid_any u l c o l2 c2 o2 W)
  rw [told_l p1] at HV
  have k7 := hB.seven
  have hG := World.grownBy.refl w (some g)
  have z1 : decide (0 < l) = true := by simpa using p1
  have z2 : decide (0 < l2) = true := by simpa using p2
  cases wp
  all_goals
    go_enter Tryz.func92, Tryz.ntmps92
    go_wp2_with (first
      | (go_at_call 79; refine (HV.out _).mono ?_; rintro e w1 ⟨rfl, hb⟩; have kk := Blk.kept (g := g) (by assumption) hb; have hG := gcall (by assumption) hb; have k7 := kk.seven; clear hb)
      | (go_at_call 102; refine (spHasPos_any _ _ _ _ _ _ _ _).mono ?_; rintro e w1 ⟨rfl, hb⟩; have kk := Blk.kept (g := g) (by assumption) hb; have hG := gcall (by assumption) hb; have k7 := kk.seven; clear hb)
      | (go_at_call 104; refine (spHasOff_any _ _ _ _ _ _ _ _).mono ?_; rintro e w1 ⟨rfl, hb⟩; have kk := Blk.kept (g := g) (by assumption) hb; have hG := gcall (by assumption) hb; have k7 := kk.seven; clear hb)
      | (go_at_call 82; refine (ptHasPos_any _ _ _ _).mono ?_; rintro e w1 ⟨rfl, hb⟩; have kk := Blk.kept (g := g) (by assumption) hb; have hG := gcall (by assumption) hb; have k7 := kk.seven; clear hb)
      | (go_at_call 75; refine (ptHasOff_any _ _ _ _).mono ?_; rintro e w1 ⟨rfl, hb⟩; have kk := Blk.kept (g := g) (by assumption) hb; have hG := gcall (by assumption) hb; have k7 := kk.seven; clear hb))
    go_ret
    exact ⟨rfl, by assumption, by assumption⟩

end Go.Proofs.YtgegialfhkgggaaGreatDoor
namespace Go.Proofs.YtgegialfhkgggaaGreatDoor
open Go.RowKit
attribute [local go_sem ↓] Go.wp_at_zero Go.wp_at_succ

theorem Blk.drewN {w : World} {g : Nat} {t : TypeId} {cs : Array Value} {n : Nat} (h : Blk w g t cs) : Blk (w.drewN n) g t cs := h
theorem grown_drewN {a w : World} {row : Option Nat} (n : Nat) (h : a.grownBy w row) : a.grownBy (w.drewN n) row := ⟨h.os, h.tape, h.output, h.size, h.block⟩

set_option maxHeartbeats 4000000 in
theorem updA_twoL (wp : Bool) (u : ByteArray) (l c o l2 c2 o2 r r2 : Int) (g p n : Nat) (L : List Int) (w0 w : World) (hC : Conv w0 p n L) (hb0 : Below w0.heap.size w0 w) (hg : w0.heap.size ≤ g)
    (hB : Blk w g 87 #[.string u, .int .i64 l, .int .i64 c, .int .i64 o, .int .i64 l2, .int .i64 c2, .int .i64 o2]) (p1 : 0 < l) (p2 : 0 < l2) (hd : decide ((0 : Int) ≤ o) = false ∨ (decide ((0 : Int) ≤ o) = true ∧ decide ((0 : Int) ≤ o2) = false)) (q1 : (l2 == l) = false)
    (hT1 : ∀ W, Conv W p n L → Calls Tryz.prog 142 #[.pointer (some ⟨p, 0, none⟩), .int .i64 l, .int .i64 c] W (OffRes W r))
    (hT2 : ∀ W, Conv W p n L → Calls Tryz.prog 142 #[.pointer (some ⟨p, 0, none⟩), .int .i64 l2, .int .i64 c2] W (OffRes W r2))
    : Calls Tryz.prog 92 #[.pointer (some ⟨g, 0, none⟩), .iface 101 (.pointer (some ⟨p, 0, none⟩)), .bool wp, .bool true] w
      (UpdRes w g #[.string u, .int .i64 l, .int .i64 c, .int .i64 r, .int .i64 l2, .int .i64 c2, .int .i64 r2]) := by
  have HX := hide (fun (W : World) (h : w.grownBy W (some g)) => hb0.trans (SX.below h hg hb0.size))
  have H1 := hide (fun (W : World) (h : w.grownBy W (some g)) (h2 : Blk W g 87 #[.string u, .int .i64 l, .int .i64 c, .int .i64 o, .int .i64 l2, .int .i64 c2, .int .i64 o2]) => updOff1 u l c o l2 c2 o2 r g p n L w0 W hC (HX.out W h) h2 hT1)
  have H4 := hide (fun (W : World) (h : w.grownBy W (some g)) (h2 : Blk W g 87 #[.string u, .int .i64 l, .int .i64 c, .int .i64 r, .int .i64 l2, .int .i64 c2, .int .i64 o2]) => updOff4 u l c r l2 c2 o2 r2 g p n L w0 W hC (HX.out W h) h2 hT2)
  have HV := hide (fun W => isValid_any u l c o l2 c2 o2 W)
  rw [told_l p1] at HV
  have k7 := hB.seven
  have hG := World.grownBy.refl w (some g)
  have z1 : decide (0 < l) = true := by simpa using p1
  have z2 : decide (0 < l2) = true := by simpa using p2
  clear hC hT1 hT2
  cases wp <;> rcases hd with d1 | ⟨d1, d2⟩
  all_goals
    go_enter Tryz.func92, Tryz.ntmps92
    go_wp2_with (first
      | (go_at_call 79; refine (HV.out _).mono ?_; rintro e w1 ⟨rfl, hb⟩; have kk := Blk.kept (g := g) (by assumption) hb; have hG := gcall (by assumption) hb; have k7 := kk.seven; clear hb)
      | (go_at_call 102; refine (spHasPos_any _ _ _ _ _ _ _ _).mono ?_; rintro e w1 ⟨rfl, hb⟩; have kk := Blk.kept (g := g) (by assumption) hb; have hG := gcall (by assumption) hb; have k7 := kk.seven; clear hb)
      | (go_at_call 104; refine (spHasOff_any _ _ _ _ _ _ _ _).mono ?_; rintro e w1 ⟨rfl, hb⟩; have kk := Blk.kept (g := g) (by assumption) hb; have hG := gcall (by assumption) hb; have k7 := kk.seven; clear hb)
      | (go_at_call 82; refine (ptHasPos_any _ _ _ _).mono ?_; rintro e w1 ⟨rfl, hb⟩; have kk := Blk.kept (g := g) (by assumption) hb; have hG := gcall (by assumption) hb; have k7 := kk.seven; clear hb)
      | (go_at_call 75; refine (ptHasOff_any _ _ _ _).mono ?_; rintro e w1 ⟨rfl, hb⟩; have kk := Blk.kept (g := g) (by assumption) hb; have hG := gcall (by assumption) hb; have k7 := kk.seven; clear hb)
      | (go_at_call 105; refine (H1.out _ (by assumption) (by assumption)).mono ?_; rintro e w1 ⟨rfl, kk, hg1⟩; have hG := gtrans (by assumption) hg1; have k7 := kk.seven; clear hg1))
    have kd := fun m => Blk.drewN (n := m) kk
    have hGd := fun m => grown_drewN m hG
    have kH := hide kd
    have gH := hide hGd
    clear kd hGd
    go_quiet (fail)
    go_wp2_with fail
    refine (H4.out _ (gH.out _) (kH.out _)).mono ?_
    rintro e w2 ⟨rfl, kk2, hg2⟩
    have hG2 := gtrans (gH.out _) hg2
    have k72 := kk2.seven
    clear hg2
    go_wp2
    go_ret
    exact ⟨rfl, kk2, hG2⟩

end Go.Proofs.YtgegialfhkgggaaGreatDoor
namespace Go.Proofs.YtgegialfhkgggaaGreatDoor
open Go.RowKit
attribute [local go_sem ↓] Go.wp_at_zero Go.wp_at_succ

set_option maxHeartbeats 2000000 in
theorem withAll_of (u : ByteArray) (l c o l2 c2 o2 l' c' o' l2' c2' o2' : Int) (p : Nat) (w : World)
    (hU : ∀ W, Below w.heap.size w W → Blk W w.heap.size 87 #[.string u, .int .i64 l, .int .i64 c, .int .i64 o, .int .i64 l2, .int .i64 c2, .int .i64 o2] →
      Calls Tryz.prog 92 #[.pointer (some ⟨w.heap.size, 0, none⟩), .iface 101 (.pointer (some ⟨p, 0, none⟩)), .bool true, .bool true] W
        (UpdRes W w.heap.size #[.string u, .int .i64 l', .int .i64 c', .int .i64 o', .int .i64 l2', .int .i64 c2', .int .i64 o2'])) :
    Calls Tryz.prog 73 #[.agg #[.string u, .int .i64 l, .int .i64 c, .int .i64 o, .int .i64 l2, .int .i64 c2, .int .i64 o2], .iface 101 (.pointer (some ⟨p, 0, none⟩))] w fun e w' =>
      e = .returned (.tuple #[.agg #[.string u, .int .i64 l', .int .i64 c', .int .i64 o', .int .i64 l2', .int .i64 c2', .int .i64 o2'], .nilIface]) ∧ Below w.heap.size w w' := by
  have HU := hide hU
  clear hU
  go_enter Tryz.func73, Tryz.ntmps73
  go_wp2_with fail
  refine (HU.out _ (by go_grown) ((Blk.newAt rfl).alloc _)).mono ?_
  rintro e w1 ⟨rfl, kk, hg⟩
  have hbl : Below w.heap.size w w1 := Below.trans (by go_grown) (SX.below hg (Nat.le_refl _) (by simp; omega))
  have k7 := kk.seven
  have r := (Blk.newAt (w := w.alloc (.cells #[.string u, .int .i64 l, .int .i64 c, .int .i64 o, .int .i64 l2, .int .i64 c2, .int .i64 o2] 87)) (g := w.heap.size + 1) (t := 87) (cs := #[.string ⟨#[]⟩, .int .i64 0, .int .i64 0, .int .i64 0, .int .i64 0, .int .i64 0, .int .i64 0]) (by simp))
  have r7 := (r.grown hg (by simp)).seven
  clear hg r
  go_wp2
  exact bodyPost_ret (v := .tuple #[.agg #[.string u, .int .i64 l', .int .i64 c', .int .i64 o', .int .i64 l2', .int .i64 c2', .int .i64 o2'], .nilIface])
    (by simp [results, Tryz.results73, go_sem, r7, k7]) rfl ⟨rfl, by go_grown⟩
end Go.Proofs.YtgegialfhkgggaaGreatDoor
