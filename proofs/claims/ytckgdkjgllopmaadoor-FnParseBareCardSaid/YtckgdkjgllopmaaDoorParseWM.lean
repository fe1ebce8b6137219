/- Walk: gtspan.Parse at the texts of spans. No condition but sizes. -/
import Derived.Test.YtckgdkjgllopmaaDoorRstripM
import Derived.Test.YtckgdkjgllopmaaDoorSpansM
import Derived.Test.YtckgdkjgllopmaaDoorPa
set_option linter.unusedVariables false
set_option linter.unusedSimpArgs false
namespace Go.Proofs.YtckgdkjgllopmaaDoor
open Go.RowKit Go.Proofs.YtckgdkjgllopmaaDoor.Lines
attribute [local go_sem ↓] Go.wp_at_zero Go.wp_at_succ

/-- What one step off a text's end gives. -/
abbrev StripTo (T R : ByteArray) (x : UInt8) (n : Int) : Prop := Hid (∀ W, Calls Tryd.prog 43 #[.string T] W (StripRes W R x n))
abbrev PtTo (l c o l2 c2 o2 : Int) : Prop := Hid (∀ W, Calls Tryd.prog 35 #[.int .i64 l, .int .i64 c, .int .i64 o] W fun e w' => e = .returned (.agg #[.int .i64 l2, .int .i64 c2, .int .i64 o2]) ∧ Below W.heap.size W w')
theorem ptTo (l c o l2 c2 o2 : Int) (h1 : cl l = l2) (h2 : cc l c = c2) (h3 : co l c o = o2) : PtTo l c o l2 c2 o2 := hide (fun W => by
  have h := newPoint_any l c o W
  rw [h1, h2, h3] at h
  exact h)
abbrev NewTo (u : ByteArray) (l c o l2 c2 o2 l3 c3 o3 : Int) : Prop := Hid (∀ W, Calls Tryd.prog 44 #[.string u, .agg #[.int .i64 l, .int .i64 c, .int .i64 o], .agg #[.int .i64 l2, .int .i64 c2, .int .i64 o2]] W fun e w' => e = .returned (.agg #[.string u, .int .i64 l, .int .i64 c, .int .i64 o, .int .i64 l3, .int .i64 c3, .int .i64 o3]) ∧ Below W.heap.size W w')
/-- What Parse leaves. -/
def ParRes (w : World) (u : ByteArray) (l c o l2 c2 o2 : Int) (e : Ending) (w' : World) : Prop := e = .returned (.agg #[.string u, .int .i64 l, .int .i64 c, .int .i64 o, .int .i64 l2, .int .i64 c2, .int .i64 o2]) ∧ Below w.heap.size w w'

theorem calls_gen {P : Program} {f : FuncId} {args : Array Value} {W : World} {Q : Ending → World → Prop} (h : ∀ W', W' = W → Calls P f args W' Q) : Calls P f args W Q := h W rfl
/-- What stands while Parse runs: the result's block, and the suffix at hand. -/
structure PW (g p : Nat) (w W : World) (r : Array Value) (a b : ByteArray) (n : Int) : Prop where
  k2 : Blk W g 63 r
  k7 : Blk W p 75 #[.string a, .string b, .int .i64 n]
  lt : g < p
  below : Below g w W
theorem PW.kept {g p : Nat} {w W W1 : World} {r : Array Value} {a b : ByteArray} {n : Int} (H : PW g p w W r a b n) (hb : Below W.heap.size W W1) : PW g p w W1 r a b n :=
  ⟨H.k2.kept hb, H.k7.kept hb, H.lt, H.below.trans (hb.mono (Nat.le_of_lt H.k2.lt))⟩
theorem PW.put {g p : Nat} {w W W1 : World} {r : Array Value} {a b a' b' : ByteArray} {n n' : Int} (H : PW g p w W r a b n) (hW : W1 = ((W.setCell ⟨p, 0, none⟩ (.string a')).setCell ⟨p, 1, none⟩ (.string b')).setCell ⟨p, 2, none⟩ (.int .i64 n')) : PW g p w W1 r a' b' n' := by
  subst hW
  have hl := H.lt
  refine ⟨((H.k2.far (by simp; omega) _).far (by simp; omega) _).far (by simp; omega) _, ?_, hl, ((H.below.setCell (p := ⟨p, 0, none⟩) (by simp; omega) _).setCell (p := ⟨p, 1, none⟩) (by simp; omega) _).setCell (p := ⟨p, 2, none⟩) (by simp; omega) _⟩
  exact ((H.k7.set_ 0 _).set_ 1 _).set_ 2 _

set_option maxHeartbeats 8000000 in
set_option maxRecDepth 100000 in
/-- uri:L:C -/
theorem parse_bp (T0 T1 U : ByteArray) (L C l c o : Int) (H0 : StripTo T0 T1 58 C) (H1 : StripTo T1 U 58 L) (HP : PtTo L C 0 l c o) (HN : NewTo U l c o 0 0 0 l c o) (w : World) :
    Calls Tryd.prog 27 #[.string T0] w (ParRes w U l c o l c o) := by
  go_enter Tryd.func27, Tryd.ntmps27
  go_wp2_with fail
  refine (H0.out _).mono ?_
  rintro e w1 ⟨rfl, hb1⟩
  have k2 := (Blk.newAt (w := w) (g := w.heap.size) (t := 63) (cs := #[.string ⟨#[]⟩, .int .i64 0, .int .i64 0, .int .i64 0, .int .i64 0, .int .i64 0, .int .i64 0]) rfl).kept hb1
  have hbl : Below w.heap.size w w1 := Below.trans (by go_grown) (hb1.mono (by simp))
  have K2 := hide k2
  have HB := hide hbl
  clear hb1 k2 hbl
  go_wp2_with fail
  refine calls_gen ?_
  intro W hW
  have q0 : PW w.heap.size w1.heap.size w W _ _ _ _ := ⟨K2.out.al1 hW, blk1_1 hW, K2.out.lt, by rw [hW]; exact HB.out.alloc (Nat.le_of_lt K2.out.lt) _⟩
  clear hW K2 HB
  refine (H1.out _).mono ?_
  rintro e wv0 ⟨rfl, hb1⟩
  have q1 := q0.kept hb1
  clear hb1 q0
  have f7 := q1.k7.three
  have Q1 := hide q1
  clear q1
  go_wp2_with fail
  refine wp_gen ?_
  intro W hW
  have q0 := Q1.out.put hW
  clear hW Q1 f7
  have f7 := q0.k7.three
  have b1 := q0.k2
  have a1 := q0.k7.lt
  have a2 : ¬ w1.heap.size = w.heap.size := by have := q0.lt; omega
  have hbl := q0.below
  have a3 := b1.lt
  clear q0
  go_region_held3 (fun w' => (∀ b o, b < W.heap.size → ¬ b = w.heap.size → w'.cell? ⟨b, o, none⟩ = W.cell? ⟨b, o, none⟩) ∧ W.heap.size ≤ w'.heap.size ∧ W.grownBy w' (some (w.heap.size)))
    (first
      | (go_split_ands; with_reducible (refine SX.set ?_ ?_ _; refine SX.set ?_ ?_ _; refine SX.set ?_ ?_ _; refine SX.set ?_ ?_ _; refine SX.set ?_ ?_ _; refine SX.set ?_ ?_ _; refine SX.set ?_ ?_ _; exact ⟨by assumption, by assumption, by assumption⟩; all_goals rfl))
      | (with_reducible exact SX.start)
      | (go_split_ands; (with_reducible refine SX.call ?_ hb); exact ⟨by assumption, by assumption, by assumption⟩))
    (first
      | (go_at_call 35; refine (HP.out _).mono ?_; rintro e w3 ⟨rfl, hb⟩; have kk := Blk.kept (g := w.heap.size) (by assumption) hb)
      | (go_at_call 44; refine (HN.out _).mono ?_; rintro e w3 ⟨rfl, hb⟩; have kk := Blk.kept (g := w.heap.size) (by assumption) hb; have k7 := kk.seven))
  go_wp2
  go_split_ands
  exact bodyPost_ret (v := .agg #[.string U, .int .i64 l, .int .i64 c, .int .i64 o, .int .i64 l, .int .i64 c, .int .i64 o])
    (by simp [results, Tryd.results27, go_sem, *]) rfl ⟨rfl, hbl.trans (SX.below (g := w.heap.size) (by assumption) (Nat.le_refl _) (by omega))⟩
set_option maxHeartbeats 8000000 in
set_option maxRecDepth 100000 in
/-- uri:L:C#O -/
theorem parse_fp (T0 T1 T2 U : ByteArray) (L C O l c o : Int) (H0 : StripTo T0 T1 35 O) (H1 : StripTo T1 T2 58 C) (H2 : StripTo T2 U 58 L) (HP : PtTo L C O l c o) (HN : NewTo U l c o 0 0 0 l c o) (w : World) :
    Calls Tryd.prog 27 #[.string T0] w (ParRes w U l c o l c o) := by
  go_enter Tryd.func27, Tryd.ntmps27
  go_wp2_with fail
  refine (H0.out _).mono ?_
  rintro e w1 ⟨rfl, hb1⟩
  have k2 := (Blk.newAt (w := w) (g := w.heap.size) (t := 63) (cs := #[.string ⟨#[]⟩, .int .i64 0, .int .i64 0, .int .i64 0, .int .i64 0, .int .i64 0, .int .i64 0]) rfl).kept hb1
  have hbl : Below w.heap.size w w1 := Below.trans (by go_grown) (hb1.mono (by simp))
  have K2 := hide k2
  have HB := hide hbl
  clear hb1 k2 hbl
  go_wp2_with fail
  refine calls_gen ?_
  intro W hW
  have q0 : PW w.heap.size w1.heap.size w W _ _ _ _ := ⟨K2.out.al1 hW, blk1_1 hW, K2.out.lt, by rw [hW]; exact HB.out.alloc (Nat.le_of_lt K2.out.lt) _⟩
  clear hW K2 HB
  refine (H1.out _).mono ?_
  rintro e wv0 ⟨rfl, hb1⟩
  have q1 := q0.kept hb1
  clear hb1 q0
  have f7 := q1.k7.three
  have Q1 := hide q1
  clear q1
  go_wp2_with fail
  refine calls_gen ?_
  intro W hW
  have q0 := Q1.out.put hW
  clear hW Q1 f7
  refine (H2.out _).mono ?_
  rintro e wv1 ⟨rfl, hb1⟩
  have q1 := q0.kept hb1
  clear hb1 q0
  have f7 := q1.k7.three
  have Q1 := hide q1
  clear q1
  go_wp2_with fail
  refine wp_gen ?_
  intro W hW
  have q0 := Q1.out.put hW
  clear hW Q1 f7
  have f7 := q0.k7.three
  have b1 := q0.k2
  have a1 := q0.k7.lt
  have a2 : ¬ w1.heap.size = w.heap.size := by have := q0.lt; omega
  have hbl := q0.below
  have a3 := b1.lt
  clear q0
  go_region_held3 (fun w' => (∀ b o, b < W.heap.size → ¬ b = w.heap.size → w'.cell? ⟨b, o, none⟩ = W.cell? ⟨b, o, none⟩) ∧ W.heap.size ≤ w'.heap.size ∧ W.grownBy w' (some (w.heap.size)))
    (first
      | (go_split_ands; with_reducible (refine SX.set ?_ ?_ _; refine SX.set ?_ ?_ _; refine SX.set ?_ ?_ _; refine SX.set ?_ ?_ _; refine SX.set ?_ ?_ _; refine SX.set ?_ ?_ _; refine SX.set ?_ ?_ _; exact ⟨by assumption, by assumption, by assumption⟩; all_goals rfl))
      | (with_reducible exact SX.start)
      | (go_split_ands; (with_reducible refine SX.call ?_ hb); exact ⟨by assumption, by assumption, by assumption⟩))
    (first
      | (go_at_call 35; refine (HP.out _).mono ?_; rintro e w3 ⟨rfl, hb⟩; have kk := Blk.kept (g := w.heap.size) (by assumption) hb)
      | (go_at_call 44; refine (HN.out _).mono ?_; rintro e w3 ⟨rfl, hb⟩; have kk := Blk.kept (g := w.heap.size) (by assumption) hb; have k7 := kk.seven))
  go_wp2
  go_split_ands
  exact bodyPost_ret (v := .agg #[.string U, .int .i64 l, .int .i64 c, .int .i64 o, .int .i64 l, .int .i64 c, .int .i64 o])
    (by simp [results, Tryd.results27, go_sem, *]) rfl ⟨rfl, hbl.trans (SX.below (g := w.heap.size) (by assumption) (Nat.le_refl _) (by omega))⟩
set_option maxHeartbeats 8000000 in
set_option maxRecDepth 100000 in
/-- uri:#O -/
theorem parse_op (T0 T1 U U1 : ByteArray) (x : UInt8) (N O l c o : Int) (hx1 : (x == 58) = false) (hx2 : (x == 45) = false) (H0 : StripTo T0 T1 35 O) (H1 : StripTo T1 U 58 N) (H2 : StripTo U U1 x (-1)) (HP : PtTo N 0 O l c o) (HN : NewTo U l c o 0 0 0 l c o) (w : World) :
    Calls Tryd.prog 27 #[.string T0] w (ParRes w U l c o l c o) := by
  go_enter Tryd.func27, Tryd.ntmps27
  go_wp2_with fail
  refine (H0.out _).mono ?_
  rintro e w1 ⟨rfl, hb1⟩
  have k2 := (Blk.newAt (w := w) (g := w.heap.size) (t := 63) (cs := #[.string ⟨#[]⟩, .int .i64 0, .int .i64 0, .int .i64 0, .int .i64 0, .int .i64 0, .int .i64 0]) rfl).kept hb1
  have hbl : Below w.heap.size w w1 := Below.trans (by go_grown) (hb1.mono (by simp))
  have K2 := hide k2
  have HB := hide hbl
  clear hb1 k2 hbl
  go_wp2_with fail
  refine calls_gen ?_
  intro W hW
  have q0 : PW w.heap.size w1.heap.size w W _ _ _ _ := ⟨K2.out.al1 hW, blk1_1 hW, K2.out.lt, by rw [hW]; exact HB.out.alloc (Nat.le_of_lt K2.out.lt) _⟩
  clear hW K2 HB
  refine (H1.out _).mono ?_
  rintro e wv0 ⟨rfl, hb1⟩
  have q1 := q0.kept hb1
  clear hb1 q0
  have f7 := q1.k7.three
  have Q1 := hide q1
  clear q1
  go_wp2_with fail
  refine calls_gen ?_
  intro W hW
  have q0 := Q1.out.put hW
  clear hW Q1 f7
  refine (H2.out _).mono ?_
  rintro e wv1 ⟨rfl, hb1⟩
  have q1 := q0.kept hb1
  clear hb1 q0
  have f7 := q1.k7.three
  have Q1 := hide q1
  clear q1
  go_wp2_with fail
  refine calls_gen ?_
  intro W hW
  have q0 := Q1.out.put hW
  clear hW Q1 f7
  refine (HP.out _).mono ?_
  rintro e wp ⟨rfl, hb1⟩
  have q1 := q0.kept hb1
  clear hb1 q0
  go_wp2_with fail
  refine (HN.out _).mono ?_
  rintro e wn ⟨rfl, hb1⟩
  have q2 := q1.kept hb1
  clear hb1 q1
  have f2 := q2.k2.seven
  have hbl := q2.below
  clear q2
  go_wp2
  exact bodyPost_ret (v := .agg #[.string U, .int .i64 l, .int .i64 c, .int .i64 o, .int .i64 l, .int .i64 c, .int .i64 o])
    (by simp [results, Tryd.results27, go_sem, f2]) rfl ⟨rfl, ((((((hbl.setCell (p := ⟨w.heap.size, 0, none⟩) (Nat.le_refl _) _).setCell (p := ⟨w.heap.size, 1, none⟩) (Nat.le_refl _) _).setCell (p := ⟨w.heap.size, 2, none⟩) (Nat.le_refl _) _).setCell (p := ⟨w.heap.size, 3, none⟩) (Nat.le_refl _) _).setCell (p := ⟨w.heap.size, 4, none⟩) (Nat.le_refl _) _).setCell (p := ⟨w.heap.size, 5, none⟩) (Nat.le_refl _) _).setCell (p := ⟨w.heap.size, 6, none⟩) (Nat.le_refl _) _⟩
set_option maxHeartbeats 8000000 in
set_option maxRecDepth 100000 in
/-- uri:#O-#O2 -/
theorem parse_os (T0 T1 T2 T3 U U1 : ByteArray) (x : UInt8) (N M O O2 l c o l2 c2 o2 : Int) (hx1 : (x == 58) = false) (hx2 : (x == 45) = false) (H0 : StripTo T0 T1 35 O2) (H1 : StripTo T1 T2 45 N) (H2 : StripTo T2 T3 35 O) (H3 : StripTo T3 U 58 M) (H4 : StripTo U U1 x (-1)) (HE : PtTo N 0 O2 l2 c2 o2) (HP : PtTo M 0 O l c o) (HN : NewTo U l c o l2 c2 o2 l2 c2 o2) (w : World) :
    Calls Tryd.prog 27 #[.string T0] w (ParRes w U l c o l2 c2 o2) := by
  go_enter Tryd.func27, Tryd.ntmps27
  go_wp2_with fail
  refine (H0.out _).mono ?_
  rintro e w1 ⟨rfl, hb1⟩
  have k2 := (Blk.newAt (w := w) (g := w.heap.size) (t := 63) (cs := #[.string ⟨#[]⟩, .int .i64 0, .int .i64 0, .int .i64 0, .int .i64 0, .int .i64 0, .int .i64 0]) rfl).kept hb1
  have hbl : Below w.heap.size w w1 := Below.trans (by go_grown) (hb1.mono (by simp))
  have K2 := hide k2
  have HB := hide hbl
  clear hb1 k2 hbl
  go_wp2_with fail
  refine calls_gen ?_
  intro W hW
  have q0 : PW w.heap.size w1.heap.size w W _ _ _ _ := ⟨K2.out.al1 hW, blk1_1 hW, K2.out.lt, by rw [hW]; exact HB.out.alloc (Nat.le_of_lt K2.out.lt) _⟩
  clear hW K2 HB
  refine (H1.out _).mono ?_
  rintro e wv0 ⟨rfl, hb1⟩
  have q1 := q0.kept hb1
  clear hb1 q0
  have f7 := q1.k7.three
  have Q1 := hide q1
  clear q1
  go_wp2_with fail
  refine calls_gen ?_
  intro W hW
  have q0 := Q1.out.put hW
  clear hW Q1 f7
  refine (HE.out _).mono ?_
  rintro e wv1 ⟨rfl, hb1⟩
  have q1 := q0.kept hb1
  clear hb1 q0
  have f7 := q1.k7.three
  have hne8 : ¬ wv1.heap.size = w1.heap.size := by have := q1.k7.lt; omega
  have hl8 : w1.heap.size < wv1.heap.size := q1.k7.lt
  have hne7 : ¬ w1.heap.size = wv1.heap.size := by have := q1.k7.lt; omega
  have hne6 : ¬ wv1.heap.size = w.heap.size := by have := q1.k7.lt; have := q1.lt; omega
  have HNE8 : Hid (∀ (_ : World), w1.heap.size < wv1.heap.size ∧ w.heap.size < wv1.heap.size) := hide (fun _ => by have := q1.k7.lt; have := q1.lt; omega)
  have Q1 := hide q1
  clear q1
  go_wp2_with fail
  refine calls_gen ?_
  intro W hW
  have q0 : PW w.heap.size w1.heap.size w W _ _ _ _ := ⟨Q1.out.k2.al1 hW, Q1.out.k7.al1 hW, Q1.out.lt, by rw [hW]; exact Q1.out.below.alloc (Nat.le_of_lt Q1.out.k2.lt) _⟩
  have K8_1 := hide (blk1_1 hW)
  clear hW Q1 f7
  refine (H2.out _).mono ?_
  rintro e wv2 ⟨rfl, hb1⟩
  have q1 := q0.kept hb1
  have K8_2 := hide (K8_1.out.kept hb1)
  clear K8_1
  clear hb1 q0
  have f7 := q1.k7.three
  have Q1 := hide q1
  clear q1
  go_wp2_with fail
  refine calls_gen ?_
  intro W hW
  have q0 := Q1.out.put hW
  have K8_3 := hide (show Blk W wv1.heap.size 49 _ by have hlt := HNE8.out w; rw [hW]; exact ((K8_2.out.far (by simp; omega) _).far (by simp; omega) _).far (by simp; omega) _)
  clear K8_2
  clear hW Q1 f7
  refine (H3.out _).mono ?_
  rintro e wv3 ⟨rfl, hb1⟩
  have q1 := q0.kept hb1
  have K8_4 := hide (K8_3.out.kept hb1)
  clear K8_3
  clear hb1 q0
  have f7 := q1.k7.three
  have Q1 := hide q1
  clear q1
  go_wp2_with fail
  refine calls_gen ?_
  intro W hW
  have q0 := Q1.out.put hW
  have K8_5 := hide (show Blk W wv1.heap.size 49 _ by have hlt := HNE8.out w; rw [hW]; exact ((K8_4.out.far (by simp; omega) _).far (by simp; omega) _).far (by simp; omega) _)
  clear K8_4
  clear hW Q1 f7
  refine (H4.out _).mono ?_
  rintro e wv4 ⟨rfl, hb1⟩
  have q1 := q0.kept hb1
  have K8_6 := hide (K8_5.out.kept hb1)
  clear K8_5
  clear hb1 q0
  have f7 := q1.k7.three
  have f8 := K8_6.out.three
  have Q1 := hide q1
  clear q1
  go_wp2_with fail
  refine wp_gen ?_
  intro W hW
  have q0 := Q1.out.put hW
  have K8_7 := hide (show Blk W wv1.heap.size 49 _ by have hlt := HNE8.out w; rw [hW]; exact ((K8_6.out.far (by simp; omega) _).far (by simp; omega) _).far (by simp; omega) _)
  clear K8_6
  clear hW Q1 f7 f8
  have f7 := q0.k7.three
  have b1 := q0.k2
  have a1 := q0.k7.lt
  have a2 : ¬ w1.heap.size = w.heap.size := by have := q0.lt; omega
  have hbl := q0.below
  have a3 := b1.lt
  have f8 := K8_7.out.three
  have a8 := K8_7.out.lt
  clear q0
  go_region_held3 (fun w' => (∀ b o, b < W.heap.size → ¬ b = w.heap.size → w'.cell? ⟨b, o, none⟩ = W.cell? ⟨b, o, none⟩) ∧ W.heap.size ≤ w'.heap.size ∧ W.grownBy w' (some (w.heap.size)))
    (first
      | (go_split_ands; with_reducible (refine SX.set ?_ ?_ _; refine SX.set ?_ ?_ _; refine SX.set ?_ ?_ _; refine SX.set ?_ ?_ _; refine SX.set ?_ ?_ _; refine SX.set ?_ ?_ _; refine SX.set ?_ ?_ _; exact ⟨by assumption, by assumption, by assumption⟩; all_goals rfl))
      | (with_reducible exact SX.start)
      | (go_split_ands; (with_reducible refine SX.call ?_ hb); exact ⟨by assumption, by assumption, by assumption⟩))
    (first
      | (go_at_call 35; refine (HP.out _).mono ?_; rintro e w3 ⟨rfl, hb⟩; have kk := Blk.kept (g := w.heap.size) (by assumption) hb)
      | (go_at_call 44; refine (HN.out _).mono ?_; rintro e w3 ⟨rfl, hb⟩; have kk := Blk.kept (g := w.heap.size) (by assumption) hb; have k7 := kk.seven))
  go_wp2
  go_split_ands
  exact bodyPost_ret (v := .agg #[.string U, .int .i64 l, .int .i64 c, .int .i64 o, .int .i64 l2, .int .i64 c2, .int .i64 o2])
    (by simp [results, Tryd.results27, go_sem, *]) rfl ⟨rfl, hbl.trans (SX.below (g := w.heap.size) (by assumption) (Nat.le_refl _) (by omega))⟩
set_option maxHeartbeats 8000000 in
set_option maxRecDepth 100000 in
/-- uri:L:C-C2 -/
theorem parse_bc (T0 T1 T2 U : ByteArray) (L C C2 l c o l1 c1 o1 l2 c2 o2 : Int) (H0 : StripTo T0 T1 45 C2) (H1 : StripTo T1 T2 58 C) (H2 : StripTo T2 U 58 L) (HE : PtTo C2 0 0 l1 c1 o1) (HF : PtTo L l1 o1 l2 c2 o2) (HP : PtTo L C 0 l c o) (HN : NewTo U l c o l2 c2 o2 l2 c2 o2) (w : World) :
    Calls Tryd.prog 27 #[.string T0] w (ParRes w U l c o l2 c2 o2) := by
  go_enter Tryd.func27, Tryd.ntmps27
  go_wp2_with fail
  refine (H0.out _).mono ?_
  rintro e w1 ⟨rfl, hb1⟩
  have k2 := (Blk.newAt (w := w) (g := w.heap.size) (t := 63) (cs := #[.string ⟨#[]⟩, .int .i64 0, .int .i64 0, .int .i64 0, .int .i64 0, .int .i64 0, .int .i64 0]) rfl).kept hb1
  have hbl : Below w.heap.size w w1 := Below.trans (by go_grown) (hb1.mono (by simp))
  have K2 := hide k2
  have HB := hide hbl
  clear hb1 k2 hbl
  go_wp2_with fail
  refine calls_gen ?_
  intro W hW
  have q0 : PW w.heap.size w1.heap.size w W _ _ _ _ := ⟨K2.out.al1 hW, blk1_1 hW, K2.out.lt, by rw [hW]; exact HB.out.alloc (Nat.le_of_lt K2.out.lt) _⟩
  clear hW K2 HB
  refine (HE.out _).mono ?_
  rintro e wv0 ⟨rfl, hb1⟩
  have q1 := q0.kept hb1
  clear hb1 q0
  have f7 := q1.k7.three
  have hne8 : ¬ wv0.heap.size = w1.heap.size := by have := q1.k7.lt; omega
  have hl8 : w1.heap.size < wv0.heap.size := q1.k7.lt
  have hne7 : ¬ w1.heap.size = wv0.heap.size := by have := q1.k7.lt; omega
  have hne6 : ¬ wv0.heap.size = w.heap.size := by have := q1.k7.lt; have := q1.lt; omega
  have HNE8 : Hid (∀ (_ : World), w1.heap.size < wv0.heap.size ∧ w.heap.size < wv0.heap.size) := hide (fun _ => by have := q1.k7.lt; have := q1.lt; omega)
  have Q1 := hide q1
  clear q1
  go_wp2_with fail
  refine calls_gen ?_
  intro W hW
  have q0 : PW w.heap.size w1.heap.size w W _ _ _ _ := ⟨Q1.out.k2.al1 hW, Q1.out.k7.al1 hW, Q1.out.lt, by rw [hW]; exact Q1.out.below.alloc (Nat.le_of_lt Q1.out.k2.lt) _⟩
  have K8_1 := hide (blk1_1 hW)
  clear hW Q1 f7
  refine (H1.out _).mono ?_
  rintro e wv1 ⟨rfl, hb1⟩
  have q1 := q0.kept hb1
  have K8_2 := hide (K8_1.out.kept hb1)
  clear K8_1
  clear hb1 q0
  have f7 := q1.k7.three
  have Q1 := hide q1
  clear q1
  go_wp2_with fail
  refine calls_gen ?_
  intro W hW
  have q0 := Q1.out.put hW
  have K8_3 := hide (show Blk W wv0.heap.size 49 _ by have hlt := HNE8.out w; rw [hW]; exact ((K8_2.out.far (by simp; omega) _).far (by simp; omega) _).far (by simp; omega) _)
  clear K8_2
  clear hW Q1 f7
  refine (H2.out _).mono ?_
  rintro e wv2 ⟨rfl, hb1⟩
  have q1 := q0.kept hb1
  have K8_4 := hide (K8_3.out.kept hb1)
  clear K8_3
  clear hb1 q0
  have f7 := q1.k7.three
  have f8 := K8_4.out.three
  have Q1 := hide q1
  clear q1
  go_wp2_with fail
  refine calls_gen ?_
  intro W hW
  have q0 := Q1.out.put hW
  have K8_5 := hide (show Blk W wv0.heap.size 49 _ by have hlt := HNE8.out w; rw [hW]; exact ((K8_4.out.far (by simp; omega) _).far (by simp; omega) _).far (by simp; omega) _)
  clear K8_4
  clear hW Q1 f7 f8
  refine (HF.out _).mono ?_
  rintro e wv3 ⟨rfl, hb1⟩
  have q1 := q0.kept hb1
  have K8_6 := hide (K8_5.out.kept hb1)
  clear K8_5
  clear hb1 q0
  have f7 := q1.k7.three
  have f8 := K8_6.out.three
  have Q1 := hide q1
  clear q1
  go_wp2_with fail
  refine wp_gen ?_
  intro W hW
  have q0 : PW w.heap.size w1.heap.size w W #[.string ⟨#[]⟩, .int .i64 0, .int .i64 0, .int .i64 0, .int .i64 0, .int .i64 0, .int .i64 0] U ⟨#[58]⟩ L := by
    have hlt := HNE8.out w
    rw [hW]
    exact ⟨((Q1.out.k2.far (by simp; omega) _).far (by simp; omega) _).far (by simp; omega) _, ((Q1.out.k7.far (by simp; omega) _).far (by simp; omega) _).far (by simp; omega) _, Q1.out.lt, ((Q1.out.below.setCell (p := ⟨wv0.heap.size, 0, none⟩) (by simp; omega) _).setCell (p := ⟨wv0.heap.size, 1, none⟩) (by simp; omega) _).setCell (p := ⟨wv0.heap.size, 2, none⟩) (by simp; omega) _⟩
  have K8_7 := hide (show Blk W wv0.heap.size 49 #[.int .i64 l2, .int .i64 c2, .int .i64 o2] by rw [hW]; exact ((K8_6.out.set_ 0 _).set_ 1 _).set_ 2 _)
  clear K8_6
  clear hW Q1 f7 f8
  have f7 := q0.k7.three
  have b1 := q0.k2
  have a1 := q0.k7.lt
  have a2 : ¬ w1.heap.size = w.heap.size := by have := q0.lt; omega
  have hbl := q0.below
  have a3 := b1.lt
  have f8 := K8_7.out.three
  have a8 := K8_7.out.lt
  clear q0
  go_region_held3 (fun w' => (∀ b o, b < W.heap.size → ¬ b = w.heap.size → w'.cell? ⟨b, o, none⟩ = W.cell? ⟨b, o, none⟩) ∧ W.heap.size ≤ w'.heap.size ∧ W.grownBy w' (some (w.heap.size)))
    (first
      | (go_split_ands; with_reducible (refine SX.set ?_ ?_ _; refine SX.set ?_ ?_ _; refine SX.set ?_ ?_ _; refine SX.set ?_ ?_ _; refine SX.set ?_ ?_ _; refine SX.set ?_ ?_ _; refine SX.set ?_ ?_ _; exact ⟨by assumption, by assumption, by assumption⟩; all_goals rfl))
      | (with_reducible exact SX.start)
      | (go_split_ands; (with_reducible refine SX.call ?_ hb); exact ⟨by assumption, by assumption, by assumption⟩))
    (first
      | (go_at_call 35; refine (HP.out _).mono ?_; rintro e w3 ⟨rfl, hb⟩; have kk := Blk.kept (g := w.heap.size) (by assumption) hb)
      | (go_at_call 44; refine (HN.out _).mono ?_; rintro e w3 ⟨rfl, hb⟩; have kk := Blk.kept (g := w.heap.size) (by assumption) hb; have k7 := kk.seven))
  go_wp2
  go_split_ands
  exact bodyPost_ret (v := .agg #[.string U, .int .i64 l, .int .i64 c, .int .i64 o, .int .i64 l2, .int .i64 c2, .int .i64 o2])
    (by simp [results, Tryd.results27, go_sem, *]) rfl ⟨rfl, hbl.trans (SX.below (g := w.heap.size) (by assumption) (Nat.le_refl _) (by omega))⟩
set_option maxHeartbeats 8000000 in
set_option maxRecDepth 100000 in
/-- uri:L:C-L2:C2 -/
theorem parse_bs (T0 T1 T2 T3 U : ByteArray) (L C L2 C2 l c o l2 c2 o2 : Int) (H0 : StripTo T0 T1 58 C2) (H1 : StripTo T1 T2 45 L2) (H2 : StripTo T2 T3 58 C) (H3 : StripTo T3 U 58 L) (HE : PtTo L2 C2 0 l2 c2 o2) (HP : PtTo L C 0 l c o) (HN : NewTo U l c o l2 c2 o2 l2 c2 o2) (w : World) :
    Calls Tryd.prog 27 #[.string T0] w (ParRes w U l c o l2 c2 o2) := by
  go_enter Tryd.func27, Tryd.ntmps27
  go_wp2_with fail
  refine (H0.out _).mono ?_
  rintro e w1 ⟨rfl, hb1⟩
  have k2 := (Blk.newAt (w := w) (g := w.heap.size) (t := 63) (cs := #[.string ⟨#[]⟩, .int .i64 0, .int .i64 0, .int .i64 0, .int .i64 0, .int .i64 0, .int .i64 0]) rfl).kept hb1
  have hbl : Below w.heap.size w w1 := Below.trans (by go_grown) (hb1.mono (by simp))
  have K2 := hide k2
  have HB := hide hbl
  clear hb1 k2 hbl
  go_wp2_with fail
  refine calls_gen ?_
  intro W hW
  have q0 : PW w.heap.size w1.heap.size w W _ _ _ _ := ⟨K2.out.al1 hW, blk1_1 hW, K2.out.lt, by rw [hW]; exact HB.out.alloc (Nat.le_of_lt K2.out.lt) _⟩
  clear hW K2 HB
  refine (H1.out _).mono ?_
  rintro e wv0 ⟨rfl, hb1⟩
  have q1 := q0.kept hb1
  clear hb1 q0
  have f7 := q1.k7.three
  have Q1 := hide q1
  clear q1
  go_wp2_with fail
  refine calls_gen ?_
  intro W hW
  have q0 := Q1.out.put hW
  clear hW Q1 f7
  refine (HE.out _).mono ?_
  rintro e wv1 ⟨rfl, hb1⟩
  have q1 := q0.kept hb1
  clear hb1 q0
  have f7 := q1.k7.three
  have hne8 : ¬ wv1.heap.size = w1.heap.size := by have := q1.k7.lt; omega
  have hl8 : w1.heap.size < wv1.heap.size := q1.k7.lt
  have hne7 : ¬ w1.heap.size = wv1.heap.size := by have := q1.k7.lt; omega
  have hne6 : ¬ wv1.heap.size = w.heap.size := by have := q1.k7.lt; have := q1.lt; omega
  have HNE8 : Hid (∀ (_ : World), w1.heap.size < wv1.heap.size ∧ w.heap.size < wv1.heap.size) := hide (fun _ => by have := q1.k7.lt; have := q1.lt; omega)
  have Q1 := hide q1
  clear q1
  go_wp2_with fail
  refine calls_gen ?_
  intro W hW
  have q0 : PW w.heap.size w1.heap.size w W _ _ _ _ := ⟨Q1.out.k2.al1 hW, Q1.out.k7.al1 hW, Q1.out.lt, by rw [hW]; exact Q1.out.below.alloc (Nat.le_of_lt Q1.out.k2.lt) _⟩
  have K8_1 := hide (blk1_1 hW)
  clear hW Q1 f7
  refine (H2.out _).mono ?_
  rintro e wv2 ⟨rfl, hb1⟩
  have q1 := q0.kept hb1
  have K8_2 := hide (K8_1.out.kept hb1)
  clear K8_1
  clear hb1 q0
  have f7 := q1.k7.three
  have Q1 := hide q1
  clear q1
  go_wp2_with fail
  refine calls_gen ?_
  intro W hW
  have q0 := Q1.out.put hW
  have K8_3 := hide (show Blk W wv1.heap.size 49 _ by have hlt := HNE8.out w; rw [hW]; exact ((K8_2.out.far (by simp; omega) _).far (by simp; omega) _).far (by simp; omega) _)
  clear K8_2
  clear hW Q1 f7
  refine (H3.out _).mono ?_
  rintro e wv3 ⟨rfl, hb1⟩
  have q1 := q0.kept hb1
  have K8_4 := hide (K8_3.out.kept hb1)
  clear K8_3
  clear hb1 q0
  have f7 := q1.k7.three
  have f8 := K8_4.out.three
  have Q1 := hide q1
  clear q1
  go_wp2_with fail
  refine wp_gen ?_
  intro W hW
  have q0 := Q1.out.put hW
  have K8_5 := hide (show Blk W wv1.heap.size 49 _ by have hlt := HNE8.out w; rw [hW]; exact ((K8_4.out.far (by simp; omega) _).far (by simp; omega) _).far (by simp; omega) _)
  clear K8_4
  clear hW Q1 f7 f8
  have f7 := q0.k7.three
  have b1 := q0.k2
  have a1 := q0.k7.lt
  have a2 : ¬ w1.heap.size = w.heap.size := by have := q0.lt; omega
  have hbl := q0.below
  have a3 := b1.lt
  have f8 := K8_5.out.three
  have a8 := K8_5.out.lt
  clear q0
  go_region_held3 (fun w' => (∀ b o, b < W.heap.size → ¬ b = w.heap.size → w'.cell? ⟨b, o, none⟩ = W.cell? ⟨b, o, none⟩) ∧ W.heap.size ≤ w'.heap.size ∧ W.grownBy w' (some (w.heap.size)))
    (first
      | (go_split_ands; with_reducible (refine SX.set ?_ ?_ _; refine SX.set ?_ ?_ _; refine SX.set ?_ ?_ _; refine SX.set ?_ ?_ _; refine SX.set ?_ ?_ _; refine SX.set ?_ ?_ _; refine SX.set ?_ ?_ _; exact ⟨by assumption, by assumption, by assumption⟩; all_goals rfl))
      | (with_reducible exact SX.start)
      | (go_split_ands; (with_reducible refine SX.call ?_ hb); exact ⟨by assumption, by assumption, by assumption⟩))
    (first
      | (go_at_call 35; refine (HP.out _).mono ?_; rintro e w3 ⟨rfl, hb⟩; have kk := Blk.kept (g := w.heap.size) (by assumption) hb)
      | (go_at_call 44; refine (HN.out _).mono ?_; rintro e w3 ⟨rfl, hb⟩; have kk := Blk.kept (g := w.heap.size) (by assumption) hb; have k7 := kk.seven))
  go_wp2
  go_split_ands
  exact bodyPost_ret (v := .agg #[.string U, .int .i64 l, .int .i64 c, .int .i64 o, .int .i64 l2, .int .i64 c2, .int .i64 o2])
    (by simp [results, Tryd.results27, go_sem, *]) rfl ⟨rfl, hbl.trans (SX.below (g := w.heap.size) (by assumption) (Nat.le_refl _) (by omega))⟩
set_option maxHeartbeats 8000000 in
set_option maxRecDepth 100000 in
/-- uri:L:C#O-L2:C2#O2 -/
theorem parse_fs (T0 T1 T2 T3 T4 T5 U : ByteArray) (L C O L2 C2 O2 l c o l2 c2 o2 : Int) (H0 : StripTo T0 T1 35 O2) (H1 : StripTo T1 T2 58 C2) (H2 : StripTo T2 T3 45 L2) (H3 : StripTo T3 T4 35 O) (H4 : StripTo T4 T5 58 C) (H5 : StripTo T5 U 58 L) (HE : PtTo L2 C2 O2 l2 c2 o2) (HP : PtTo L C O l c o) (HN : NewTo U l c o l2 c2 o2 l2 c2 o2) (w : World) :
    Calls Tryd.prog 27 #[.string T0] w (ParRes w U l c o l2 c2 o2) := by
  go_enter Tryd.func27, Tryd.ntmps27
  go_wp2_with fail
  refine (H0.out _).mono ?_
  rintro e w1 ⟨rfl, hb1⟩
  have k2 := (Blk.newAt (w := w) (g := w.heap.size) (t := 63) (cs := #[.string ⟨#[]⟩, .int .i64 0, .int .i64 0, .int .i64 0, .int .i64 0, .int .i64 0, .int .i64 0]) rfl).kept hb1
  have hbl : Below w.heap.size w w1 := Below.trans (by go_grown) (hb1.mono (by simp))
  have K2 := hide k2
  have HB := hide hbl
  clear hb1 k2 hbl
  go_wp2_with fail
  refine calls_gen ?_
  intro W hW
  have q0 : PW w.heap.size w1.heap.size w W _ _ _ _ := ⟨K2.out.al1 hW, blk1_1 hW, K2.out.lt, by rw [hW]; exact HB.out.alloc (Nat.le_of_lt K2.out.lt) _⟩
  clear hW K2 HB
  refine (H1.out _).mono ?_
  rintro e wv0 ⟨rfl, hb1⟩
  have q1 := q0.kept hb1
  clear hb1 q0
  have f7 := q1.k7.three
  have Q1 := hide q1
  clear q1
  go_wp2_with fail
  refine calls_gen ?_
  intro W hW
  have q0 := Q1.out.put hW
  clear hW Q1 f7
  refine (H2.out _).mono ?_
  rintro e wv1 ⟨rfl, hb1⟩
  have q1 := q0.kept hb1
  clear hb1 q0
  have f7 := q1.k7.three
  have Q1 := hide q1
  clear q1
  go_wp2_with fail
  refine calls_gen ?_
  intro W hW
  have q0 := Q1.out.put hW
  clear hW Q1 f7
  refine (HE.out _).mono ?_
  rintro e wv2 ⟨rfl, hb1⟩
  have q1 := q0.kept hb1
  clear hb1 q0
  have f7 := q1.k7.three
  have hne8 : ¬ wv2.heap.size = w1.heap.size := by have := q1.k7.lt; omega
  have hl8 : w1.heap.size < wv2.heap.size := q1.k7.lt
  have hne7 : ¬ w1.heap.size = wv2.heap.size := by have := q1.k7.lt; omega
  have hne6 : ¬ wv2.heap.size = w.heap.size := by have := q1.k7.lt; have := q1.lt; omega
  have HNE8 : Hid (∀ (_ : World), w1.heap.size < wv2.heap.size ∧ w.heap.size < wv2.heap.size) := hide (fun _ => by have := q1.k7.lt; have := q1.lt; omega)
  have Q1 := hide q1
  clear q1
  go_wp2_with fail
  refine calls_gen ?_
  intro W hW
  have q0 : PW w.heap.size w1.heap.size w W _ _ _ _ := ⟨Q1.out.k2.al1 hW, Q1.out.k7.al1 hW, Q1.out.lt, by rw [hW]; exact Q1.out.below.alloc (Nat.le_of_lt Q1.out.k2.lt) _⟩
  have K8_1 := hide (blk1_1 hW)
  clear hW Q1 f7
  refine (H3.out _).mono ?_
  rintro e wv3 ⟨rfl, hb1⟩
  have q1 := q0.kept hb1
  have K8_2 := hide (K8_1.out.kept hb1)
  clear K8_1
  clear hb1 q0
  have f7 := q1.k7.three
  have Q1 := hide q1
  clear q1
  go_wp2_with fail
  refine calls_gen ?_
  intro W hW
  have q0 := Q1.out.put hW
  have K8_3 := hide (show Blk W wv2.heap.size 49 _ by have hlt := HNE8.out w; rw [hW]; exact ((K8_2.out.far (by simp; omega) _).far (by simp; omega) _).far (by simp; omega) _)
  clear K8_2
  clear hW Q1 f7
  refine (H4.out _).mono ?_
  rintro e wv4 ⟨rfl, hb1⟩
  have q1 := q0.kept hb1
  have K8_4 := hide (K8_3.out.kept hb1)
  clear K8_3
  clear hb1 q0
  have f7 := q1.k7.three
  have Q1 := hide q1
  clear q1
  go_wp2_with fail
  refine calls_gen ?_
  intro W hW
  have q0 := Q1.out.put hW
  have K8_5 := hide (show Blk W wv2.heap.size 49 _ by have hlt := HNE8.out w; rw [hW]; exact ((K8_4.out.far (by simp; omega) _).far (by simp; omega) _).far (by simp; omega) _)
  clear K8_4
  clear hW Q1 f7
  refine (H5.out _).mono ?_
  rintro e wv5 ⟨rfl, hb1⟩
  have q1 := q0.kept hb1
  have K8_6 := hide (K8_5.out.kept hb1)
  clear K8_5
  clear hb1 q0
  have f7 := q1.k7.three
  have f8 := K8_6.out.three
  have Q1 := hide q1
  clear q1
  go_wp2_with fail
  refine wp_gen ?_
  intro W hW
  have q0 := Q1.out.put hW
  have K8_7 := hide (show Blk W wv2.heap.size 49 _ by have hlt := HNE8.out w; rw [hW]; exact ((K8_6.out.far (by simp; omega) _).far (by simp; omega) _).far (by simp; omega) _)
  clear K8_6
  clear hW Q1 f7 f8
  have f7 := q0.k7.three
  have b1 := q0.k2
  have a1 := q0.k7.lt
  have a2 : ¬ w1.heap.size = w.heap.size := by have := q0.lt; omega
  have hbl := q0.below
  have a3 := b1.lt
  have f8 := K8_7.out.three
  have a8 := K8_7.out.lt
  clear q0
  go_region_held3 (fun w' => (∀ b o, b < W.heap.size → ¬ b = w.heap.size → w'.cell? ⟨b, o, none⟩ = W.cell? ⟨b, o, none⟩) ∧ W.heap.size ≤ w'.heap.size ∧ W.grownBy w' (some (w.heap.size)))
    (first
      | (go_split_ands; with_reducible (refine SX.set ?_ ?_ _; refine SX.set ?_ ?_ _; refine SX.set ?_ ?_ _; refine SX.set ?_ ?_ _; refine SX.set ?_ ?_ _; refine SX.set ?_ ?_ _; refine SX.set ?_ ?_ _; exact ⟨by assumption, by assumption, by assumption⟩; all_goals rfl))
      | (with_reducible exact SX.start)
      | (go_split_ands; (with_reducible refine SX.call ?_ hb); exact ⟨by assumption, by assumption, by assumption⟩))
    (first
      | (go_at_call 35; refine (HP.out _).mono ?_; rintro e w3 ⟨rfl, hb⟩; have kk := Blk.kept (g := w.heap.size) (by assumption) hb)
      | (go_at_call 44; refine (HN.out _).mono ?_; rintro e w3 ⟨rfl, hb⟩; have kk := Blk.kept (g := w.heap.size) (by assumption) hb; have k7 := kk.seven))
  go_wp2
  go_split_ands
  exact bodyPost_ret (v := .agg #[.string U, .int .i64 l, .int .i64 c, .int .i64 o, .int .i64 l2, .int .i64 c2, .int .i64 o2])
    (by simp [results, Tryd.results27, go_sem, *]) rfl ⟨rfl, hbl.trans (SX.below (g := w.heap.size) (by assumption) (Nat.le_refl _) (by omega))⟩
end Go.Proofs.YtckgdkjgllopmaaDoor
