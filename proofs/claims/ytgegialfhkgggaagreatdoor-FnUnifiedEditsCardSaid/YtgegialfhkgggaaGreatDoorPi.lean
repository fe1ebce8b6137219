/- Walks: prepareEdits, a Builder written, ApplyEdits, impl.Edits and impl.Apply, laws.works. No condition but sizes. -/
import Derived.Test.YtgegialfhkgggaaGreatDoorPh
import Derived.Test.YtgegialfhkgggaaGreatDoorPc
import Derived.Test.YtgegialfhkgggaaGreatDoorPa
import Derived.Test.YtgegialfhkgggaaGreatDoorPg
import Derived.Test.YtgegialfhkgggaaGreatDoorPd
import Derived.Shelf.Strings.Builder1
import Derived.Test.YtgegialfhkgggaaGreatDoorPl
import Derived.Test.YtgegialfhkgggaaGreatDoorShelf
set_option linter.unusedVariables false
set_option linter.unusedSimpArgs false
namespace Go.Proofs.YtgegialfhkgggaaGreatDoor
open Go.RowKit Stab
attribute [local go_sem ↓] Go.wp_at_zero Go.wp_at_succ

/-- The span of an edit as a value. -/
abbrev spV (e : Ed) : Value := .agg #[.string e.u, .int .i64 e.l, .int .i64 e.c, .int .i64 e.o, .int .i64 e.l2, .int .i64 e.c2, .int .i64 e.o2]
/-- An edit within a line, or behind the end. -/
def partE (n : Nat) (e : Ed) : Bool := decide ((n : Int) ≤ e.o) || (decide (1 < e.c) || decide (1 < e.c2))
/-- The first j rows of the copy (in the block behind wc) hold their edits. -/
def CopyRel (wc wr : World) (n : Nat) (g : Nat → Ed) (j : Nat) : Prop :=
  (∀ i, i < j → ∀ c, c < 8 → wr.cell? ⟨wc.heap.size, 0 + i * 8 + c, none⟩ = some ((edCells (g i)).getD c undef)) ∧ (∀ q, q < n * 8 → (wr.cell? ⟨wc.heap.size, q, none⟩).isSome = true ∧ wr.frozen? ⟨wc.heap.size, q, none⟩ = false) ∧
  Below wc.heap.size wc wr ∧ wc.heap.size < wr.heap.size
theorem CopyRel.below {wc wr w1 : World} {n : Nat} {g : Nat → Ed} {j : Nat} (h : CopyRel wc wr n g j) (hb : Below wr.heap.size wr w1) : CopyRel wc w1 n g j := by
  obtain ⟨h1, h2, h3, h4⟩ := h
  refine ⟨fun i hi c hc => kcell hb (h1 i hi c hc), fun q hq => ?_, h3.trans (hb.mono h3.size), Nat.lt_of_lt_of_le h4 hb.size⟩
  obtain ⟨x, hx⟩ := Option.isSome_iff_exists.1 (h2 q hq).1
  exact ⟨by rw [kcell hb hx]; rfl, kfrozen hb hx (h2 q hq).2⟩
theorem CopyRel.far {wc wr : World} {n : Nat} {g : Nat → Ed} {j : Nat} (h : CopyRel wc wr n g j) {k : Nat} (hk : wc.heap.size < k) (i : Nat) (u : Value) : CopyRel wc (wr.setCell ⟨k, i, none⟩ u) n g j := by
  obtain ⟨h1, h2, h3, h4⟩ := h
  have e : ∀ q, (wr.setCell ⟨k, i, none⟩ u).cell? ⟨wc.heap.size, q, none⟩ = wr.cell? ⟨wc.heap.size, q, none⟩ := fun q => World.cell?_setCell_other _ _ _ _ (by intro e; injection e with e; omega)
  refine ⟨fun i hi c hc => by rw [e]; exact h1 i hi c hc, fun q hq => ⟨by rw [e]; exact (h2 q hq).1, by rw [World.frozen?_setCell]; exact (h2 q hq).2⟩, h3.setCell (Nat.le_of_lt hk) _, by simpa [World.setCell] using h4⟩
theorem CopyRel.put {wc wr : World} {n : Nat} {g : Nat → Ed} {j : Nat} (h : CopyRel wc wr n g j) (hj : j < n) (e : Ed) (he : g j = e) : CopyRel wc (put8 wr wc.heap.size (0 + j * 8) e) n g (j + 1) := by
  obtain ⟨h1, h2, h3, h4⟩ := h
  rw [put8_eq]
  have some1 : ∀ c, c < (edCells e).length → (wr.cell? ⟨wc.heap.size, 0 + j * 8 + c, none⟩).isSome = true := fun c hc => (h2 _ (by rw [ed_len] at hc; omega)).1
  refine ⟨fun i hi c hc => ?_, fun q hq => ⟨?_, by rw [World.frozen?_setCells]; exact (h2 q hq).2⟩, ?_, ?_⟩
  · by_cases e1 : i = j
    · subst e1
      rw [cells_in some1 (by rw [ed_len]; exact hc), he]
    · rw [cells_out (by rw [ed_len]; omega)]
      exact h1 i (by omega) c hc
  · by_cases e1 : 0 + j * 8 ≤ q ∧ q < 0 + j * 8 + 8
    · obtain ⟨c, rfl⟩ : ∃ c, q = 0 + j * 8 + c := ⟨q - (0 + j * 8), by omega⟩
      rw [cells_in some1 (by rw [ed_len]; omega)]; rfl
    · rw [cells_out (by rw [ed_len]; omega)]; exact (h2 q hq).1
  · have : ∀ (vs : List Value) (p : Nat) (w : World), Below wc.heap.size wc w → Below wc.heap.size wc (w.setCells wc.heap.size p vs) := by
      intro vs
      induction vs with
      | nil => intro p w hb; exact hb
      | cons v r ih => intro p w hb; exact ih _ _ (hb.setCell (Nat.le_refl _) _)
    exact this _ _ _ h3
  · have : ∀ (vs : List Value) (p : Nat) (w : World), (w.setCells wc.heap.size p vs).heap.size = w.heap.size := by
      intro vs
      induction vs with
      | nil => intro p w; rfl
      | cons v r ih => intro p w; rw [World.setCells, ih]; simp [World.setCell]
    rw [this]; exact h4
theorem CopyRel.put' {wc wr : World} {n : Nat} {g : Nat → Ed} {j : Nat} (h : CopyRel wc wr n g j) (hj : j < n) (e : Ed) (he : g j = e) : CopyRel wc (put8 wr wc.heap.size (j * 8) e) n g (j + 1) := by
  have := h.put hj e he
  rw [Nat.zero_add] at this
  exact this
theorem CopyRel.room {wc wr : World} {n : Nat} {g : Nat → Ed} {j : Nat} (h : CopyRel wc wr n g j) (hj : j < n) : ∀ c, c < 8 → ∃ x, wr.cell? ⟨wc.heap.size, j * 8 + c, none⟩ = some x ∧ wr.frozen? ⟨wc.heap.size, j * 8 + c, none⟩ = false := by
  intro c hc
  obtain ⟨h1, h2⟩ := h.2.1 (j * 8 + c) (by omega)
  obtain ⟨x, hx⟩ := Option.isSome_iff_exists.1 h1
  exact ⟨x, hx, h2⟩
/-- At the start: a fresh row of n edits. -/
theorem copy_start {wc w1 : World} {n c : Nat} {z : Array Value} {g : Nat → Ed} (hown : w1.ownsRow wc.heap.size 89 8 (.slice (some ⟨wc.heap.size, 0, none⟩) n c) n (madeCells z (n * 8)).toList) (hg : wc.grownBy w1 none) : CopyRel wc w1 n g 0 := by
  have hlt : wc.heap.size < w1.heap.size := by
    rcases hown.2 with ⟨h, _⟩ | ⟨gg, cap, cur, hv, hge, hblk, _⟩
    · cases h
    · injection hv with hv1 hv2 hv3
      injection hv1 with hv1
      injection hv1 with hv1
      subst hv1
      exact Blk.lt (show Blk w1 wc.heap.size 89 cur from hblk)
  refine ⟨fun i hi => absurd hi (Nat.not_lt_zero _), fun q hq => ?_, grown_none hg, hlt⟩
  rcases hown.2 with ⟨h, _⟩ | ⟨gg, cap, cur, hv, hge, hblk, hc1, hc2, hc3, hc4⟩
  · cases h
  · injection hv with hv1 hv2 hv3
    injection hv1 with hv1
    injection hv1 with hv1
    subst hv1
    have hb : Blk w1 wc.heap.size 89 cur := hblk
    have : q < cur.size := by rw [hc3]; have := Nat.mul_le_mul_right 8 hc1; omega
    exact ⟨by rw [hb.cell, Array.getElem?_eq_getElem this]; rfl, hb.frozen q⟩

/-- What prepareEdits leaves. -/
def PrepRes (w : World) (s : ByteArray) (n : Nat) (g : Nat → Ed) (pt : Bool) (e : Ending) (w' : World) : Prop := ∃ p b t, e = .returned (.tuple #[.pointer (some ⟨p, 0, none⟩), .slice (some ⟨b, 0, none⟩) n n, .bool pt]) ∧
  Conv w' p s.size (stTo s s.size) ∧ Rw w' b 0 n g t ∧ Sorted (ltE g) t n ∧ w.heap.size ≤ b ∧ Below w.heap.size w w'
def partTo (n : Nat) (g : Nat → Ed) : Nat → Bool
  | 0 => false
  | j + 1 => partTo n g j || partE n (g j)

/-- Rows of edits, told by a function. -/
def RowsF (w : World) (A : Option Addr) (n : Nat) (f : Nat → Ed) : Prop := ∀ i j, i < n → j < 8 → ∃ b o, A = some ⟨b, o, none⟩ ∧ w.cell? ⟨b, o + i * 8 + j, none⟩ = some ((edCells (f i)).getD j undef)
theorem RowsF.kept {w w1 : World} {A : Option Addr} {n : Nat} {f : Nat → Ed} (h : RowsF w A n f) (hb : Below w.heap.size w w1) : RowsF w1 A n f := by
  intro i j hi hj
  obtain ⟨b, o, e, hc⟩ := h i j hi hj
  exact ⟨b, o, e, kcell hb hc⟩
/-- An edit of no text. -/
def ed0 : Ed := ⟨⟨#[]⟩, 0, 0, 0, 0, 0, 0, ⟨#[]⟩⟩
def edAt (es : List Ed) (i : Nat) : Ed := es[i]?.getD ed0
theorem edAt_get {es : List Ed} {i : Nat} (h : i < es.length) : edAt es i = es[i] := by unfold edAt; rw [List.getElem?_eq_getElem h]; rfl
theorem rowsF_of {w : World} {A : Option Addr} {es : List Ed} (h : RowsAt w A 8 (es.map edCells)) : RowsF w A es.length (edAt es) := by
  intro i j hi hj
  obtain ⟨b, o, e, hc⟩ := h i j (by simpa using hi) hj
  refine ⟨b, o, e, ?_⟩
  rw [Nat.add_assoc, hc, edAt_get hi]
  simp [List.getD_eq_getElem?_getD, List.getElem?_eq_getElem hi]

set_option maxHeartbeats 8000000 in
set_option maxRecDepth 100000 in
theorem prep_any (s : ByteArray) (n : Nat) (f g : Nat → Ed) (A : Option Addr) (c : Nat) (hs : s.size ≤ 2147483647) (hn : n ≤ 1000000) (w : World) (hA : RowsF w A n f)
    (hW : ∀ i, i < n → ∀ p W, Conv W p s.size (stTo s s.size) → Calls Tryz.prog 73 #[spV (f i), .iface 101 (.pointer (some ⟨p, 0, none⟩))] W fun e W' => e = .returned (.tuple #[spV (g i), .nilIface]) ∧ Below W.heap.size W W')
    (ht : ∀ i, i < n → (g i).t = (f i).t) (hp : ∀ i, i < n → 1 ≤ (g i).l ∧ 1 ≤ (g i).l2 ∧ 0 ≤ (g i).o) (hwk : Weak n (ltE g)) :
    Calls Tryz.prog 44 #[.string s, .slice A n c] w (PrepRes w s n g (partTo s.size g n)) := by
  obtain ⟨i0, hi0, hz0, hz1, hzb⟩ := info_parts info_te
  have hcv := fun W => run_bytes_of_string (P := Tryz.prog) W 9 105 5 s Tryz.underlying9 Tryz.underlying105 Tryz.underlying5
  have HA := hide hA
  have HWA := hide hW
  have HTx := hide ht
  have HPos := hide hp
  have HWk := hide hwk
  clear hA hW ht hp hwk
  go_enter Tryz.func44, Tryz.ntmps44
  go_wp2_with fail
  refine (newConv_any _ s _ _ hs _ (bytes_new _ _ _ _ _)).mono ?_
  rintro e wc ⟨p, rfl, hC, hb1⟩
  have hblc : Below w.heap.size w wc := Below.trans (by go_grown) (hb1.mono (by simp))
  have HC := hide hC
  clear hC hb1 hcv
  go_wp2_with (first
    | (refine wpList_make_full _ rfl _ _ 45 rfl wc.heap.size 89 i0 _ 8 Tryz.underlying45 hi0 hz0 hz1 .i64 .i64 _ _ n (by rfl) (by rfl) (by omega) (by omega) (by rw [hzb]; omega) (by unfold maxLen; omega) (Nat.le_refl _) ?_; intro w1 hown1 hg1))
  have hC0 : Hid (CopyRel wc w1 n g 0) := hide (copy_start hown1 hg1)
  clear hown1 hg1
  go_loopw [7, 20] (fun pv jv wr => ∃ j : Nat, jv = .int .i64 j ∧ pv = .bool (partTo s.size g j) ∧ j ≤ n ∧ Hid (CopyRel wc wr n g j)) (fun _ jv _ => n - (intOf jv).toNat)
  case atStart => exact ⟨0, rfl, rfl, Nat.zero_le _, hC0⟩
  case round =>
    obtain ⟨j, rfl, rfl, hj, hcr⟩ := hrel
    clear hC0
    by_cases hlt : j < n
    · have hrel := hcr.out
      have hblr := hblc.trans (hrel.2.2.1.mono hblc.size)
      have hrows := HA.out.kept hblr
      obtain ⟨b, o, rfl, h0⟩ := hrows j 0 hlt (by omega)
      have hc : ∀ i, i < 8 → wr.cell? ⟨b, o + j * 8 + i, none⟩ = some ((edCells (f j)).getD i undef) := by
        intro i hi
        obtain ⟨b', o', e, h⟩ := hrows j i hlt hi
        injection e with e
        injection e with e1 e2
        subst e1; subst e2
        exact h
      have HW := hide (HWA.out j hlt p)
      have HT := HTx.out j hlt
      have HP := HPos.out j hlt
      have hCv := hide (HC.out.kept hrel.2.2.1)
      have HRel := hide hrel
      have hwcl := hrel.2.2.2
      have hwl := hrel.2.2.1.size
      obtain ⟨pj, hpj⟩ : ∃ pj, partTo s.size g j = pj := ⟨_, rfl⟩
      have hpj1 : partTo s.size g (j + 1) = (pj || partE s.size (g j)) := by rw [partTo, hpj]
      obtain ⟨e2, he2⟩ : ∃ e2, g j = e2 := ⟨_, rfl⟩
      rw [he2] at HW HT HP hpj1
      generalize f j = e1 at *
      obtain ⟨u, l, cc, oo, l2, c3, o2, t⟩ := e1
      obtain ⟨u', l', cc', oo', l2', c3', o2', t'⟩ := e2
      dsimp only at HT HP
      subst HT
      have d0 := hc 0 (by omega)
      have d1 := hc 1 (by omega)
      have d2 := hc 2 (by omega)
      have d3 := hc 3 (by omega)
      have d4 := hc 4 (by omega)
      have d5 := hc 5 (by omega)
      have d6 := hc 6 (by omega)
      have d7 := hc 7 (by omega)
      simp only [edCells, List.getD_cons_zero, List.getD_cons_succ, Nat.add_zero] at d0 d1 d2 d3 d4 d5 d6 d7
      have jn : (j : Int) < (n : Int) := by omega
      have HE := hide he2
      have HPj := hide hpj1
      rw [hpj]
      clear hc h0 hrows hrel hcr he2 hpj hpj1
      unfold partE at HPj
      dsimp only [spV] at HW HPj
      go_wp2_with fail
      refine (HW.out _ (hCv.out.kept (by go_grown))).mono ?_
      rintro en w2 ⟨rfl, hb2⟩
      have k8 : Blk w2 wr.heap.size 89 #[.string u, .int .i64 l, .int .i64 cc, .int .i64 oo, .int .i64 l2, .int .i64 c3, .int .i64 o2, .string t'] := (Blk.new _ _ _).kept hb2
      have HR2 := hide ((HRel.out.below (w1 := wr.alloc (.cells #[.string u, .int .i64 l, .int .i64 cc, .int .i64 oo, .int .i64 l2, .int .i64 c3, .int .i64 o2, .string t'] 89)) (by go_grown)).below hb2)
      have hz2 : wr.heap.size < w2.heap.size := k8.lt
      obtain ⟨y0, m0, z0⟩ := HR2.out.room hlt 0 (by omega)
      obtain ⟨y1, m1, z1⟩ := HR2.out.room hlt 1 (by omega)
      obtain ⟨y2, m2, z2⟩ := HR2.out.room hlt 2 (by omega)
      obtain ⟨y3, m3, z3⟩ := HR2.out.room hlt 3 (by omega)
      obtain ⟨y4, m4, z4⟩ := HR2.out.room hlt 4 (by omega)
      obtain ⟨y5, m5, z5⟩ := HR2.out.room hlt 5 (by omega)
      obtain ⟨y6, m6, z6⟩ := HR2.out.room hlt 6 (by omega)
      obtain ⟨y7, m7, z7⟩ := HR2.out.room hlt 7 (by omega)
      rw [Nat.add_zero] at m0 z0
      have f8 := k8.eight
      have fr0 := k8.frozen 0
      have fr1 := k8.frozen 1
      have fr2 := k8.frozen 2
      have fr3 := k8.frozen 3
      have fr4 := k8.frozen 4
      have fr5 := k8.frozen 5
      have fr6 := k8.frozen 6
      have fr7 := k8.frozen 7
      have hne : ¬ wc.heap.size = wr.heap.size := by omega
      have hne' : ¬ wr.heap.size = wc.heap.size := by omega
      have K8 := hide k8
      clear k8 hb2 d0 d1 d2 d3 d4 d5 d6 d7 HW
      go_upto_region 9 with fail
      refine wp_gen ?_
      intro W hW'
      have kW : Blk W wr.heap.size 89 #[.string u', .int .i64 l', .int .i64 cc', .int .i64 oo', .int .i64 l2', .int .i64 c3', .int .i64 o2', .string t'] := by
        rw [hW']
        refine Blk.far (Blk.far (Blk.far (Blk.far (Blk.far (Blk.far (Blk.far (Blk.far ?_ hne' _) hne' _) hne' _) hne' _) hne' _) hne' _) hne' _) hne' _
        have h0 : Blk _ wr.heap.size 89 #[.string u', .int .i64 l, .int .i64 cc, .int .i64 oo, .int .i64 l2, .int .i64 c3, .int .i64 o2, .string t'] := K8.out.set_ 0 (.string u')
        have h1 : Blk _ wr.heap.size 89 #[.string u', .int .i64 l', .int .i64 cc, .int .i64 oo, .int .i64 l2, .int .i64 c3, .int .i64 o2, .string t'] := h0.set_ 1 (.int .i64 l')
        have h2 : Blk _ wr.heap.size 89 #[.string u', .int .i64 l', .int .i64 cc', .int .i64 oo, .int .i64 l2, .int .i64 c3, .int .i64 o2, .string t'] := h1.set_ 2 (.int .i64 cc')
        have h3 : Blk _ wr.heap.size 89 #[.string u', .int .i64 l', .int .i64 cc', .int .i64 oo', .int .i64 l2, .int .i64 c3, .int .i64 o2, .string t'] := h2.set_ 3 (.int .i64 oo')
        have h4 : Blk _ wr.heap.size 89 #[.string u', .int .i64 l', .int .i64 cc', .int .i64 oo', .int .i64 l2', .int .i64 c3, .int .i64 o2, .string t'] := h3.set_ 4 (.int .i64 l2')
        have h5 : Blk _ wr.heap.size 89 #[.string u', .int .i64 l', .int .i64 cc', .int .i64 oo', .int .i64 l2', .int .i64 c3', .int .i64 o2, .string t'] := h4.set_ 5 (.int .i64 c3')
        exact h5.set_ 6 (.int .i64 o2')
      have hR : Hid (CopyRel wc W n g (j + 1)) := hide (by
        rw [hW']
        exact CopyRel.put' (((((((HR2.out.far hwcl 0 _).far hwcl 1 _).far hwcl 2 _).far hwcl 3 _).far hwcl 4 _).far hwcl 5 _).far hwcl 6 _) hlt ⟨u', l', cc', oo', l2', c3', o2', t'⟩ HE.out)
      clear hW' m0 m1 m2 m3 m4 m5 m6 m7 z0 z1 z2 z3 z4 z5 z6 z7 fr0 fr1 fr2 fr3 fr4 fr5 fr6 fr7 f8 K8 HR2 HRel
      have f8 := kW.eight
      obtain ⟨P1, P2, P3⟩ := HP
      have P1' : 0 < l' := by omega
      have P2' : 0 < l2' := by omega
      clear P1 P2
      by_cases q0 : pj = true
      · subst q0
        go_wp2_with (first
            | (go_at_call 38; refine (start_any _ _ _ _ _ _ _ _).mono ?_; rintro en w3 ⟨rfl, hb⟩; have kW := kW.kept hb; have f8 := kW.eight; have hR := hide (hR.out.below hb); clear hb)
            | (go_at_call 39; refine (end_any _ _ _ _ _ _ _ _).mono ?_; rintro en w3 ⟨rfl, hb⟩; have kW := kW.kept hb; have f8 := kW.eight; have hR := hide (hR.out.below hb); clear hb)
            | (go_at_call 45; refine (pOffset_any _ _ _ (by assumption) _).mono ?_; rintro en w3 ⟨rfl, hb⟩; have kW := kW.kept hb; have f8 := kW.eight; have hR := hide (hR.out.below hb); clear hb)
            | (go_at_call 64; refine (pColumn_any _ _ _ (by assumption) _).mono ?_; rintro en w3 ⟨rfl, hb⟩; have kW := kW.kept hb; have f8 := kW.eight; have hR := hide (hR.out.below hb); clear hb))
        go_roundw
        case rel => exact ⟨j + 1, by go_num, by rw [HPj.out]; rfl, by omega, hR⟩
        case measure => simp [intOf]; omega
      · have q0' : pj = false := by simpa using q0
        subst q0'
        clear q0
        by_cases q1 : (s.size : Int) ≤ oo'
        · have q1' : decide ((s.size : Int) ≤ oo') = true := by simpa using q1
          go_wp2_with (first
              | (go_at_call 38; refine (start_any _ _ _ _ _ _ _ _).mono ?_; rintro en w3 ⟨rfl, hb⟩; have kW := kW.kept hb; have f8 := kW.eight; have hR := hide (hR.out.below hb); clear hb)
              | (go_at_call 39; refine (end_any _ _ _ _ _ _ _ _).mono ?_; rintro en w3 ⟨rfl, hb⟩; have kW := kW.kept hb; have f8 := kW.eight; have hR := hide (hR.out.below hb); clear hb)
              | (go_at_call 45; refine (pOffset_any _ _ _ (by assumption) _).mono ?_; rintro en w3 ⟨rfl, hb⟩; have kW := kW.kept hb; have f8 := kW.eight; have hR := hide (hR.out.below hb); clear hb)
              | (go_at_call 64; refine (pColumn_any _ _ _ (by assumption) _).mono ?_; rintro en w3 ⟨rfl, hb⟩; have kW := kW.kept hb; have f8 := kW.eight; have hR := hide (hR.out.below hb); clear hb))
          go_roundw
          case rel => exact ⟨j + 1, by go_num, by rw [HPj.out]; rw [q1']; rfl, by omega, hR⟩
          case measure => simp [intOf]; omega
        · have q1' : decide ((s.size : Int) ≤ oo') = false := by simpa using q1
          by_cases q2 : 1 < cc'
          · have q2' : decide (1 < cc') = true := by simpa using q2
            go_wp2_with (first
                | (go_at_call 38; refine (start_any _ _ _ _ _ _ _ _).mono ?_; rintro en w3 ⟨rfl, hb⟩; have kW := kW.kept hb; have f8 := kW.eight; have hR := hide (hR.out.below hb); clear hb)
                | (go_at_call 39; refine (end_any _ _ _ _ _ _ _ _).mono ?_; rintro en w3 ⟨rfl, hb⟩; have kW := kW.kept hb; have f8 := kW.eight; have hR := hide (hR.out.below hb); clear hb)
                | (go_at_call 45; refine (pOffset_any _ _ _ (by assumption) _).mono ?_; rintro en w3 ⟨rfl, hb⟩; have kW := kW.kept hb; have f8 := kW.eight; have hR := hide (hR.out.below hb); clear hb)
                | (go_at_call 64; refine (pColumn_any _ _ _ (by assumption) _).mono ?_; rintro en w3 ⟨rfl, hb⟩; have kW := kW.kept hb; have f8 := kW.eight; have hR := hide (hR.out.below hb); clear hb))
            go_roundw
            case rel => exact ⟨j + 1, by go_num, by rw [HPj.out]; rw [q1', q2']; rfl, by omega, hR⟩
            case measure => simp [intOf]; omega
          · have q2' : decide (1 < cc') = false := by simpa using q2
            by_cases q3 : 1 < c3'
            · have q3' : decide (1 < c3') = true := by simpa using q3
              go_wp2_with (first
                  | (go_at_call 38; refine (start_any _ _ _ _ _ _ _ _).mono ?_; rintro en w3 ⟨rfl, hb⟩; have kW := kW.kept hb; have f8 := kW.eight; have hR := hide (hR.out.below hb); clear hb)
                  | (go_at_call 39; refine (end_any _ _ _ _ _ _ _ _).mono ?_; rintro en w3 ⟨rfl, hb⟩; have kW := kW.kept hb; have f8 := kW.eight; have hR := hide (hR.out.below hb); clear hb)
                  | (go_at_call 45; refine (pOffset_any _ _ _ (by assumption) _).mono ?_; rintro en w3 ⟨rfl, hb⟩; have kW := kW.kept hb; have f8 := kW.eight; have hR := hide (hR.out.below hb); clear hb)
                  | (go_at_call 64; refine (pColumn_any _ _ _ (by assumption) _).mono ?_; rintro en w3 ⟨rfl, hb⟩; have kW := kW.kept hb; have f8 := kW.eight; have hR := hide (hR.out.below hb); clear hb))
              go_roundw
              case rel => exact ⟨j + 1, by go_num, by rw [HPj.out]; rw [q1', q2', q3']; rfl, by omega, hR⟩
              case measure => simp [intOf]; omega
            · have q3' : decide (1 < c3') = false := by simpa using q3
              go_wp2_with (first
                  | (go_at_call 38; refine (start_any _ _ _ _ _ _ _ _).mono ?_; rintro en w3 ⟨rfl, hb⟩; have kW := kW.kept hb; have f8 := kW.eight; have hR := hide (hR.out.below hb); clear hb)
                  | (go_at_call 39; refine (end_any _ _ _ _ _ _ _ _).mono ?_; rintro en w3 ⟨rfl, hb⟩; have kW := kW.kept hb; have f8 := kW.eight; have hR := hide (hR.out.below hb); clear hb)
                  | (go_at_call 45; refine (pOffset_any _ _ _ (by assumption) _).mono ?_; rintro en w3 ⟨rfl, hb⟩; have kW := kW.kept hb; have f8 := kW.eight; have hR := hide (hR.out.below hb); clear hb)
                  | (go_at_call 64; refine (pColumn_any _ _ _ (by assumption) _).mono ?_; rintro en w3 ⟨rfl, hb⟩; have kW := kW.kept hb; have f8 := kW.eight; have hR := hide (hR.out.below hb); clear hb))
              go_roundw
              case rel => exact ⟨j + 1, by go_num, by rw [HPj.out]; rw [q1', q2', q3']; rfl, by omega, hR⟩
              case measure => simp [intOf]; omega
    · have : j = n := by omega
      subst this
      have hrel := hcr.out
      have hRw : Rw wr wc.heap.size 0 j g (fun k => k) := fun i hi c hc => ⟨hrel.1 i hi c hc, by rw [show 0 + i * 8 + c = i * 8 + c by omega]; exact (hrel.2.1 (i * 8 + c) (by omega)).2⟩
      have HRel := hide hrel
      clear hcr hrel
      go_wp2_with fail
      refine (sort_any g wc.heap.size 0 j j hn HWk.out _ hRw).mono ?_
      rintro en w3 ⟨t, ⟨rfl, hr3, hg3⟩, hst⟩
      have hB : Below wc.heap.size wr w3 := SX.below hg3 (Nat.le_refl _) (Nat.le_of_lt HRel.out.2.2.2)
      have hB2 : Below wc.heap.size wc w3 := HRel.out.2.2.1.trans hB
      have hfin : Hid (PrepRes w s j g (partTo s.size g j) (.returned (.tuple #[.pointer (some ⟨p, 0, none⟩), .slice (some ⟨wc.heap.size, 0, none⟩) j j, .bool (partTo s.size g j)])) w3) :=
        hide ⟨p, wc.heap.size, t, rfl, HC.out.kept hB2, hr3, hst, hblc.size, hblc.trans (hB2.mono hblc.size)⟩
      clear hRw hr3 hg3 hst hB hB2
      go_wp2
      go_ret3
      exact hfin.out
end Go.Proofs.YtgegialfhkgggaaGreatDoor
namespace Go.Proofs.YtgegialfhkgggaaGreatDoor
open Go.RowKit
attribute [local go_sem ↓] Go.wp_at_zero Go.wp_at_succ

/-- Blocks that are no rows of bytes, and not b, stand as they stood. -/
def KeptB (b : Nat) (w w' : World) : Prop := w.heap.size ≤ w'.heap.size ∧ ∀ k t cs, t ≠ 5 → k ≠ b → Blk w k t cs → Blk w' k t cs
theorem KeptB.trans {b : Nat} {w w1 w2 : World} (h : KeptB b w w1) (h2 : KeptB b w1 w2) : KeptB b w w2 := ⟨Nat.le_trans h.1 h2.1, fun k t cs a1 a2 a3 => h2.2 k t cs a1 a2 (h.2 k t cs a1 a2 a3)⟩
theorem KeptB.below {b : Nat} {w w1 : World} (h : Below w.heap.size w w1) : KeptB b w w1 := ⟨h.size, fun _ _ _ _ _ hb => hb.kept h⟩
/-- A builder that the call has made. -/
abbrev BldAt (B b : Nat) (p : Value) (bs : List Value) (w : World) : Prop := Lib.BuilderAt 107 5 B b p bs w
abbrev IsBld (B b : Nat) (bs : List Value) (w : World) : Prop := Lib.IsBuilder 107 5 B b bs w
/-- What a write leaves. -/
def WrRes (B b : Nat) (bs : List Value) (w w' : World) : Prop := BldAt B b (.pointer (some ⟨b, 0, none⟩)) bs w' ∧ Below B w w' ∧ KeptB b w w'

theorem sizeBld : (Tryz.prog.info? 107).map (fun j => j.size) = some 2 := by kernel_rfl
theorem info_byte : (Tryz.prog.info? 5).map (fun i => (i.zero, i.size, i.bytes)) = some (some (.int .u8 0), 1, 1) := by kernel_rfl

set_option maxHeartbeats 1000000 in
set_option maxRecDepth 100000 in
theorem copyCheck_used (b : Nat) (w : World) (h0 : w.cell? ⟨b, 0, none⟩ = some (.pointer (some ⟨b, 0, none⟩))) :
    Calls Tryz.prog 77 #[.pointer (some ⟨b, 0, none⟩)] w fun e w' => e = .returned (.tuple #[]) ∧ w' = w := by
  obtain ⟨j, hj, _⟩ := Option.map_eq_some_iff.1 sizeBld
  go_enter Tryz.func77, Tryz.ntmps77
  go_wp2
  rw [Lib.run_neq_ptr_same w _ Tryz.underlying104 hj]
  go_wp2
  go_end0
  exact ⟨rfl, rfl⟩

set_option maxHeartbeats 1000000 in
set_option maxRecDepth 100000 in
theorem copyCheck_fresh (b : Nat) (w : World) (h0 : w.cell? ⟨b, 0, none⟩ = some (.pointer none)) (hsh : w.shape? b = some (107, 2)) (hfz : w.frozen? ⟨b, 0, none⟩ = false) :
    Calls Tryz.prog 77 #[.pointer (some ⟨b, 0, none⟩)] w fun e w' => e = .returned (.tuple #[]) ∧ w' = w.setCell ⟨b, 0, none⟩ (.pointer (some ⟨b, 0, none⟩)) := by
  obtain ⟨j, hj, hjs⟩ := Option.map_eq_some_iff.1 sizeBld
  go_enter Tryz.func77, Tryz.ntmps77
  go_wp2
  rw [Lib.run_to_unsafe w ⟨b, 0, none⟩ Tryz.underlying104 Tryz.underlying151 hj (by rw [hjs]; decide) hsh (Nat.zero_lt_succ 1)]
  simp only [Result.andThen]
  rw [Oper.upon_value]
  go_wp2
  rw [run_callFunc_extern Tryz.func96 (by kernel_rfl) (by kernel_rfl) (by kernel_rfl) (e := Extern.AbiNoEscape.same) (by kernel_rfl)]
  rw [Lib.run_noEscape]
  simp only [Result.andThen]
  rw [Oper.upon_value]
  go_wp2
  rw [Lib.run_from_unsafe w ⟨b, 0, none⟩ Tryz.underlying151 Tryz.underlying104 hj hsh (by kernel_rfl)]
  simp only [Result.andThen]
  rw [Oper.upon_value]
  go_wp2
  go_end0
  exact ⟨rfl, rfl⟩
theorem keptB_set {b : Nat} (w : World) (i : Nat) (u : Value) : KeptB b w (w.setCell ⟨b, i, none⟩ u) :=
  ⟨by simp [World.setCell], fun _ _ _ _ hk h => h.far hk u⟩
theorem copyCheck_any (B b : Nat) (bs : List Value) (w : World) (h : IsBld B b bs w) :
    Calls Tryz.prog 77 #[.pointer (some ⟨b, 0, none⟩)] w fun e w' => e = .returned (.tuple #[]) ∧ WrRes B b bs w w' := by
  rcases h with h | h
  · refine (copyCheck_fresh b w h.cell0 h.shape h.frozen0).mono ?_
    rintro e w' ⟨rfl, rfl⟩
    exact ⟨rfl, h.used _, (Below.refl B w).setCell (p := ⟨b, 0, none⟩) h.1 _, keptB_set w 0 _⟩
  · refine (copyCheck_used b w h.cell0).mono ?_
    rintro e w' ⟨rfl, rfl⟩
    exact ⟨rfl, h, Below.refl B _, Nat.le_refl _, fun _ _ _ _ _ h => h⟩

set_option maxHeartbeats 2000000 in
set_option maxRecDepth 100000 in
theorem writeString_any (B b : Nat) (bs : List Value) (s : ByteArray) (w : World) (h : IsBld B b bs w) (hlen : bs.length + s.size ≤ 140737488355328) (hBw : B ≤ w.heap.size) :
    Calls Tryz.prog 46 #[.pointer (some ⟨b, 0, none⟩), .string s] w fun e w' => e = .returned (.tuple #[.int .i64 s.size, .nilIface]) ∧ WrRes B b (bs ++ Lib.strCells s) w w' := by
  obtain ⟨i0, hi, hz0, hz1, hz2⟩ := info_parts info_byte
  go_enter Tryz.func46, Tryz.ntmps46
  go_wp2_with fail
  refine (copyCheck_any B b bs _ h).mono ?_
  rintro e w1 ⟨rfl, h1, hb1, hk1⟩
  obtain ⟨hB, v, hbk, hown, hne⟩ := h1
  have c0 : w1.cell? ⟨b, 0, none⟩ = some (.pointer (some ⟨b, 0, none⟩)) := by rw [Lib.cell_of_heap hbk]; rfl
  have c1 : w1.cell? ⟨b, 1, none⟩ = some v := by rw [Lib.cell_of_heap hbk]; rfl
  have HBk := hide hbk
  have HK := hide hk1
  clear h hbk hk1
  go_wp2_with (at_builtin; refine Lib.wpList_append_own_string _ rfl _ _ 105 9 rfl B 5 i0 Tryz.underlying105 Tryz.underlying9 hi hz0 hz1 hz2 _ _ _ rfl hown s rfl ?c3 ?c4 ?c5 ?_)
  case c3 => unfold maxLen; omega
  case c4 => omega
  case c5 => have := hb1.size; omega
  intro v' w2 hown' hgrow _
  have hbk := HBk.out
  have hlt : b < w1.heap.size := Blk.lt (show Blk w1 b 107 _ from hbk)
  have hb2 : w2.heap[b]? = some (.cells #[.pointer (some ⟨b, 0, none⟩), v] 107 (0, 0)) := by
    rw [hgrow.block b hlt (fun e => hne e.symm)]
    exact hbk
  have hk2 : KeptB b w1 w2 := ⟨hgrow.size, fun k t cs ht hkb hc => hc.grown hgrow (fun e => by
    rcases hown.2 with ⟨rfl, _⟩ | ⟨g, cap, cur, rfl, _, hg, _⟩
    · simp [Value.ownBlock] at e
    · simp [Value.ownBlock] at e
      subst e
      unfold Blk at hc
      rw [hg] at hc
      injection hc with hc
      injection hc with _ hc
      exact ht hc.symm)⟩
  have HK2 := hide hk2
  have d0 : w2.cell? ⟨b, 0, none⟩ = some (.pointer (some ⟨b, 0, none⟩)) := by rw [Lib.cell_of_heap hb2]; rfl
  have d1 : w2.cell? ⟨b, 1, none⟩ = some v := by rw [Lib.cell_of_heap hb2]; rfl
  have f1 : w2.frozen? ⟨b, 1, none⟩ = false := Lib.frozen_of_heap hb2 1
  have HB2 := hide hb2
  clear hb2 hbk hk2
  obtain ⟨ao, n', cap, rfl⟩ : ∃ ao n' cap, v' = .slice ao n' cap := by
    rcases hown'.2 with ⟨hv, _⟩ | ⟨g, cap, cur, hv, _⟩
    · exact ⟨_, _, _, hv⟩
    · exact ⟨_, _, _, hv⟩
  go_wp2
  go_ret2
  refine ⟨rfl, ?_, ?_, ?_⟩
  · exact Lib.BuilderAt.put (T := 107) (e := 5) hB HB2.out (bs' := bs ++ Lib.strCells s) (by simpa [Lib.strCells_length] using hown') (by decide)
  · exact (hb1.grown hgrow (by have := hb1.size; omega) (fun k hk => (hown.lt k hk).1)).setCell (p := ⟨b, 1, none⟩) hB _
  · exact (HK.out.trans HK2.out).trans (keptB_set w2 1 _)
end Go.Proofs.YtgegialfhkgggaaGreatDoor
namespace Go.Proofs.YtgegialfhkgggaaGreatDoor
open Go.RowKit Go.Proofs.YtgegialfhkgggaaGreatDoor.Lines Mye
attribute [local go_sem ↓] Go.wp_at_zero Go.wp_at_succ

theorem full_count : ∀ {x : List UInt8}, full x → x.count 10 = 1 ∧ x.getLast? = some 10
  | [], h => by simp [full, nlAt] at h
  | b :: t, h => by
    unfold full at h
    rw [nlAt] at h
    by_cases e : b = 10
    · rw [if_pos e] at h
      have : t = [] := List.length_eq_zero_iff.1 (by rw [List.length_cons] at h; omega)
      subst this; subst e; simp
    · rw [if_neg e] at h
      have hf : full t := by unfold full; rw [List.length_cons] at h; omega
      obtain ⟨h1, h2⟩ := full_count hf
      refine ⟨by rw [List.count_cons, h1]; simp [e], ?_⟩
      cases t with
      | nil => simp at h2
      | cons c r => rw [List.getLast?_cons_cons]; exact h2
theorem good_full : ∀ {A : List (List UInt8)}, Lines.Good A → ∀ i (h : i + 1 < A.length), full (A[i]'(by omega))
  | [], _, i, h => absurd h (by simp)
  | [x], _, i, h => absurd h (by simp)
  | x :: y :: r, hg, 0, h => hg.1
  | x :: y :: r, hg, i + 1, h => good_full hg.2 i (by simpa using h)
theorem good_count {A : List (List UInt8)} (h : Lines.Good A) : ∀ i, i < A.length → (A.take i).flatten.count 10 = i := by
  intro i
  induction i with
  | zero => intro _; simp
  | succ i ih =>
    intro hi
    rw [List.take_succ_eq_append_getElem (by omega), List.flatten_append, List.count_append, ih (by omega)]
    simp [(full_count (good_full h i hi)).1]
theorem good_last {A : List (List UInt8)} (h : Lines.Good A) (i : Nat) (hi : i + 1 < A.length) : (A.take (i + 1)).flatten.getLast? = some 10 := by
  have hf := full_count (good_full h i hi)
  rw [List.take_succ_eq_append_getElem (by omega), List.flatten_append]
  simp [List.getLast?_append, hf.2]
theorem off_lt {A : List (List UInt8)} (h : ∀ x ∈ A, x ≠ []) {i j : Nat} (hij : i < j) (hj : j ≤ A.length) : off A i < off A j := by
  have h1 := off_mono A (i + 1) j (by omega)
  have h2 := off_succ A i (by omega)
  have h3 : A[i].length ≠ 0 := fun e => h _ (List.getElem_mem _) (List.length_eq_zero_iff.1 e)
  omega

section
variable (s : ByteArray)
/-- The lines of a text, as lists. -/
abbrev lnL : List (List UInt8) := linesL s.data.toList
theorem off_size : off (lnL s) (lnL s).length = s.size := by rw [off_all, linesL_flat, size_list]
theorem off_le (i : Nat) (hi : i ≤ (lnL s).length) : off (lnL s) i ≤ s.size := by rw [← off_size]; exact off_mono _ _ _ hi
theorem nlTo_off (i : Nat) (hi : i < (lnL s).length) : nlTo s (off (lnL s) i) = i := by
  unfold nlTo
  have h := take_off (lnL s) i
  rw [linesL_flat] at h
  rw [h]
  exact good_count (lines_good _) i hi
theorem lastNl_off (i : Nat) (hi : i < (lnL s).length) : lastNl s (off (lnL s) i) = (off (lnL s) i : Int) - 1 := by
  cases i with
  | zero => rfl
  | succ i =>
    have h := take_off (lnL s) (i + 1)
    rw [linesL_flat] at h
    have hl := good_last (lines_good s.data.toList) i hi
    have hpos : off (lnL s) 0 < off (lnL s) (i + 1) := off_lt (linesL_mem s.data.toList) (show 0 < i + 1 by omega) (Nat.le_of_lt hi)
    rw [off_zero] at hpos
    obtain ⟨m, hm⟩ : ∃ m, off (lnL s) (i + 1) = m + 1 := ⟨off (lnL s) (i + 1) - 1, by omega⟩
    rw [hm] at h ⊢
    rw [lastNl]
    have : bt s m = 10 := by
      have hle := off_le s (i + 1) (Nat.le_of_lt hi)
      have hlt : m < s.data.toList.length := by rw [size_list]; omega
      rw [← h] at hl
      rw [List.getLast?_eq_getElem?, List.length_take, Nat.min_eq_left (by omega)] at hl
      rw [List.getElem?_take_of_lt (by omega)] at hl
      unfold bt
      rw [List.getD_eq_getElem?_getD]
      simp only [Nat.add_sub_cancel] at hl
      rw [hl]; rfl
    rw [if_pos this]; omega
theorem stTo_off (i : Nat) (hi : i < (lnL s).length) : (stTo s s.size).getD i 0 = off (lnL s) i := by
  have hlt : off (lnL s) i < s.size := by rw [← off_size]; exact off_lt (linesL_mem s.data.toList) hi (Nat.le_refl _)
  have h := start_at s (off (lnL s) i) s.size hlt (Nat.le_refl _)
  rw [nlTo_off s i hi, lastNl_off s i hi] at h
  rw [h]; omega
theorem lnL_len : (lnL s).length = (stTo s s.size).length := by
  rw [← linesB_length]; unfold linesB; rw [List.length_map]
theorem toOffset_line (hs : s.size ≤ 2147483647) (i : Nat) (hi : i ≤ (lnL s).length) (p : Nat) (W : World) (hC : Conv W p s.size (stTo s s.size)) :
    Calls Tryz.prog 142 #[.pointer (some ⟨p, 0, none⟩), .int .i64 ((i : Int) + 1), .int .i64 1] W (OffRes W (off (lnL s) i)) := by
  have hL := stTo_len s s.size
  by_cases hlt : i < (lnL s).length
  · have ho := stTo_off s i hlt
    have hle := off_le s i hi
    have hlen := lnL_len s
    have h := toOffset_in p s.size (stTo s s.size) i 1 W hC (by omega) (by omega) hs (by rw [ho]; omega) (by omega) (by omega) (by rw [ho]; omega) (by rw [ho]; omega)
    rw [ho, show (off (lnL s) i : Int) + 1 - 1 = off (lnL s) i by omega] at h
    exact h
  · have he : i = (lnL s).length := by omega
    have h := toOffset_end p s.size (stTo s s.size) 1 W hC (by omega) (by omega)
    rw [he, off_size, lnL_len]
    exact h
end

theorem withAll_line (u s : ByteArray) (hs : s.size ≤ 2147483647) (i i2 : Nat) (hi : i ≤ i2) (hi2 : i2 ≤ (lnL s).length) (p : Nat) (W : World) (hC : Conv W p s.size (stTo s s.size)) :
    Calls Tryz.prog 73 #[.agg #[.string u, .int .i64 ((i : Int) + 1), .int .i64 1, .int .i64 (co1 i), .int .i64 ((i2 : Int) + 1), .int .i64 1, .int .i64 (co1 i2)], .iface 101 (.pointer (some ⟨p, 0, none⟩))] W fun e W' =>
      e = .returned (.tuple #[.agg #[.string u, .int .i64 ((i : Int) + 1), .int .i64 1, .int .i64 (off (lnL s) i : Nat), .int .i64 ((i2 : Int) + 1), .int .i64 1, .int .i64 (off (lnL s) i2 : Nat)], .nilIface]) ∧ Below W.heap.size W W' := by
  refine withAll_of u _ _ _ _ _ _ _ _ _ _ _ _ p W (fun W' hb hB => ?_)
  have h1 := fun W hC => toOffset_line s hs i (by omega) p W hC
  have h2 := fun W hC => toOffset_line s hs i2 hi2 p W hC
  have q1 : i2 = i → (((i2 : Int) + 1) == ((i : Int) + 1)) = true := fun h => by simp [h]
  have q2 : ¬ i2 = i → (((i2 : Int) + 1) == ((i : Int) + 1)) = false := fun h => by simp; omega
  by_cases h0 : i = 0
  · by_cases h3 : i2 = 0
    · have e1 : co1 i = (off (lnL s) i : Int) := by subst h0; rfl
      have e2 : co1 i2 = (off (lnL s) i2 : Int) := by subst h3; rfl
      rw [e1, e2] at hB
      exact updA_none true u _ _ _ _ _ _ W.heap.size p W' hB (by omega) (by omega) (by simp) (by simp)
    · have d1 : decide ((0 : Int) ≤ co1 i) = true := by unfold co1; rw [if_pos h0]; rfl
      have d2 : decide ((0 : Int) ≤ co1 i2) = false := by unfold co1; rw [if_neg h3]; rfl
      exact updA_twoL true u _ _ _ _ _ _ _ _ W.heap.size p s.size (stTo s s.size) W W' hC hb (Nat.le_refl _) hB (by omega) (by omega) (Or.inr ⟨d1, d2⟩) (q2 (by omega)) h1 h2
  · have d1 : decide ((0 : Int) ≤ co1 i) = false := by unfold co1; rw [if_neg h0]; rfl
    by_cases h3 : i2 = i
    · subst h3
      exact updA_one true u _ _ _ _ _ _ _ W.heap.size p s.size (stTo s s.size) W W' hC hb (Nat.le_refl _) hB (by omega) (by omega) (Or.inl d1) (q1 rfl) (by simp) h1
    · exact updA_twoL true u _ _ _ _ _ _ _ _ W.heap.size p s.size (stTo s s.size) W W' hC hb (Nat.le_refl _) hB (by omega) (by omega) (Or.inl d1) (q2 h3) h1 h2
end Go.Proofs.YtgegialfhkgggaaGreatDoor
namespace Go.Proofs.YtgegialfhkgggaaGreatDoor
open Go.RowKit Stab Go.Proofs.YtgegialfhkgggaaGreatDoor.Lines
attribute [local go_sem ↓] Go.wp_at_zero Go.wp_at_succ

theorem IsBld.kept {B b : Nat} {bs : List Value} {w w1 : World} (h : IsBld B b bs w) (hb : Below w.heap.size w w1) : IsBld B b bs w1 := by
  have key : ∀ p, BldAt B b p bs w → BldAt B b p bs w1 := by
    rintro p ⟨hB, v, hbk, hown, hne⟩
    exact ⟨hB, v, Blk.kept (show Blk w b 107 _ from hbk) hb, own_kept hown hb, hne⟩
  rcases h with h | h
  · exact Or.inl (key _ h)
  · exact Or.inr (key _ h)
/-- An edit as an edit at offsets. -/
def toO (e : Ed) : EdO := ⟨e.o.toNat, e.o2.toNat, e.t.data.toList⟩
/-- What is written, and how far the old text is read, behind j edits. -/
def appP (l : List UInt8) (h : Nat → Ed) : Nat → List UInt8 × Nat
  | 0 => ([], 0)
  | j + 1 => appS l (appP l h j) (toO (h j))
theorem appP_fold (l : List UInt8) (h : Nat → Ed) (n : Nat) : appP l h n = ((List.range n).map (fun i => toO (h i))).foldl (appS l) ([], 0) := by
  induction n with
  | zero => rfl
  | succ n ih => rw [appP, ih, List.range_succ, List.map_append, List.foldl_append]; rfl
/-- The text behind n edits. -/
def appF (l : List UInt8) (h : Nat → Ed) (n : Nat) : List UInt8 := if (appP l h n).2 < l.length then (appP l h n).1 ++ l.drop (appP l h n).2 else (appP l h n).1
theorem appF_eq (l : List UInt8) (h : Nat → Ed) (n : Nat) : appF l h n = appL l ((List.range n).map (fun i => toO (h i))) := by
  unfold appF appL; rw [appP_fold]
theorem appP_len (l : List UInt8) (h : Nat → Ed) (n m : Nat) (hm : ∀ i, i < m → (h i).t.size ≤ 400000) (hl : l.length ≤ 400000) (hn : n ≤ m) : (appP l h n).1.length ≤ n * 800000 := by
  induction n with
  | zero => simp [appP]
  | succ n ih =>
    have := ih (by omega)
    have ht := hm n (by omega)
    rw [appP]
    unfold appS toO
    simp only
    rw [List.length_append, size_list]
    by_cases c : (appP l h n).2 < (h n).o.toNat
    · rw [if_pos c, List.length_append, List.length_take, List.length_drop]; omega
    · rw [if_neg c]; omega
/-- What ApplyEdits leaves. -/
def AppRes (w : World) (l : List UInt8) (n : Nat) (g : Nat → Ed) (e : Ending) (w' : World) : Prop := ∃ t, Sorted (ltE g) t n ∧ e = .returned (.string (toB (appF l (fun i => g (t i)) n))) ∧ Below w.heap.size w w'
/-- The relation of its loop. -/
def AppRel (wB wr : World) (b : Nat) (l : List UInt8) (h : Nat → Ed) (j : Nat) : Prop := IsBld b b (Lib.byteCells (appP l h j).1) wr ∧ Below b wB wr ∧ b < wr.heap.size

set_option maxHeartbeats 8000000 in
set_option maxRecDepth 100000 in
theorem apply_any (s : ByteArray) (n : Nat) (f g : Nat → Ed) (A : Option Addr) (c : Nat) (hs : s.size ≤ 400000) (hn0 : 1 ≤ n) (hn : n ≤ 10000) (w : World) (hA : RowsF w A n f)
    (hW : ∀ i, i < n → ∀ p W, Conv W p s.size (stTo s s.size) → Calls Tryz.prog 73 #[spV (f i), .iface 101 (.pointer (some ⟨p, 0, none⟩))] W fun e W' => e = .returned (.tuple #[spV (g i), .nilIface]) ∧ Below W.heap.size W W')
    (ht : ∀ i, i < n → (g i).t = (f i).t) (hp : ∀ i, i < n → 1 ≤ (g i).l ∧ 1 ≤ (g i).l2 ∧ 0 ≤ (g i).o) (hwk : Weak n (ltE g))
    (ho : ∀ i, i < n → (g i).o ≤ s.size ∧ 0 ≤ (g i).o2 ∧ (g i).o2 ≤ s.size ∧ (g i).t.size ≤ 400000) :
    Calls Tryz.prog 23 #[.string s, .slice A n c] w (AppRes w s.data.toList n g) := by
  have hPrep := hide (fun W hA => prep_any s n f g A c (by omega) (by omega) W hA hW ht hp hwk)
  have HA := hide hA
  have HP := hide hp
  have HO := hide ho
  clear hA hW ht hp hwk ho
  have c0 : ((n : Int) == 0) = false := by simp; omega
  go_enter Tryz.func23, Tryz.ntmps23
  go_wp2_with fail
  refine (hPrep.out _ HA.out).mono ?_
  rintro e w1 ⟨p, b0, t, rfl, hC, hRw, hS, hb0, hb1⟩
  obtain ⟨h, hh⟩ : ∃ h, h = fun i => g (t i) := ⟨_, rfl⟩
  have HFin := hide (fun (W : World) (x : ByteArray) (hx : x = toB (appF s.data.toList h n)) (hb : Below w.heap.size w W) => (show AppRes w s.data.toList n g (.returned (.string x)) W from ⟨t, hS, by rw [hx, hh], hb⟩))
  have HP2 := hide (show ∀ i, i < n → 1 ≤ (h i).l ∧ 1 ≤ (h i).l2 ∧ 0 ≤ (h i).o ∧ (h i).o ≤ s.size ∧ 0 ≤ (h i).o2 ∧ (h i).o2 ≤ s.size ∧ (h i).t.size ≤ 400000 from fun i hi => by
    have := HP.out _ (hS.into i hi)
    have := HO.out _ (hS.into i hi)
    subst hh
    show 1 ≤ (g (t i)).l ∧ 1 ≤ (g (t i)).l2 ∧ 0 ≤ (g (t i)).o ∧ (g (t i)).o ≤ s.size ∧ 0 ≤ (g (t i)).o2 ∧ (g (t i)).o2 ≤ s.size ∧ (g (t i)).t.size ≤ 400000
    omega)
  have hRw2 : Rw w1 b0 0 n h (fun k => k) := by subst hh; exact hRw
  clear hRw hC hS hh HP HO c0 hPrep HA
  have hRb := hRw2.lt (by omega)
  have HRw := hide hRw2
  have HLen := hide (fun j (hj : j ≤ n) => appP_len s.data.toList h j n (fun i hi => (HP2.out i hi).2.2.2.2.2.2) (by rw [size_list]; exact hs) hj)
  clear hRw2
  have hstart : Hid (∀ wB, wB = w1.alloc (.cells #[.pointer none, .slice none 0 0] 107) → AppRel w1 wB w1.heap.size s.data.toList h 0) := hide (by
    rintro wB rfl
    exact ⟨Or.inl ⟨Nat.le_refl _, .slice none 0 0, Blk.new _ _ _, ⟨rfl, Or.inl ⟨rfl, rfl⟩⟩, by simp [Value.ownBlock]⟩, by go_grown, by simp⟩)
  go_wp2_with fail
  go_loopw [6, 24] (fun lv jv wr => ∃ j : Nat, jv = .int .i64 j ∧ lv = .int .i64 ((appP s.data.toList h j).2 : Nat) ∧ j ≤ n ∧ Hid (AppRel w1 wr w1.heap.size s.data.toList h j)) (fun _ jv _ => n - (intOf jv).toNat)
  case atStart => exact ⟨0, rfl, rfl, Nat.zero_le _, hide (hstart.out _ rfl)⟩
  case round =>
    obtain ⟨j, rfl, rfl, hj, hcr⟩ := hrel
    clear hstart
    have hln := HLen.out j hj
    have hblr := hcr.out.2.1
    have hwl := hcr.out.2.2
    have hIB := hide hcr.out.1
    clear hcr
    by_cases hlt : j < n
    · have r1 := (HRw.out.grown hblr).row hlt
      have hPj := HP2.out j hlt
      have hSt : Hid (∀ e, h j = e → ∀ bs W, IsBld w1.heap.size w1.heap.size bs W → Below w1.heap.size w1 W → w1.heap.size < W.heap.size → bs = Lib.byteCells (appS s.data.toList (appP s.data.toList h j) (toO e)).1 → AppRel w1 W w1.heap.size s.data.toList h (j + 1)) := hide (by
        rintro e rfl bs W h1 h2 h3 rfl
        exact ⟨h1, h2, h3⟩)
      have hP1 : Hid (∀ e, h j = e → (appP s.data.toList h (j + 1)).2 = e.o2.toNat) := hide (by rintro e rfl; rfl)
      obtain ⟨e, he⟩ : ∃ e, h j = e := ⟨_, rfl⟩
      rw [he] at r1 hPj
      have HSt := hide (hSt.out e he)
      have HP1 := hide (hP1.out e he)
      clear hSt hP1 he
      obtain ⟨u, l, cc, oo, l2, c3, o2, t'⟩ := e
      obtain ⟨p1, p2, p3, p4, p5, p6, p7⟩ := hPj
      dsimp only at p1 p2 p3 p4 p5 p6 p7
      obtain ⟨a, rfl⟩ := Int.eq_ofNat_of_zero_le p3
      obtain ⟨a2, rfl⟩ := Int.eq_ofNat_of_zero_le p5
      unfold Row8 at r1
      dsimp only at r1
      rw [Nat.zero_add] at r1
      obtain ⟨P, hP⟩ : ∃ P, appP s.data.toList h j = P := ⟨_, rfl⟩
      rw [hP] at hIB hln HSt
      rw [hP]
      obtain ⟨cs, L⟩ := P
      dsimp only at hIB hln ⊢
      unfold toO appS at HSt
      dsimp only at HSt
      simp only [Int.toNat_natCast] at HSt HP1
      have a1 : a ≤ s.size := by omega
      have p1' : 0 < l := by omega
      have p2' : 0 < l2 := by omega
      have hbyc : (Lib.byteCells cs).length ≤ j * 800000 := by rw [Lib.byteCells_length]; exact hln
      clear hP p1 p2 p3 p4 p5 hln
      by_cases hgt : L < a
      · rw [if_pos hgt] at HSt
        go_upto_region 10 with (first
          | (go_at_call 38; refine (start_any _ _ _ _ _ _ _ _).mono ?_; rintro en w3 ⟨rfl, hb⟩)
          | (go_at_call 45; refine (pOffset_any _ _ _ (by omega) _).mono ?_; rintro en w4 ⟨rfl, hb4⟩))
        have k8 := ((Blk.new wr 89 #[.string u, .int .i64 l, .int .i64 cc, .int .i64 (a : Nat), .int .i64 l2, .int .i64 c3, .int .i64 (a2 : Nat), .string t']).kept hb).kept hb4
        have hA4 : Below wr.heap.size wr w4 := (((Below.refl wr.heap.size wr).alloc (Nat.le_refl _) _).trans (hb.mono (by simp))).trans (hb4.mono (by have := hb.size; simp at this; omega))
        have hI4 := hIB.out.kept hA4
        have hB4 : Below w1.heap.size w1 w4 := hblr.trans (hA4.mono hblr.size)
        have hz4 := hA4.size
        have f8 := k8.eight
        have K8 := hide k8
        clear k8 hb hb4 hA4 r1
        have hex : (s.extract L a).size ≤ 400000 := by simp; omega
        go_wp2_with fail
        refine (writeString_any w1.heap.size w1.heap.size _ (s.extract L a) _ hI4 (by omega) (by omega)).mono ?_
        rintro en w5 ⟨rfl, hW5⟩
        have k8 := hW5.2.2.2 _ _ _ (by decide) (by omega) K8.out
        have hB5 := hB4.trans hW5.2.1
        have hz5 := hW5.2.2.1
        have f8 := k8.eight
        have K85 := hide k8
        clear hex k8 hI4 hB4 K8
        have hl5 : (Lib.byteCells cs ++ Lib.strCells (s.extract L a)).length ≤ j * 800000 + 400000 := by rw [List.length_append, Lib.strCells_length]; simp; omega
        go_wp2_with fail
        refine (writeString_any w1.heap.size w1.heap.size _ t' _ (Or.inr hW5.1) (by omega) (by omega)).mono ?_
        rintro en w6 ⟨rfl, hW6⟩
        have k8 := hW6.2.2.2 _ _ _ (by decide) (by omega) K85.out
        have hB6 := hB5.trans hW6.2.1
        have hz6 := hW6.2.2.1
        clear hW5 hB5 K85 hl5
        have f8 := k8.eight
        go_wp2_with (first
          | (go_at_call 39; refine (end_any _ _ _ _ _ _ _ _).mono ?_; rintro en w7 ⟨rfl, hb⟩)
          | (go_at_call 45; refine (pOffset_any _ _ _ (by omega) _).mono ?_; rintro en w8 ⟨rfl, hb4⟩))
        have hA8 : Below w6.heap.size w6 w8 := hb.trans (hb4.mono hb.size)
        have HR := hide (HSt.out _ w8 (IsBld.kept (Or.inr hW6.1) hA8) (hB6.trans (hA8.mono hB6.size)) (by have := hA8.size; omega) (by rw [Lib.strCells_eq, Lib.strCells_eq, ← Lib.byteCells_append, ← Lib.byteCells_append, extract_list]))
        clear f8 hb hb4 hA8 hW6 hB6 k8
        go_roundw
        case rel => exact ⟨j + 1, by go_num, by rw [HP1.out], by omega, HR⟩
        case measure => simp [intOf]; omega
      · rw [if_neg hgt] at HSt
        go_upto_region 10 with (first
          | (go_at_call 38; refine (start_any _ _ _ _ _ _ _ _).mono ?_; rintro en w3 ⟨rfl, hb⟩)
          | (go_at_call 45; refine (pOffset_any _ _ _ (by omega) _).mono ?_; rintro en w4 ⟨rfl, hb4⟩))
        have k8 := ((Blk.new wr 89 #[.string u, .int .i64 l, .int .i64 cc, .int .i64 (a : Nat), .int .i64 l2, .int .i64 c3, .int .i64 (a2 : Nat), .string t']).kept hb).kept hb4
        have hA4 : Below wr.heap.size wr w4 := (((Below.refl wr.heap.size wr).alloc (Nat.le_refl _) _).trans (hb.mono (by simp))).trans (hb4.mono (by have := hb.size; simp at this; omega))
        have hI4 := hIB.out.kept hA4
        have hB4 : Below w1.heap.size w1 w4 := hblr.trans (hA4.mono hblr.size)
        have hz4 := hA4.size
        have f8 := k8.eight
        have K8 := hide k8
        clear k8 hb hb4 hA4 r1
        go_wp2_with fail
        refine (writeString_any w1.heap.size w1.heap.size _ t' _ hI4 (by omega) (by omega)).mono ?_
        rintro en w6 ⟨rfl, hW6⟩
        have k8 := hW6.2.2.2 _ _ _ (by decide) (by omega) K8.out
        have hB6 := hB4.trans hW6.2.1
        have hz6 := hW6.2.2.1
        clear hB4 K8 hI4
        have f8 := k8.eight
        go_wp2_with (first
          | (go_at_call 39; refine (end_any _ _ _ _ _ _ _ _).mono ?_; rintro en w7 ⟨rfl, hb⟩)
          | (go_at_call 45; refine (pOffset_any _ _ _ (by omega) _).mono ?_; rintro en w8 ⟨rfl, hb4⟩))
        have hA8 : Below w6.heap.size w6 w8 := hb.trans (hb4.mono hb.size)
        have HR := hide (HSt.out _ w8 (IsBld.kept (Or.inr hW6.1) hA8) (hB6.trans (hA8.mono hB6.size)) (by have := hA8.size; omega) (by rw [Lib.strCells_eq, ← Lib.byteCells_append]))
        clear f8 hb hb4 hA8 hW6 hB6 k8
        go_roundw
        case rel => exact ⟨j + 1, by go_num, by rw [HP1.out], by omega, HR⟩
        case measure => simp [intOf]; omega
    · have : j = n := by omega
      subst this
      have hF : Hid (∀ (cs : List UInt8) (L : Nat), appP s.data.toList h j = (cs, L) → appF s.data.toList h j = if L < s.size then cs ++ s.data.toList.drop L else cs) := hide (by
        intro cs L e
        unfold appF
        rw [e, size_list])
      obtain ⟨P, hP⟩ : ∃ P, appP s.data.toList h j = P := ⟨_, rfl⟩
      rw [hP] at hIB hln
      rw [hP]
      obtain ⟨cs, L⟩ := P
      dsimp only at hIB hln ⊢
      have HF := hide (hF.out cs L hP)
      have hbyc : (Lib.byteCells cs).length ≤ j * 800000 := by rw [Lib.byteCells_length]; exact hln
      clear hP hF hln HP2 HRw HLen
      by_cases hgt : L < s.size
      · have hF2 := HF.out
        rw [if_pos hgt] at hF2
        have HF2 := hide hF2
        clear hF2 HF
        have hex : (s.extract L s.size).size ≤ 400000 := by simp; omega
        go_wp2_with fail
        refine (writeString_any w1.heap.size w1.heap.size _ (s.extract L s.size) _ hIB.out (by omega) (by omega)).mono ?_
        rintro en w6 ⟨rfl, hW6⟩
        have hz6 := hW6.2.2.1
        have hB6 := hblr.trans hW6.2.1
        go_wp2_with fail
        refine (Tryz.Builder_String_any w1.heap.size w1.heap.size (cs ++ s.data.toList.drop L) _ (Or.inr (by
          have := hW6.1
          rw [Lib.strCells_eq, ← Lib.byteCells_append, extract_list, List.take_of_length_le (by simp)] at this
          exact this)) (by omega)).mono ?_
        rintro en w7 ⟨rfl, hb7⟩
        have HR := hide (HFin.out w7 _ (by rw [HF2.out]) (hb1.trans ((hB6.trans hb7).mono hb1.size)))
        clear hW6 hB6 hb7 HF2
        go_wp2
        go_ret
        exact HR.out
      · have hF2 := HF.out
        rw [if_neg hgt] at hF2
        have HF2 := hide hF2
        clear hF2 HF
        go_wp2_with fail
        refine (Tryz.Builder_String_any w1.heap.size w1.heap.size cs _ hIB.out (by omega)).mono ?_
        rintro en w7 ⟨rfl, hb7⟩
        have HR := hide (HFin.out w7 _ (by rw [HF2.out]) (hb1.trans ((hblr.trans hb7).mono hb1.size)))
        clear hb7 HF2
        go_wp2
        go_ret
        exact HR.out
end Go.Proofs.YtgegialfhkgggaaGreatDoor
namespace Go.Proofs.YtgegialfhkgggaaGreatDoor
open Go.RowKit Stab Go.Proofs.YtgegialfhkgggaaGreatDoor.Lines Mye
attribute [local go_sem ↓] Go.wp_at_zero Go.wp_at_succ

/-- Edits with a name and lines are in a weak order. -/
theorem cmpU_self (u : ByteArray) : cmpU u u = 0 := by unfold cmpU; simp
theorem weak_pos {n : Nat} {g : Nat → Ed} (u : ByteArray) (h : ∀ i, i < n → (g i).u = u ∧ 1 ≤ (g i).l ∧ 1 ≤ (g i).l2) : Weak n (ltE g) := by
  have key : ∀ x y, x < n → y < n → (ltE g x y = true ↔ ((g x).l < (g y).l ∨ ((g x).l = (g y).l ∧ ((g x).c < (g y).c ∨ ((g x).c = (g y).c ∧ ((g x).l2 < (g y).l2 ∨ ((g x).l2 = (g y).l2 ∧ (g x).c2 < (g y).c2))))))) := by
    intro x y hx hy
    obtain ⟨a1, a2, a3⟩ := h x hx
    obtain ⟨b1, b2, b3⟩ := h y hy
    unfold ltE cmpEd cmpS
    rw [a1, b1, cmpU_self]
    simp only [decide_eq_true_eq, if_true, cmpP, sgn]
    (repeat' split) <;> omega
  refine ⟨fun x y hx hy hl => ?_, fun x y z hx hy hz hl => ?_⟩
  · have h1 := (key x y hx hy).1 hl
    cases h2 : ltE g y x
    · rfl
    · have := (key y x hy hx).1 h2; omega
  · have h1 := (key x z hx hz).1 hl
    rcases Bool.eq_false_or_eq_true (ltE g x y) with h2 | h2
    · exact Or.inl h2
    · right
      rw [key y z hy hz]
      have h3 : ¬ _ := fun e => by rw [(key x y hx hy).2 e] at h2; cases h2
      omega
/-- An operation's edit, as plain data. -/
def peOf (lb : List ByteArray) (op : Opn) : Pe := ⟨(oS op : Int) + 1, 1, co1 (oS op), (oE op : Int) + 1, 1, co1 (oE op), opText lb op⟩
theorem ofCells_op (u : ByteArray) (lb : List ByteArray) (op : Opn) : ofCells (edOf u lb op) = peCells (peOf lb op) := by
  have h : ∀ i, oO (co1 i) = co1 i := fun i => by unfold oO co1; by_cases h : i = 0 <;> simp [h]
  have h2 : ∀ i : Nat, oL ((i : Int) + 1) = (i : Int) + 1 := fun i => by unfold oL; rw [if_pos (by omega)]
  have h3 : ∀ i : Nat, oC ((i : Int) + 1) 1 = 1 := fun i => by unfold oC; rw [if_pos (by omega)]
  simp only [ofCells, edOf, peCells, peOf, h, h2, h3]
theorem toEd_op (lb : List ByteArray) (op : Opn) : toEd (peOf lb op) = edOf ⟨#[97]⟩ lb op := by
  have h1 : ∀ i : Nat, cl ((i : Int) + 1) = (i : Int) + 1 := fun i => by unfold cl; rw [if_neg (by omega)]
  have h2 : ∀ i : Nat, cc ((i : Int) + 1) 1 = 1 := fun i => by unfold cc; rw [if_neg (by omega)]
  have h3 : ∀ i : Nat, co ((i : Int) + 1) 1 (co1 i) = co1 i := fun i => by
    unfold co co1
    rw [h1, h2]
    by_cases h : i = 0
    · subst h; rfl
    · simp [h]
  have ha : ∀ i : Nat, atSt ((i : Int) + 1) 1 (co1 i) = false := fun i => by
    unfold atSt
    have h1 : decide (0 < (i : Int) + 1) = true := by simp <;> omega
    have h2 : ((i : Int) + 1 == 0) = false := by simp; omega
    rw [h1, h2]; rfl
  simp only [toEd, edOf, peOf, h1, h2, h3, eN_keep (ha _)]
/-- The edit of an operation with its offsets. -/
def gOp (s : ByteArray) (lb : List ByteArray) (op : Opn) : Ed := ⟨⟨#[97]⟩, (oS op : Int) + 1, 1, (off (lnL s) (oS op) : Nat), (oE op : Int) + 1, 1, (off (lnL s) (oE op) : Nat), opText lb op⟩
def gD (s : ByteArray) (lb : List ByteArray) (ops : List Opn) (i : Nat) : Ed := (ops[i]?.map (gOp s lb)).getD ed0
theorem gD_get {s : ByteArray} {lb : List ByteArray} {ops : List Opn} {i : Nat} (h : i < ops.length) : gD s lb ops i = gOp s lb ops[i] := by
  unfold gD; rw [List.getElem?_eq_getElem h]; rfl
theorem asc_le {ops : List Opn} {x y : Nat} (h : Asc ops x y) : ∀ j i, i < j → ∀ (hj : j < ops.length) (hi : i < ops.length), oE ops[i] ≤ oS ops[j] := by
  intro j
  induction j with
  | zero => intro i h; omega
  | succ j ih =>
    intro i hij hj hi
    have h1 := (h j (by omega)).2 hj
    by_cases e : i = j
    · subst e; exact h1
    · have h2 := ih i (by omega) (by omega) hi
      have h3 := (h j (by omega)).1.end_le
      omega
/-- The edits of a script are in order. -/
theorem gD_sorted {s : ByteArray} {lb : List ByteArray} {ops : List Opn} {x y : Nat} (h : Asc ops x y) : ∀ i j, i < j → j < ops.length → ltE (gD s lb ops) j i = false := by
  intro i j hij hj
  have h1 := asc_le h j i hij hj (by omega)
  have h2 := (h i (by omega)).1.end_le
  have h3 := (h j hj).1.end_le
  unfold ltE cmpEd cmpS
  rw [gD_get hj, gD_get (show i < ops.length by omega)]
  unfold gOp
  simp only [cmpU_self, if_true, cmpP, sgn, decide_eq_false_iff_not]
  (repeat' split) <;> omega
theorem opText_data (t : ByteArray) (i j k : Nat) : (opText (linesB t) (.ins i j k)).data.toList = (((lnL t).drop j).take (k - j)).flatten := by
  unfold opText
  rw [toB_list, opText_list, join_flat]
theorem opText_size {t : ByteArray} {op : Opn} {x : Nat} (h : oOk x (linesB t).length op) : (opText (linesB t) op).size ≤ t.size := by
  cases op with
  | del a b j => exact Nat.zero_le _
  | ins i j k =>
    have := (opText_facts t j k h.1 h.2.2).2.1
    unfold opText
    rw [toB_size]
    exact this
theorem toO_gOp (s t : ByteArray) (op : Opn) : toO (gOp s (linesB t) op) = opE (lnL s) (lnL t) op := by
  unfold toO gOp
  cases op with
  | del a b j => rfl
  | ins i j k =>
    simp only [opE]
    rw [opText_data]
    rfl
theorem linesB_lnL (s : ByteArray) : linesB s = (lnL s).map toB := rfl
theorem eqL_lines {s t : ByteArray} : ∀ i j (hi : i < (lnL s).length) (hj : j < (lnL t).length), eqL (linesB s) (linesB t) i j = true → (lnL s)[i] = (lnL t)[j] := by
  intro i j hi hj h
  unfold eqL at h
  have h := of_decide_eq_true h
  rw [linesB_lnL, linesB_lnL, List.getD_eq_getElem?_getD, List.getD_eq_getElem?_getD, List.getElem?_map, List.getElem?_map, List.getElem?_eq_getElem hi, List.getElem?_eq_getElem hj] at h
  have h2 := congrArg (fun x : ByteArray => x.data.toList) h
  simp only [Option.map_some, Option.getD_some, toB_list] at h2
  exact h2
theorem linesB_len (s : ByteArray) : (linesB s).length = (lnL s).length := by rw [linesB_lnL, List.length_map]
theorem lines_nls (s : ByteArray) : (linesB s).length ≤ nls s + 1 := by
  rw [linesB_len]
  by_cases h : s.data.toList = []
  · unfold lnL; rw [h]; simp [linesL]
  · unfold lnL
    rw [linesL_length _ h]
    unfold nls
    have := (List.take_sublist (s.data.toList.length - 1) s.data.toList).count_le (10 : UInt8)
    omega
/-- The edits of a script, sorted, turn the old text into the new one. -/
theorem app_ops {s t : ByteArray} {ops : List Opn} (h : Script (eqL (linesB s) (linesB t)) ops (linesB s).length (linesB t).length) : appF s.data.toList (gD s (linesB t) ops) ops.length = t.data.toList := by
  rw [appF_eq]
  have e : (List.range ops.length).map (fun i => toO (gD s (linesB t) ops i)) = ops.map (opE (lnL s) (lnL t)) := by
    apply List.ext_getElem
    · simp
    · intro i h1 h2
      have hi : i < ops.length := by simpa using h1
      simp only [List.getElem_map, List.getElem_range]
      rw [gD_get hi, toO_gOp]
  rw [e]
  rw [linesB_len, linesB_len] at h
  have := script_turns eqL_lines h
  rw [linesL_flat, linesL_flat] at this
  exact this
theorem appP_congr {l : List UInt8} {h h' : Nat → Ed} : ∀ n, (∀ i, i < n → h i = h' i) → appP l h n = appP l h' n := by
  intro n
  induction n with
  | zero => intro _; rfl
  | succ n ih => intro e; rw [appP, appP, ih (fun i hi => e i (by omega)), e n (by omega)]
theorem appF_congr {l : List UInt8} {h h' : Nat → Ed} {n : Nat} (e : ∀ i, i < n → h i = h' i) : appF l h n = appF l h' n := by unfold appF; rw [appP_congr n e]
end Go.Proofs.YtgegialfhkgggaaGreatDoor
namespace Go.Proofs.YtgegialfhkgggaaGreatDoor
open Go.RowKit Stab Go.Proofs.YtgegialfhkgggaaGreatDoor.Lines Mye
attribute [local go_sem ↓] Go.wp_at_zero Go.wp_at_succ

/-- What impl.Edits leaves: the edits of a script of least cost. -/
def IEdsRes (w : World) (s t : ByteArray) (e : Ending) (w' : World) : Prop := ∃ (ops : List Opn) (D : Nat) (A : Option Addr) (c : Nat), Script (eqL (linesB s) (linesB t)) ops (linesB s).length (linesB t).length ∧ cost ops = D ∧
  hit (linesB s).length (linesB t).length (eqL (linesB s) (linesB t)) D ∧ (∀ d, d < D → ¬ hit (linesB s).length (linesB t).length (eqL (linesB s) (linesB t)) d) ∧
  e = .returned (.slice A ops.length c) ∧ RowsAt w' A 7 ((ops.map (peOf (linesB t))).map peCells) ∧ ops.length ≤ (linesB s).length + (linesB t).length ∧ Below w.heap.size w w'

theorem script_none (eq : Nat → Nat → Bool) : ∃ D, Script eq [] 0 0 ∧ cost [] = D ∧ hit 0 0 eq D ∧ (∀ d, d < D → ¬ hit 0 0 eq d) := by
  obtain ⟨D, h1, h2, h3, _⟩ := least_hit (M := 0) (N := 0) (eq := eq)
  have : D = 0 := by omega
  subst this
  exact ⟨0, Script.nil, rfl, h2, h3⟩
set_option maxHeartbeats 4000000 in
set_option maxRecDepth 100000 in
theorem ops_none (A B : Option Addr) (ca cb : Nat) (w : World) : Calls Tryz.prog 40 #[.slice A 0 ca, .slice B 0 cb] w fun e w' => e = .returned (.slice none 0 0) ∧ Below w.heap.size w w' := by
  go_enter Tryz.func40, Tryz.ntmps40
  go_wp2
  go_ret
  exact ⟨rfl, by go_grown⟩
set_option maxHeartbeats 4000000 in
set_option maxRecDepth 100000 in
theorem compute_none (u s t : ByteArray) (hs : s.size ≤ 400000) (ht : t.size ≤ 400000) (w : World) (h1 : (linesB s).length = 0) (h2 : (linesB t).length = 0) :
    Calls Tryz.prog 22 #[.string u, .string s, .string t] w (CompRes w u s t) := by
  obtain ⟨D, q1, q2, q3, q4⟩ := script_none (eqL (linesB s) (linesB t))
  have HFin := hide (fun (W : World) (A : Option Addr) (c : Nat) (hb : Below w.heap.size w W) => (show CompRes w u s t (.returned (.slice A 0 c)) W from by
    refine ⟨[], D, ?_, q2, ?_, ?_, A, c, rfl, Nat.zero_le _, fun i j hi => absurd hi (Nat.not_lt_zero _), hb⟩
    · rw [h1, h2]; exact q1
    · rw [h1, h2]; exact q3
    · rw [h1, h2]; exact q4))
  have HS1 := hide (fun W => mSplitLines_any s (by omega) W)
  have HS2 := hide (fun W => mSplitLines_any t (by omega) W)
  obtain ⟨i0, hi0, hz0, hz1, hzb⟩ := info_parts info_te
  unfold LinesRes at HS1 HS2
  rw [h1] at HS1
  rw [h2] at HS2
  clear q1 q2 q3 q4 h1 h2
  go_enter Tryz.func22, Tryz.ntmps22
  go_wp2_with fail
  refine (HS1.out _).mono ?_
  rintro e w1 ⟨A, ca, rfl, _, _, hb1⟩
  go_wp2_with fail
  refine (HS2.out _).mono ?_
  rintro e w2 ⟨B, cb, rfl, _, _, hb2⟩
  have hbl2 := hb1.trans (hb2.mono hb1.size)
  go_wp2_with fail
  refine (ops_none A B ca cb _).mono ?_
  rintro e w3 ⟨rfl, hb3⟩
  have hbl3 := hbl2.trans (hb3.mono hbl2.size)
  go_wp2_with (first
    | (refine wpList_make_own _ rfl _ _ 45 rfl w3.heap.size 89 i0 _ 8 Tryz.underlying45 hi0 hz0 hz1 .i64 .i64 _ 0 (by rfl) (by rfl) (by rfl) (by rw [hzb]; omega) (by unfold maxLen; omega) (Nat.le_refl _) ?_; intro w4 hown hg4))
  have hbl4 := hide (hbl3.trans ((grown_none hg4).mono hbl3.size))
  clear hown hg4 hb1 hb2 hb3 hbl2 hbl3
  go_loopw [8, 23] (fun ev jv wr => jv = .int .i64 0 ∧ ev = .slice (some ⟨w3.heap.size, 0, none⟩) 0 0 ∧ Hid (Below w.heap.size w wr)) (fun _ jv _ => 0)
  case atStart => exact ⟨rfl, rfl, hbl4⟩
  case round =>
    obtain ⟨rfl, rfl, hb⟩ := hrel
    have hF := hide (HFin.out _ (some ⟨w3.heap.size, 0, none⟩) 0 hb.out)
    clear hb hbl4
    go_wp2
    go_ret
    exact hF.out
/-- ComputeEdits at any two texts. -/
theorem compute_all (u s t : ByteArray) (hs : s.size ≤ 400000) (ht : t.size ≤ 400000) (w : World) : Calls Tryz.prog 22 #[.string u, .string s, .string t] w (CompRes w u s t) := by
  have h1 := linesB_length s
  have h2 := linesB_length t
  have h3 := stTo_len s s.size
  have h4 := stTo_len t t.size
  by_cases h : 1 ≤ (linesB s).length + (linesB t).length
  · exact compute_any u s t hs ht w h (by omega)
  · exact compute_none u s t hs ht w (by omega) (by omega)

set_option maxHeartbeats 4000000 in
theorem iEdits_any (s t : ByteArray) (hs : s.size ≤ 400000) (ht : t.size ≤ 400000) (w : World) : Calls Tryz.prog 8 #[.string s, .string t] w (IEdsRes w s t) := by
  have h1 := linesB_length s
  have h2 := linesB_length t
  have h3 := stTo_len s s.size
  have h4 := stTo_len t t.size
  have HC := hide (fun W => compute_all ⟨#[97]⟩ s t hs ht W)
  have hL := hide (show (linesB s).length + (linesB t).length ≤ 1000000 by omega)
  clear h1 h2 h3 h4
  go_enter Tryz.func8, Tryz.ntmps8
  go_wp2_with fail
  refine (HC.out _).mono ?_
  rintro e w1 ⟨ops, D, hscr, hcost, hhit, hnh, A, c, rfl, hc, hrows, hb1⟩
  have hlen := ops_len hscr hcost hnh
  have hl2 : ops.length ≤ 1000000 := by have := hL.out; omega
  have HEnd := hide (fun (e : Ending) (w' : World) (A : Option Addr) (c : Nat) (he : e = .returned (.slice A ops.length c)) (hr : RowsAt w' A 7 ((ops.map (edOf ⟨#[97]⟩ (linesB t))).map ofCells)) (hb : Below w1.heap.size w1 w') => (show IEdsRes w s t e w' from
    ⟨ops, D, A, c, hscr, hcost, hhit, hnh, he, by
      rw [List.map_map] at hr ⊢
      have : (ofCells ∘ edOf ⟨#[97]⟩ (linesB t)) = (peCells ∘ peOf (linesB t)) := by funext op; exact ofCells_op _ _ op
      rw [this] at hr
      exact hr, hlen, hb1.trans (hb.mono hb1.size)⟩))
  have HO := hide (fun W h => editsOf_any (ops.map (edOf ⟨#[97]⟩ (linesB t))) A c (by rw [List.length_map]; exact hl2) W h)
  have HR := hide hrows
  unfold ofRes at HO
  rw [List.length_map] at HO ⊢
  clear hscr hcost hhit hnh hrows hlen
  go_wp2_with fail
  refine (HO.out _ HR.out).mono ?_
  rintro e w2 ⟨A2, c2, rfl, _, hr2, hb2⟩
  have hF := hide (HEnd.out _ w2 A2 c2 rfl hr2 hb2)
  clear hr2 hb2
  go_wp2
  go_ret
  exact hF.out

theorem apply_zero (s : ByteArray) (A : Option Addr) (c : Nat) (w : World) : Calls Tryz.prog 23 #[.string s, .slice A 0 c] w fun e w' => e = .returned (.string s) ∧ w = w' := by
  go_enter Tryz.func23, Tryz.ntmps23
  go_wp2
  go_ret
  exact ⟨rfl, rfl⟩
theorem appF_zero (l : List UInt8) (h : Nat → Ed) : appF l h 0 = l := by
  unfold appF appP
  by_cases c : 0 < l.length
  · rw [if_pos c]; simp
  · rw [if_neg c]; exact (List.length_eq_zero_iff.1 (by omega)).symm
/-- ApplyEdits of the edits of a script. -/
theorem apply_ops (s t : ByteArray) (ops : List Opn) (hscr : Script (eqL (linesB s) (linesB t)) ops (linesB s).length (linesB t).length) (hs : s.size ≤ 400000) (ht : t.size ≤ 400000) (hn : ops.length ≤ 10000) (A : Option Addr) (c : Nat) (w : World)
    (hA : RowsAt w A 8 (((ops.map (peOf (linesB t))).map toEd).map edCells)) : Calls Tryz.prog 23 #[.string s, .slice A ops.length c] w fun e w' => e = .returned (.string t) ∧ Below w.heap.size w w' := by
  have happ := app_ops hscr
  by_cases h0 : ops.length = 0
  · rw [h0] at happ ⊢
    have he : s = t := by
      refine eq_of_list ?_
      rw [← happ]
      rw [appF_zero]
    subst he
    refine (apply_zero s A c w).mono ?_
    rintro e w' ⟨rfl, rfl⟩
    exact ⟨rfl, Below.refl _ _⟩
  · have hasc := script_asc hscr
    have hlen : ((ops.map (peOf (linesB t))).map toEd).length = ops.length := by rw [List.length_map, List.length_map]
    have hRF := rowsF_of hA
    rw [hlen] at hRF
    have hf : ∀ i (hi : i < ops.length), edAt ((ops.map (peOf (linesB t))).map toEd) i = edOf ⟨#[97]⟩ (linesB t) ops[i] := fun i hi => by
      rw [edAt_get (by rw [hlen]; exact hi)]
      simp only [List.getElem_map]
      exact toEd_op _ _
    have hb : ∀ i (hi : i < ops.length), oS ops[i] ≤ oE ops[i] ∧ oE ops[i] ≤ (lnL s).length := fun i hi => by
      have := (hasc i hi).1.end_le
      rw [linesB_len] at this
      exact this
    refine (apply_any s ops.length _ (gD s (linesB t) ops) A c hs (by omega) hn w hRF ?_ ?_ ?_ ?_ ?_).mono ?_
    · intro i hi p W hC
      rw [hf i hi, gD_get hi]
      exact withAll_line ⟨#[97]⟩ s (by omega) (oS ops[i]) (oE ops[i]) (hb i hi).1 (hb i hi).2 p W hC
    · intro i hi
      rw [hf i hi, gD_get hi]; rfl
    · intro i hi
      rw [gD_get hi]
      unfold gOp
      dsimp only
      omega
    · refine weak_pos ⟨#[97]⟩ (fun i hi => ?_)
      rw [gD_get hi]
      unfold gOp
      exact ⟨rfl, by dsimp only; omega, by dsimp only; omega⟩
    · intro i hi
      rw [gD_get hi]
      have h1 := off_le s (oS ops[i]) (by have := hb i hi; omega)
      have h2 := off_le s (oE ops[i]) (hb i hi).2
      have h3 := opText_size (t := t) (hasc i hi).1
      unfold gOp
      dsimp only
      omega
    · rintro e w' ⟨p, hp, rfl, hbl⟩
      refine ⟨?_, hbl⟩
      have hid := hp.same (weak_pos ⟨#[97]⟩ (fun i hi => by rw [gD_get hi]; unfold gOp; exact ⟨rfl, by dsimp only; omega, by dsimp only; omega⟩)) (gD_sorted hasc)
      rw [appF_congr (h' := gD s (linesB t) ops) (fun i hi => by rw [hid i hi]), happ, toB_of]

set_option maxHeartbeats 4000000 in
theorem iApply_ops (s t : ByteArray) (ops : List Opn) (hscr : Script (eqL (linesB s) (linesB t)) ops (linesB s).length (linesB t).length) (hs : s.size ≤ 400000) (ht : t.size ≤ 400000) (hn : ops.length ≤ 10000) (A : Option Addr) (c : Nat) (w : World)
    (hA : RowsAt w A 7 ((ops.map (peOf (linesB t))).map peCells)) : Calls Tryz.prog 9 #[.string s, .slice A ops.length c] w fun e w' => e = .returned (.string t) ∧ Below w.heap.size w w' := by
  have HT := hide (fun W h => editsTo_any (ops.map (peOf (linesB t))) A c (by rw [List.length_map]; omega) W h)
  have HA := hide (fun A c W h => apply_ops s t ops hscr hs ht hn A c W h)
  have HR := hide hA
  unfold EdsRes at HT
  rw [List.length_map, List.length_map] at HT
  clear hscr hA
  go_enter Tryz.func9, Tryz.ntmps9
  go_wp2_with fail
  refine (HT.out _ HR.out).mono ?_
  rintro e w1 ⟨A1, c1, rfl, _, hr, hb1⟩
  go_wp2_with fail
  refine (HA.out _ _ _ hr).mono ?_
  rintro e w2 ⟨rfl, hb2⟩
  have hbl := hb1.trans (hb2.mono hb1.size)
  clear hr hb1 hb2
  go_wp2
  go_ret
  exact ⟨rfl, hbl⟩

/-- The small example. -/
theorem works_ops {ops : List Opn} (h : Script (eqL (linesB ⟨#[97, 10, 98, 10]⟩) (linesB ⟨#[97, 10, 99, 10]⟩)) ops (linesB ⟨#[97, 10, 98, 10]⟩).length (linesB ⟨#[97, 10, 99, 10]⟩).length) : 0 < ops.length := by
  rcases Nat.eq_zero_or_pos ops.length with h0 | h0
  · exfalso
    have happ := app_ops h
    rw [h0, appF_zero] at happ
    revert happ
    decide
  · exact h0
set_option maxHeartbeats 4000000 in
theorem works_any (w : World) : Calls Tryz.prog 7 #[] w fun e w' => e = .returned (.bool true) ∧ Below w.heap.size w w' := by
  obtain ⟨s, hs⟩ : ∃ s : ByteArray, s = ⟨#[97, 10, 98, 10]⟩ := ⟨_, rfl⟩
  obtain ⟨t, ht⟩ : ∃ t : ByteArray, t = ⟨#[97, 10, 99, 10]⟩ := ⟨_, rfl⟩
  have zs : s.size ≤ 400000 := by subst hs; decide
  have zt : t.size ≤ 400000 := by subst ht; decide
  have HE := hide (fun W => iEdits_any s t zs zt W)
  have HP := hide (fun ops h => works_ops (ops := ops) h)
  rw [← hs, ← ht] at HP
  have h1 := linesB_length s
  have h2 := linesB_length t
  have h3 := stTo_len s s.size
  have h4 := stTo_len t t.size
  have hz : s.size = 4 := by subst hs; rfl
  have hz2 : t.size = 4 := by subst ht; rfl
  have hL := hide (show (linesB s).length + (linesB t).length ≤ 8 by omega)
  have HA := hide (fun ops h hn A c W hr => iApply_ops s t ops h zs zt hn A c W hr)
  have heq : (t.toList == t.toList) = true := by simp
  clear h1 h2 h3 h4 hz hz2 zs zt
  go_enter Tryz.func7, Tryz.ntmps7
  rw [← hs, ← ht]
  clear hs ht
  go_wp2_with fail
  refine (HE.out _).mono ?_
  rintro e w1 ⟨ops, D, A, c, hscr, _, _, _, rfl, hr, hlen, hb1⟩
  have hpos := HP.out ops hscr
  have HA1 := hide (fun W h => HA.out ops hscr (by have := hL.out; omega) A c W h)
  clear hscr hlen HA HP HE hL
  go_wp2_with fail
  refine (HA1.out _ hr).mono ?_
  rintro e w2 ⟨rfl, hb2⟩
  have hbl := hb1.trans (hb2.mono hb1.size)
  clear hr hb1 hb2 HA1
  go_wp2
  go_ret
  exact ⟨rfl, hbl⟩
end Go.Proofs.YtgegialfhkgggaaGreatDoor
