/- Walks and contracts: spec.Read, impl.Unified. No condition but sizes. -/
import Derived.Test.YtgegialfhkgggaaGreatDoorPd
import Derived.Test.YtgegialfhkgggaaGreatDoorEndsWM
import Derived.Test.YtgegialfhkgggaaGreatDoorBodyWM
import Derived.BigRegion
import Derived.Deep.RegionHeld3
import Derived.Test.YtgegialfhkgggaaGreatDoorZzM
import Derived.Test.YtgegialfhkgggaaGreatDoorPr
import Derived.Test.YtgegialfhkgggaaGreatDoorPp
import Derived.Test.YtgegialfhkgggaaGreatDoorPatchAM
set_option linter.unusedVariables false
set_option linter.unusedSimpArgs false
namespace Go.Proofs.YtgegialfhkgggaaGreatDoor
open Go.RowKit Go.Proofs.YtgegialfhkgggaaGreatDoor.Lines
attribute [local go_sem ↓] Go.wp_at_zero Go.wp_at_succ

set_option maxHeartbeats 2000000 in
set_option maxRecDepth 100000 in
theorem lines_big (s : ByteArray) (hs : s.size ≤ 100000000000) (w : World) : Calls Tryz.prog 28 #[.string s] w (LinesRes w (linesB s)) := by
  obtain ⟨i0, hi0, hz0, hz1, hz2⟩ := info_parts info_str
  go_enter Tryz.func28, Tryz.ntmps28
  go_wp2
  go_loopw [0, 3] (fun t out wr => LinesRel w wr s out t) (fun t _ _ => match t with | .string r => r.size | _ => 0)
  case atStart =>
    exact ⟨[], s, some ⟨w.heap.size, 0, none⟩, 0, rfl, rfl, by simp, by simp, ⟨rfl, Or.inr ⟨w.heap.size, 0, #[], rfl, Nat.le_refl _, Blk.new _ _ _, Nat.le_refl _, by unfold maxLen; omega, rfl, rfl⟩⟩, by go_grown⟩
  case round =>
    obtain ⟨done, r, A, cc, rfl, rfl, hle, hlin, hown, hbl⟩ := hrel
    by_cases hr : r.size = 0
    · have := string_empty hr
      subst this
      have HL := hide hlin
      clear hlin
      go_wp2
      go_ret
      have hd : linesB s = done := by rw [HL.out]; simp [linesB, linesL]
      exact ⟨A, cc, by rw [hd]; rfl, by rw [hd]; exact own_le hown, by rw [hd]; exact own_strs hown, hbl⟩
    · have hne : r.toList.isEmpty = false := by
        exact str_ne hr
      have hsz := hbl.size
      by_cases hk : nlAt r.data.toList < r.size
      · have hI : ∀ W, Calls Tryz.prog 55 #[.string r, .int .u8 10] W fun e w' => e = .returned (.int .i64 (nlAt r.data.toList : Nat)) ∧ W = w' := fun W => by
          have h := indexNl_any r W
          rw [if_pos hk] at h
          exact h
        have E1 := hide (fun (w1 : World) (g2 cap2 : Nat) (o : Obj) => lines_step (w1 := w1) (g2 := g2) (cap2 := cap2) (o := o) (n := nlAt r.data.toList + 1) rfl rfl hle hlin (by omega) (by rw [if_pos hk]) hown hbl)
        have HI := hide hI
        clear hI hlin
        generalize nlAt r.data.toList = k at *
        generalize hL : done.length = L at *
        generalize hX : done.map Value.string = X at *
        clear hL hX
        have hc : (((k : Int) + 1) == 0) = false := by simp; omega
        go_wp2_with fail
        refine (HI.out _).mono ?_
        rintro e w1 ⟨rfl, rfl⟩
        go_wp2_with (first
          | (at_builtin; refine wpList_append_lies _ rfl _ _ 38 rfl w.heap.size 9 i0 _ 1 16 Tryz.underlying38 hi0 hz0 hz1 hz2 rfl (by omega) (.slice A L cc) L X (by rfl) (hown.alloc _) ⟨wr.heap.size, 0, none⟩ 1 1 [.string (r.extract 0 (k + 1))] (by rfl) (by rfl) (World.news_of_block (cs := #[.string (r.extract 0 (k + 1))]) (t := 9) (fr := (0, 0)) (heap_alloc_new wr _)) (by simp [Value.oneCell']) (by omega) (by unfold maxLen; omega) (by omega) (by simp; omega) (wr.heap.size + 1) (by simp) ?_; intro g2 cap2 w1 hown1 hgrow hat hlt2))
        go_roundw
        case rel => exact E1.out _ _ _ _ hown1 hgrow
        case measure => simp; omega
      · have hI : ∀ W, Calls Tryz.prog 55 #[.string r, .int .u8 10] W fun e w' => e = .returned (.int .i64 (-1)) ∧ W = w' := fun W => by
          have h := indexNl_any r W
          rw [if_neg hk] at h
          exact h
        have E1 := hide (fun (w1 : World) (g2 cap2 : Nat) (o : Obj) => lines_step (w1 := w1) (g2 := g2) (cap2 := cap2) (o := o) (n := r.size) (x := r) (y := ByteArray.empty) (by simp) (by simp) hle hlin (by omega) (by rw [if_neg hk]) hown hbl)
        have HI := hide hI
        clear hI hlin hk
        generalize hL : done.length = L at *
        generalize hX : done.map Value.string = X at *
        clear hL hX
        go_wp2_with fail
        refine (HI.out _).mono ?_
        rintro e w1 ⟨rfl, rfl⟩
        go_wp2_with (first
          | (at_builtin; refine wpList_append_lies _ rfl _ _ 38 rfl w.heap.size 9 i0 _ 1 16 Tryz.underlying38 hi0 hz0 hz1 hz2 rfl (by omega) (.slice A L cc) L X (by rfl) (hown.alloc _) ⟨wr.heap.size, 0, none⟩ 1 1 [.string r] (by rfl) (by rfl) (World.news_of_block (cs := #[.string r]) (t := 9) (fr := (0, 0)) (heap_alloc_new wr _)) (by simp [Value.oneCell']) (by omega) (by unfold maxLen; omega) (by omega) (by simp; omega) (wr.heap.size + 1) (by simp) ?_; intro g2 cap2 w1 hown1 hgrow hat hlt2))
        go_roundw
        case rel => exact E1.out _ _ _ _ hown1 hgrow
        case measure => simp; omega

set_option maxHeartbeats 4000000 in
theorem endsLine_big (s : ByteArray) (hs : s.size ≤ 100000000000) (w : World) :
    Calls Tryz.prog 29 #[.string s] w fun e w' => e = .returned (.bool (endsB s)) ∧ w' = w := by
  by_cases h0 : s.size = 0
  · have he : endsB s = true := by
      unfold endsB
      have : s.data.toList = [] := List.eq_nil_of_length_eq_zero (by rw [size_list]; exact h0)
      rw [this]; rfl
    rw [he]
    have hse : s.toList.isEmpty = true := by
      cases h : s.toList.isEmpty
      · exfalso
        have := size_list s
        have hd : s.toList = s.data.toList := ByteArray.toList_eq s
        have hn : s.data.toList = [] := List.eq_nil_of_length_eq_zero (by rw [size_list]; exact h0)
        rw [hd, hn] at h
        cases h
      · rfl
    go_enter Tryz.func29, Tryz.ntmps29
    go_wp2
    go_ret
    exact ⟨rfl, rfl⟩
  · have hse := str_ne h0
    have hl : s.data.toList.getLast? = some (s[s.size - 1]'(by omega)) := by
      rw [List.getLast?_eq_getElem?, size_list, Array.getElem?_toList, Array.getElem?_eq_getElem (show s.size - 1 < s.size by omega)]
      rfl
    have he : ((((s[s.size - 1]'(by omega)).toNat : Nat) : Int) == 10) = endsB s := by
      unfold endsB
      rw [hl, Option.getD_some]
      generalize (s[s.size - 1]'(by omega)) = c
      rw [Bool.eq_iff_iff, beq_iff_eq, beq_iff_eq]
      constructor
      · intro h
        apply UInt8.toNat_inj.1
        show c.toNat = 10
        omega
      · rintro rfl; rfl
    go_enter Tryz.func29, Tryz.ntmps29
    go_wp2
    go_ret
    exact ⟨by rw [← he]; rfl, rfl⟩
end Go.Proofs.YtgegialfhkgggaaGreatDoor
namespace Go.Proofs.YtgegialfhkgggaaGreatDoor
open Go.RowKit Go.Proofs.YtgegialfhkgggaaGreatDoor.Lines
attribute [local go_sem ↓] Go.wp_at_zero Go.wp_at_succ

/-- The lines that are left from the k-th hunk on. -/
def rsB (hks : List (Hk.HK ByteArray)) (k : Nat) : List ByteArray := ((hks.drop k).map hkLs).flatten.map toB
theorem rsB_step {hks : List (Hk.HK ByteArray)} {k : Nat} (h : k < hks.length) : rsB hks k = toB (hdT hks[k]) :: flB hks[k].ls (rsB hks (k + 1)) 0 := by
  unfold rsB flB
  rw [List.drop_eq_getElem_cons h, List.map_cons, List.flatten_cons, List.map_append, List.drop_zero]
  rfl
theorem rsB_end (hks : List (Hk.HK ByteArray)) : rsB hks hks.length = [] := by simp [rsB]
theorem rsB_ok (hks : List (Hk.HK ByteArray)) (k : Nat) : okRest (rsB hks k) := by
  intro b r e
  by_cases h : k < hks.length
  · rw [rsB_step h] at e
    injection e with e1 e2
    subst e1
    rw [toB_list]
    unfold hdT
    simp
  · unfold rsB at e
    rw [List.drop_eq_nil_of_le (by omega)] at e
    cases e
theorem cnt_len : ∀ ls : List (Nat × ByteArray), ls.length ≤ cntF ls + cntT ls := by
  intro ls
  unfold cntF cntT
  induction ls with
  | nil => exact Nat.le_refl _
  | cons x r ih =>
    rw [List.filter_cons, List.filter_cons, List.length_cons]
    by_cases h1 : x.1 = 1
    · have e1 : (x.1 != 1) = false := by simp [h1]
      have e2 : (x.1 != 0) = true := by simp [h1]
      rw [e1, e2]; simp only [Bool.false_eq_true, if_false, if_true, List.length_cons]; omega
    · have e1 : (x.1 != 1) = true := by simp [h1]
      rw [e1]; simp only [if_true, List.length_cons]
      split
      · simp only [List.length_cons]; omega
      · omega
theorem flB_pos {ls : List (Nat × ByteArray)} (R : List ByteArray) (h : 1 ≤ cntF ls) : 0 < (flB ls R 0).length := by
  have h1 : cntF ls ≤ ls.length := by unfold cntF; exact List.length_filter_le _ _
  have h2 : 0 < ls.length := by omega
  obtain ⟨t, r, e⟩ := lnLs_cons ls[0]
  rw [flB_step h2, e]
  simp
theorem flB_len (ls : List (Nat × ByteArray)) (R : List ByteArray) : R.length ≤ (flB ls R 0).length := by unfold flB; simp
theorem mem_flat {α : Type} {L : List (List α)} {x : List α} (h : x ∈ L) : x.length ≤ L.flatten.length := by
  induction L with
  | nil => cases h
  | cons a r ih =>
    rw [List.flatten_cons, List.length_append]
    rcases List.mem_cons.1 h with h | h
    · subst h; omega
    · have := ih h; omega
theorem hk_size {nf nt : List UInt8} {hks : List (Hk.HK ByteArray)} {h : Hk.HK ByteArray} (hh : h ∈ hks) {x : Nat × ByteArray} (hx : x ∈ h.ls) : x.2.size ≤ (uniT nf nt hks).length := by
  have h1 : (lnT x).length ≤ ((h.ls.map lnT).flatten).length := mem_flat (List.mem_map.2 ⟨x, hx, rfl⟩)
  have h2 : (hkT h).length ≤ ((hks.map hkT).flatten).length := mem_flat (List.mem_map.2 ⟨h, hh, rfl⟩)
  have h3 : ((hks.map hkT).flatten).length ≤ (uniT nf nt hks).length := by
    unfold uniT
    rw [if_neg (List.ne_nil_of_mem hh), List.length_append]; omega
  have h4 : ((h.ls.map lnT).flatten).length ≤ (hkT h).length := by unfold hkT; rw [List.length_append]; omega
  have h5 : x.2.size ≤ (lnT x).length := by unfold lnT; simp only [List.length_cons, List.length_append, size_list]; omega
  omega
theorem flat_last : ∀ (A : List (List UInt8)), (∀ x ∈ A, ∃ l, x = l ++ [10]) → A ≠ [] → A.flatten.getLast? = some 10 := by
  intro A h h0
  have e : A = A.dropLast ++ [A.getLast h0] := (List.dropLast_concat_getLast h0).symm
  obtain ⟨l, hl⟩ := h _ (List.getLast_mem h0)
  rw [e, List.flatten_append, hl]
  simp
theorem uni_ends {nf nt : List UInt8} {hks : List (Hk.HK ByteArray)} (h0 : hks ≠ []) (hl : ∀ h ∈ hks, ∀ x ∈ h.ls, OneLn x.2) : endsB (toB (uniT nf nt hks)) = true := by
  have h1 : (uniT nf nt hks).getLast? = some 10 := by
    unfold uniT
    rw [if_neg h0, List.getLast?_append]
    have e2 : (hks.map hkT).flatten = ((hks.map hkLs).flatten).flatten := by
      clear h0 hl
      induction hks with
      | nil => rfl
      | cons a r ih => simp only [List.map_cons, List.flatten_cons, List.flatten_append, ih, hkLs_flat]
    rw [e2, flat_last]
    · rfl
    · intro x hx
      obtain ⟨y, hy, hx⟩ := List.mem_flatten.1 hx
      obtain ⟨k, hk, rfl⟩ := List.mem_map.1 hy
      rcases List.mem_cons.1 hx with h | hx
      · obtain ⟨l, _, e⟩ := hdT_full k
        exact ⟨l, by rw [h, e]⟩
      · obtain ⟨z, hz, hx⟩ := List.mem_flatten.1 hx
        obtain ⟨q, hq, rfl⟩ := List.mem_map.1 hz
        obtain ⟨l, _, e⟩ := lnLs_full (hl k hk q hq) x hx
        exact ⟨l, e⟩
    · cases hks with
      | nil => exact absurd rfl h0
      | cons a r => simp [hkLs]
  unfold endsB
  rw [toB_list, h1]
  rfl
/-- What it leaves. -/
def RdRes (w : World) (nf nt : ByteArray) (hks : List (Hk.HK ByteArray)) (e : Ending) (w' : World) : Prop := ∃ A c, e = .returned (.tuple #[.string nf, .string nt, .slice A hks.length c, .bool true]) ∧ HksAt w' A hks ∧ Below w.heap.size w w'
/-- The relation of its loop: the lines left lie in w0, the hunks are noted behind it. -/
def RdRel (w0 wr : World) (hks : List (Hk.HK ByteArray)) (k : Nat) (A : Option Addr) (ov : Value) : Prop := Strs w0 A (rsB hks k) ∧ IHs wr w0.heap.size wr.heap.size (hks.take k) ov ∧ Below w0.heap.size w0 wr
/-- What spec.body leaves, in words that forget where it began. -/
def BdOut (w0 W : World) (ls : List (Nat × ByteArray)) (R : List ByteArray) (v s15 s16 : Value) (wx : World) : Prop := ∃ A c, s15 = .slice A R.length c ∧ s16 = .bool true ∧ R.length ≤ c ∧ (∃ b2, wx.ownsRow b2 65 2 v ls.length (lnRow ls)) ∧ Strs w0 A R ∧ Below W.heap.size W wx
theorem BdRes.out {w0 W w1 : World} {ls : List (Nat × ByteArray)} {R : List ByteArray} {e : Ending} {w2 : World} (h : BdRes w0 w1 ls R e w2) (hb : Below W.heap.size W w1) : ∃ v A c, e = .returned (.tuple #[v, .slice A R.length c, .bool true]) ∧ BdOut w0 W ls R v (.slice A R.length c) (.bool true) w2 ∧ Below w1.heap.size w1 w2 := by
  obtain ⟨v, A, c, e, h1, h2, h3, h4⟩ := h
  exact ⟨v, A, c, e, ⟨A, c, rfl, rfl, h1, ⟨_, h2⟩, h3, hb.trans (h4.mono hb.size)⟩, h4⟩
theorem one1_pos {n : Nat} (h : 1 ≤ n) : one1 n = n := by unfold one1; split <;> omega

set_option maxHeartbeats 8000000 in
set_option maxRecDepth 100000 in
theorem read_any (nf nt : ByteArray) (hks : List (Hk.HK ByteArray)) (h0 : hks ≠ []) (h1 : noTen nf.data.toList) (h2 : noTen nt.data.toList) (n1 : nf.size ≤ 1000) (n2 : nt.size ≤ 1000) (hM : HkMore nf.data.toList nt.data.toList hks) (hC : ∀ h ∈ hks, 1 ≤ cntF h.ls ∧ 1 ≤ cntT h.ls) (w : World) :
    Calls Tryz.prog 14 #[.string (toB (uniT nf.data.toList nt.data.toList hks))] w (RdRes w nf nt hks) := by
  obtain ⟨j0, hj0, hy0, hy1, hyb⟩ := info_parts info_ihk
  have hz : (toB (uniT nf.data.toList nt.data.toList hks)).size ≤ 100000000000 := by rw [toB_size]; exact hM.len
  have HL := hide (fun W => lines_big (toB (uniT nf.data.toList nt.data.toList hks)) hz W)
  have HE := hide (fun W => endsLine_big (toB (uniT nf.data.toList nt.data.toList hks)) hz W)
  rw [uni_ends h0 hM.one] at HE
  have hls := linesB_le_size (toB (uniT nf.data.toList nt.data.toList hks))
  have hl : linesB (toB (uniT nf.data.toList nt.data.toList hks)) = toB ([45, 45, 45, 32] ++ nf.data.toList ++ [10]) :: toB ([43, 43, 43, 32] ++ nt.data.toList ++ [10]) :: rsB hks 0 := by
    unfold linesB
    rw [toB_list, uni_lines h1 h2 h0 hM.one]
    rfl
  rw [hl] at hls HL
  have hrl : (rsB hks 0).length + 2 ≤ 100000000000 := by simp only [List.length_cons] at hls; omega
  have HSz := hide (fun h (hh : h ∈ hks) x (hx : x ∈ h.ls) => Nat.le_trans (hk_size (nf := nf.data.toList) (nt := nt.data.toList) hh hx) hM.len)
  have HM := hide hM
  have HC := hide hC
  have HnC := hide hM.cnt
  have T0 := hide (fun W => trimS_nl (toB ([45, 45, 45, 32] ++ nf.data.toList ++ [10])) (toB ([45, 45, 45, 32] ++ nf.data.toList)) (by simp [toB_list]) (by rw [toB_size]; simp only [List.length_append, List.length_cons, List.length_nil, size_list]; omega) W)
  have T1 := hide (fun W => trimS_nl (toB ([43, 43, 43, 32] ++ nt.data.toList ++ [10])) (toB ([43, 43, 43, 32] ++ nt.data.toList)) (by simp [toB_list]) (by rw [toB_size]; simp only [List.length_append, List.length_cons, List.length_nil, size_list]; omega) W)
  have C0 := hide (fun W => cut_yes (toB ([45, 45, 45, 32] ++ nf.data.toList)) ⟨#[45, 45, 45, 32]⟩ nf (by rw [toB_list]) W)
  have C1 := hide (fun W => cut_yes (toB ([43, 43, 43, 32] ++ nt.data.toList)) ⟨#[43, 43, 43, 32]⟩ nt (by rw [toB_list]) W)
  clear hls hM hC hl hz h1 h2
  obtain ⟨la, hla⟩ : ∃ x, toB ([45, 45, 45, 32] ++ nf.data.toList ++ [10]) = x := ⟨_, rfl⟩
  obtain ⟨lb, hlb⟩ : ∃ x, toB ([43, 43, 43, 32] ++ nt.data.toList ++ [10]) = x := ⟨_, rfl⟩
  obtain ⟨ma, hma⟩ : ∃ x, toB ([45, 45, 45, 32] ++ nf.data.toList) = x := ⟨_, rfl⟩
  obtain ⟨mb, hmb⟩ : ∃ x, toB ([43, 43, 43, 32] ++ nt.data.toList) = x := ⟨_, rfl⟩
  obtain ⟨s, hs⟩ : ∃ x, toB (uniT nf.data.toList nt.data.toList hks) = x := ⟨_, rfl⟩
  rw [hla, hlb, hs] at HL
  rw [hs] at HE ⊢
  rw [hla, hma] at T0
  rw [hlb, hmb] at T1
  rw [hma] at C0
  rw [hmb] at C1
  clear hla hlb hma hmb hs
  go_enter Tryz.func14, Tryz.ntmps14
  go_wp2_with fail
  refine (HL.out _).mono ?_
  rintro e w0 ⟨A, c, rfl, hc, hS, hb⟩
  simp only [List.length_cons] at hc
  obtain ⟨b, o, rfl, g0⟩ := strs_head hS
  have hS1 := strs_tail hS (c := c) (by simp only [List.length_cons]; omega)
  rw [if_neg (by omega)] at hS1
  obtain ⟨b', o', e', g1⟩ := strs_head hS1
  cases e'
  have hS2 := strs_tail hS1 (c := c - 1) (by omega)
  have hlp : 0 < (rsB hks 0).length := by
    cases hks with
    | nil => exact absurd rfl h0
    | cons a r => rw [rsB_step (by simp)]; simp
  have hc2 : ¬ c = 2 := by omega
  have hp2 : (2 : Int) ≤ ((rsB hks 0).length : Int) + 1 + 1 := by omega
  rw [if_neg (by omega)] at hS2
  have HB := hide hb
  have HS2 := hide hS2
  clear HL hS hS1 hS2 hb
  simp only [List.length_cons]
  go_wp2_with fail
  refine (HE.out _).mono ?_
  rintro e w1 ⟨rfl, rfl⟩
  clear HE
  go_wp2_with fail
  refine (T0.out _).mono ?_
  rintro e w1 ⟨rfl, rfl⟩
  clear T0
  go_wp2_with fail
  refine (C0.out _).mono ?_
  rintro e w1 ⟨rfl, rfl⟩
  clear C0
  go_wp2_with fail
  refine (T1.out _).mono ?_
  rintro e w1 ⟨rfl, rfl⟩
  clear T1
  go_wp2_with fail
  refine (C1.out _).mono ?_
  rintro e w1 ⟨rfl, rfl⟩
  clear C1 g0 g1
  clear hlp
  go_wp2_with fail
  go_loopw [6, 11] (fun lv ov wr => ∃ (k : Nat) (A : Option Addr) (c : Nat), lv = .slice A (rsB hks k).length c ∧ k ≤ hks.length ∧ (rsB hks k).length ≤ c ∧ (rsB hks k).length ≤ 100000000000 ∧ Hid (RdRel w1 wr hks k A ov)) (fun lv _ _ => slLen lv)
  case atStart =>
    refine ⟨0, _, c - 1 - 1, by go_num, Nat.zero_le _, by omega, by omega, hide ⟨HS2.out, ⟨_, 0, rfl, [], rfl, ⟨rfl, Or.inr ⟨w1.heap.size, 0, #[], rfl, Nat.le_refl _, Blk.new _ _ _, Nat.le_refl _, by unfold maxLen; omega, rfl, rfl⟩⟩, fun i h => absurd h (by simp)⟩, by go_grown⟩⟩
  case round =>
    obtain ⟨k, A, c', rfl, hk, hcl, hn, hr⟩ := hrel
    clear hc hrl hp2 hc2 HS2
    by_cases hkl : k < hks.length
    · have hst := rsB_step hkl
      have hok := rsB_ok hks (k + 1)
      have hmem := List.getElem_mem hkl
      obtain ⟨hf1, hf2, hg1, hg2, hcf, hct⟩ := HM.out.num _ hmem
      obtain ⟨hc1, hc2⟩ := HC.out _ hmem
      have hknd := HM.out.kind _ hmem
      have hsz := HSz.out _ hmem
      have hll := cnt_len hks[k].ls
      have hnx : hks.take (k + 1) = hks.take k ++ [hks[k]] := List.take_succ_eq_append_getElem hkl
      obtain ⟨h, hh⟩ : ∃ h, hks[k] = h := ⟨_, rfl⟩
      rw [hh] at hst hf1 hf2 hg1 hg2 hcf hct hc1 hc2 hknd hsz hll hnx
      obtain ⟨zf, zg, ls⟩ := h
      dsimp only at hf1 hf2 hg1 hg2 hcf hct hc1 hc2 hknd hsz hll
      obtain ⟨f, rfl⟩ : ∃ f : Nat, zf = (f : Int) := ⟨zf.toNat, by omega⟩
      obtain ⟨g, rfl⟩ : ∃ g : Nat, zg = (g : Int) := ⟨zg.toNat, by omega⟩
      have HNx := hide hnx
      have hS := hr.out.1
      rw [hst] at hS hcl hn ⊢
      simp only [List.length_cons] at hcl hn ⊢
      obtain ⟨b, o, rfl, ga⟩ := strs_head hS
      have hS1 := strs_tail hS (c := c') (by omega)
      have hfp := flB_pos (rsB hks (k + 1)) hc1
      have hfr := flB_len ls (rsB hks (k + 1))
      have hc'1 : ¬ c' = 1 := by omega
      rw [if_neg hc'1] at hS1
      have HS1 := hide hS1
      have HB1 := hide hr.out.2.2
      have g0 := kcell HB1.out ga
      have HHd := hide (fun W => head_any (toB (hdT ⟨(f : Int), (g : Int), ls⟩)) f (cntF ls) g (cntT ls) (by omega) hcf (by omega) hct (by rw [toB_list]; rfl) W)
      have HBd := hide (fun W (hb : Below w1.heap.size w1 W) => body_any ls (rsB hks (k + 1)) _ (c' - 1) hknd hsz (by omega) (by omega) (by omega) hok hcf hct w1 W hb hS1)
      unfold HdRes at HHd
      rw [one1_pos hc1, one1_pos hc2] at HHd
      generalize toB (hdT ⟨(f : Int), (g : Int), ls⟩) = hd at *
      generalize flB ls (rsB hks (k + 1)) 0 = fl at *
      clear hst hok hknd hsz hnx hS hS1 ga hh
      go_wp2_with fail
      refine (HHd.out _).mono ?_
      rintro e w2 ⟨rfl, hb2⟩
      have HB2 := hide hb2
      clear hb2 HHd
      go_upto_region 14 with fail
      refine wp_gen ?_
      intro W hW
      have kN : Blk W w2.heap.size 71 #[.int .i64 f, .int .i64 (cntF ls), .int .i64 g, .int .i64 (cntT ls)] := by rw [hW]; exact Blk.new _ _ _
      have HBW : Hid (Below wr.heap.size wr W) := hide (by rw [hW]; exact HB2.out.alloc HB2.out.size _)
      have HBd2 : Hid (∀ W2, Below W.heap.size W W2 → Calls Tryz.prog 33 #[.slice (some ⟨b, o + 1, none⟩) fl.length (c' - 1), .int .i64 (cntF ls), .int .i64 (cntT ls)] W2 fun e w' => ∃ v A c, e = .returned (.tuple #[v, .slice A (rsB hks (k + 1)).length c, .bool true]) ∧ BdOut w1 W ls (rsB hks (k + 1)) v (.slice A (rsB hks (k + 1)).length c) (.bool true) w' ∧ Below W2.heap.size W2 w') := hide (fun W2 hb => (HBd.out W2 ((HB1.out.trans (HBW.out.mono HB1.out.size)).trans (hb.mono (Nat.le_trans HB1.out.size HBW.out.size)))).mono (fun e w' h => BdRes.out h hb))
      have hnb := kN.lt
      have i1 : (1 : Int) ≤ (fl.length : Int) + 1 := by omega
      have i2 : (fl.length : Int) + 1 ≤ (c' : Int) := by omega
      have i3 : fl.length + 1 - 1 = fl.length := by omega
      have q1 : W.cell? ⟨w2.heap.size, 1, none⟩ = some (.int .i64 (cntF ls)) := kN.cell 1
      have q3 : W.cell? ⟨w2.heap.size, 3, none⟩ = some (.int .i64 (cntT ls)) := kN.cell 3
      have KN := hide kN
      clear hW HB2 HBd HS1 kN
      generalize w2.heap.size = nb at *
      go_cut [14, 15, 16] (fun s14 s15 s16 wx => BdOut w1 W ls (rsB hks (k + 1)) s14 s15 s16 wx)
      case first =>
        go_region_held3 (fun w' => (∀ b o, b < W.heap.size → w'.cell? ⟨b, o, none⟩ = W.cell? ⟨b, o, none⟩) ∧ W.heap.size ≤ w'.heap.size ∧ Below W.heap.size W w')
          (first
            | (with_reducible exact SB.start (Nat.le_refl _))
            | (go_split_ands; (with_reducible refine SB.call ?_ hbz); exact ⟨by assumption, by assumption, by assumption⟩))
          (first
            | (go_at_call 33; refine (HBd2.out _ (by first | assumption | exact (Below.refl _ _).drew)).mono ?_; rintro e wz ⟨v, A1, c1, rfl, ho, hbz⟩))
        go_wp2_with fail
        go_meet
        exact ho
      case rest =>
        obtain ⟨A1, c1, rfl, rfl, hcr, ⟨b2, hown⟩, hS1, hbx⟩ := hcut
        have p0 : wc.cell? ⟨nb, 0, none⟩ = some (.int .i64 f) := kcell hbx (KN.out.cell 0)
        have p2 : wc.cell? ⟨nb, 2, none⟩ = some (.int .i64 g) := kcell hbx (KN.out.cell 2)
        have hbc : Below wr.heap.size wr wc := HBW.out.trans (hbx.mono HBW.out.size)
        have hb1 : Below w1.heap.size w1 wc := HB1.out.trans (hbc.mono HB1.out.size)
        obtain ⟨Al, nl, cl, e1⟩ : ∃ Al nl cl, u14 = .slice Al nl cl := by
          rcases hown.2 with ⟨e1, _⟩ | ⟨gz, cap, cur, e1, _⟩ <;> exact ⟨_, _, _, e1⟩
        subst e1
        have hih := hr.out.2.1.kept hbc
        obtain ⟨Aw, cw, e1, vs, y1, y2, y3⟩ := id hih
        subst e1
        have hnk : (hks.take k).length ≤ 1000000 := by rw [List.length_take]; have := HnC.out; omega
        have hbw := hb1.size
        have HPush : Hid (∀ (w7 : World) (gb cap : Nat) (o : Obj), w7.ownsRow w1.heap.size 60 3 (.slice (some ⟨gb, 0, none⟩) ((hks.take k).length + 1) cap) ((hks.take k).length + 1) (((List.zip (hks.take k) vs).map (fun x => hkRow x.1 x.2)).flatten ++ hkRow ⟨(f : Int), (g : Int), ls⟩ (.slice Al nl cl)) → (wc.alloc o).grownBy w7 (Value.slice Aw (hks.take k).length cw).ownBlock →
            RdRel w1 w7 hks (k + 1) A1 (.slice (some ⟨gb, 0, none⟩) ((hks.take k).length + 1) cap)) := hide (fun w7 gb cap o h1 h2 => by
          have hp := hih.push (o := o) (h := ⟨(f : Int), (g : Int), ls⟩) hbc.size ⟨_, hown⟩ _ y2 h1 h2
          refine ⟨hS1, ?_, below_grown_alloc hb1 hb1.size h2 (fun j hj => own_ge y2 j hj)⟩
          rw [HNx.out]
          exact hp)
        have HOwn := hide y2
        clear hown hS1 hbx hbc hb1 hih y1 y2 y3 hr HBW KN HNx HB1 HBd2 q1 q3
        generalize ((List.zip (hks.take k) vs).map (fun x => hkRow x.1 x.2)).flatten = X at *
        generalize (hks.take k).length = N at *
        go_wp2_with (first
          | (at_builtin; refine wpList_append_lies _ rfl _ _ 27 rfl w1.heap.size 60 j0 _ 3 40 Tryz.underlying27 hj0 hy0 hy1 hyb rfl (by omega) (.slice Aw N cw) N X (by rfl) ((HOwn.out).alloc _) ⟨wc.heap.size, 0, none⟩ 1 1 (hkRow ⟨(f : Int), (g : Int), ls⟩ (.slice Al nl cl)) (by rfl) (by rfl) (World.news_of_block (cs := (hkRow ⟨(f : Int), (g : Int), ls⟩ (.slice Al nl cl)).toArray) (t := 60) (fr := (0, 0)) (heap_alloc_new wc _)) (by intro u hu; simp [hkRow] at hu; rcases hu with rfl | rfl | rfl <;> rfl) (by omega) (by unfold maxLen; omega) (by omega) (by simp; omega) (wc.heap.size + 1) (by simp) ?_; intro g2 cap2 w7 hown1 hgrow hat hlt2))
        have HR := hide (HPush.out _ _ _ _ hown1 hgrow)
        clear hown1 hgrow hat HPush
        go_roundw
        case rel => exact ⟨k + 1, A1, c1, rfl, by omega, hcr, by omega, HR⟩
        case measure => simp [slLen]; omega
    · obtain rfl : k = hks.length := by omega
      have hih := hr.out.2.1
      rw [List.take_length] at hih
      obtain ⟨Aw, cw, e1, vs, y1, y2, y3⟩ := id hih
      subst e1
      rw [rsB_end] at hcl hn ⊢
      simp only [List.length_nil] at hcl hn ⊢
      have HF : Hid (RdRes w nf nt hks (.returned (.tuple #[.string nf, .string nt, .slice Aw hks.length cw, .bool true])) wr) := hide ⟨Aw, cw, rfl, hih.at_, HB.out.trans (hr.out.2.2.mono HB.out.size)⟩
      clear hr hih y1 y2 y3
      go_wp2
      go_returns
      exact HF.out
end Go.Proofs.YtgegialfhkgggaaGreatDoor
namespace Go.Proofs.YtgegialfhkgggaaGreatDoor
open Go.RowKit Go.Proofs.YtgegialfhkgggaaGreatDoor.Lines
attribute [local go_sem ↓] Go.wp_at_zero Go.wp_at_succ

theorem tab10_on {w W : World} (h : Tab10 w.heap.size w) (hb : Below w.heap.size w W) : Tab10 W.heap.size W := fun w' h' => h w' (hb.trans (h'.mono hb.size))
/-- What it leaves. -/
def UnRes (w : World) (l : List UInt8) (e : Ending) (w' : World) : Prop := e = .returned (.string (toB l)) ∧ Below w.heap.size w w'

set_option maxHeartbeats 4000000 in
set_option maxRecDepth 100000 in
theorem unified_any (nf nt s : ByteArray) (Q : List Pe) (es : List Ct) (p : Nat) (A : Option Addr) (cA : Nat) (n1 : nf.size ≤ 1000) (n2 : nt.size ≤ 1000) (hs : s.size ≤ 100000) (hasc : AscC s.size es p) (hj : Joined s es p) (hn : es.length ≤ 2000) (hsum : sumT es ≤ 100000000) (hQ : Q.length = es.length) (hP : PrepC s es (edAt (Q.map toEd)))
    (h0 : HKs s (fullOf s es) ≠ []) (w : World) (hT : Tab10 w.heap.size w) (hA : RowsAt w A 7 (Q.map peCells)) :
    Calls Tryz.prog 11 #[.string nf, .string nt, .string s, .slice A es.length cA] w (UnRes w (uniT nf.data.toList nt.data.toList (HKs s (fullOf s es)))) := by
  have HT := hide (fun W h => editsTo_any Q A cA (by omega) W h)
  have hUn := fun A c W h => toUni_all nf nt s es p _ A c hs hasc hj hn hsum hP W h
  have hMo := hkMore hasc hs hn hsum nf.data.toList nt.data.toList (by rw [size_list]; exact n1) (by rw [size_list]; exact n2)
  have HR := hide hA
  have HTb := hide hT
  have HF : Hid (∀ W A1, RowsAt W A1 8 ((Q.map toEd).map edCells) → RowsF W A1 es.length (edAt (Q.map toEd))) := hide (fun W A1 h => by
    have h2 := rowsF_of h
    rw [List.length_map, hQ] at h2
    exact h2)
  unfold EdsRes at HT
  rw [List.length_map, hQ] at HT
  generalize HKs s (fullOf s es) = hks at *
  generalize es.length = n at *
  have HZ := hide (fun A c W (h : HksRd W A hks) (ht : Tab10 W.heap.size W) => zz_any nf nt hks A c W h0 n1 n2 hMo h ht)
  obtain ⟨m, hm⟩ : ∃ m, hks.length = m := ⟨_, rfl⟩
  have HU : Hid (∀ A c W, RowsF W A n (edAt (Q.map toEd)) → Calls Tryz.prog 25 #[.string nf, .string nt, .string s, .slice A n c] W (fun e w' => ∃ A2 c2, e = .returned (.agg #[.string nf, .string nt, .slice A2 m c2]) ∧
      HksRd w' A2 hks ∧ Below W.heap.size W w')) := hide (fun A c W h => (hUn A c W h).mono (by
    rintro e w' ⟨A2, c2, rfl, h1, h2⟩
    exact ⟨A2, c2, by rw [hm], h1, h2⟩))
  rw [hm] at HZ
  generalize uniT nf.data.toList nt.data.toList hks = l at *
  clear hA hT hasc hj hP hQ hm hsum hUn hMo h0
  go_enter Tryz.func11, Tryz.ntmps11
  go_wp2_with fail
  refine (HT.out _ HR.out).mono ?_
  rintro e w1 ⟨A1, c1, rfl, _, hr1, hb1⟩
  have hR1 := hide (HF.out _ _ hr1)
  have HB1 := hide hb1
  clear hr1 hb1 HT HR HF
  go_wp2_with fail
  refine (HU.out _ _ _ hR1.out).mono ?_
  rintro e w2 ⟨A2, c2, rfl, hread, hb2⟩
  have HB2 := hide (HB1.out.trans (hb2.mono HB1.out.size))
  have HRd := hide hread
  clear hread hb2 hR1 HU
  go_wp2_with fail
  refine (HZ.out _ _ _ HRd.out (tab10_on HTb.out HB2.out)).mono ?_
  rintro e w3 ⟨rfl, hb3⟩
  have HB3 := hide (HB2.out.trans (hb3.mono HB2.out.size))
  clear hb3 HZ
  go_wp2
  go_ret
  exact ⟨rfl, HB3.out⟩
end Go.Proofs.YtgegialfhkgggaaGreatDoor
namespace Go.Proofs.YtgegialfhkgggaaGreatDoor
open Go.RowKit Stab Go.Proofs.YtgegialfhkgggaaGreatDoor.Lines Mye
attribute [local go_sem ↓] Go.wp_at_zero Go.wp_at_succ

/-- What the three calls need. -/
def UniThree (nf nt s : ByteArray) (Q : List Pe) (n : Nat) (t : List UInt8) : Prop := ∃ (l : List UInt8) (hks : List (Hk.HK ByteArray)),
  (∀ A cA W, Tab10 W.heap.size W → RowsAt W A 7 (Q.map peCells) → Calls Tryz.prog 11 #[.string nf, .string nt, .string s, .slice A n cA] W (UnRes W l)) ∧
  (∀ W, Calls Tryz.prog 14 #[.string (toB l)] W (RdRes W nf nt hks)) ∧
  ∀ A cA W, HksAt W A hks → Calls Tryz.prog 15 #[.string s, .slice A hks.length cA, .bool false] W fun e w' => e = .returned (.tuple #[.string (toB t), .bool true]) ∧ Below W.heap.size W w'

theorem uniThree (nf nt s : ByteArray) (Q : List Pe) (es : List Ct) (p : Nat) (n1 : nf.size ≤ 1000) (n2 : nt.size ≤ 1000) (h1 : noTen nf.data.toList) (h2 : noTen nt.data.toList) (hs : s.size ≤ 100000) (hasc : AscC s.size es p) (hj : Joined s es p) (hn : es.length ≤ 2000) (hsum : sumT es ≤ 100000000) (hQ : Q.length = es.length) (hP : PrepC s es (edAt (Q.map toEd)))
    (s0 : s.size ≠ 0) (t0 : textC s.data.toList es ≠ []) (hne : textC s.data.toList es ≠ s.data.toList) : UniThree nf nt s Q es.length (textC s.data.toList es) := by
  have hG := hkGen hasc hs hn hsum
  have hM := hkMore hasc hs hn hsum nf.data.toList nt.data.toList (by rw [size_list]; exact n1) (by rw [size_list]; exact n2)
  have hk0 : HKs s (fullOf s es) ≠ [] := by
    intro e
    have h := hG.text
    rw [e] at h
    have e2 : (Hk.pst (linesB s) ([] : List (Hk.HK ByteArray))) = ([], 0) := rfl
    rw [e2] at h
    simp only [List.nil_append, List.drop_zero] at h
    rw [flatB_lines] at h
    exact hne h.symm
  have hfl := foldC_len s.data.toList (size_list s) hasc
  have hp := ascC_le hasc
  have htl : (textC s.data.toList es).length ≤ 100300000 := by
    unfold textC
    rw [List.length_append, List.length_drop, size_list]
    omega
  refine ⟨uniT nf.data.toList nt.data.toList (HKs s (fullOf s es)), HKs s (fullOf s es), fun A cA W hT hA => unified_any nf nt s Q es p A cA n1 n2 hs hasc hj hn hsum hQ hP hk0 W hT hA,
    fun W => read_any nf nt _ hk0 h1 h2 n1 n2 hM (fun h hh => ?_) W, fun A cA W hA => ?_⟩
  · obtain ⟨a, b⟩ := hG.both s0 t0 h hh
    exact ⟨by rw [cntF_olds]; exact a, by rw [cntT_news]; exact b⟩
  · have h := patch_any s (HKs s (fullOf s es)) A cA hs hG.pat (by have := hG.len; omega) hG.out (fun h hh => (hG.good h hh).2.2.2.2.2) (fun h hh => (hG.good h hh).1) (by rw [hG.text]; omega) W hA
    rw [hG.text] at h
    exact h
/-- Of a script. -/
theorem uni_ops {s t : ByteArray} {ops : List Opn} (nf nt : ByteArray) (n1 : nf.size ≤ 1000) (n2 : nt.size ≤ 1000) (h1 : noTen nf.data.toList) (h2 : noTen nt.data.toList) (hscr : Script (eqL (linesB s) (linesB t)) ops (linesB s).length (linesB t).length) (hs : s.size ≤ 100000) (ht : t.size ≤ 100000) (hn : ops.length ≤ 2000)
    (s0 : s.size ≠ 0) (t0 : t.size ≠ 0) (hne : s ≠ t) : UniThree nf nt s (ops.map (peOf (linesB t))) ops.length t.data.toList := by
  have hF := ops_f hscr (by rw [linesB_len]; exact Nat.le_refl _) (by rw [linesB_len]; exact Nat.le_refl _)
  obtain ⟨p, a1, a2, _⟩ := hF.asc
  have hl : (ops.map (ctOp s (linesB t))).length = ops.length := by simp
  have hsum : sumT (ops.map (ctOp s (linesB t))) ≤ 100000000 := by
    have := hF.sum
    rw [linesB_len, off_size] at this
    omega
  have htx := ops_text hscr
  have := uniThree nf nt s (ops.map (peOf (linesB t))) (ops.map (ctOp s (linesB t))) p n1 n2 h1 h2 hs a1 a2 (by omega) hsum (by simp) (prepC_ops hscr (by omega) (by omega)) s0 (by
    rw [htx]; intro e
    have h3 := size_list t
    rw [e] at h3; simp at h3; omega) (by rw [htx]; intro e; exact hne (eq_of_list e.symm))
  rw [hl, htx] at this
  exact this
end Go.Proofs.YtgegialfhkgggaaGreatDoor
