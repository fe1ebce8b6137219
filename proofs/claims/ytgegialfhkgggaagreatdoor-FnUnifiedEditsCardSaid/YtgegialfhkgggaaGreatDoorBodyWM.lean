/- Walk: spec.body: the lines of a hunk are read. No condition but sizes. -/
import Derived.Test.YtgegialfhkgggaaGreatDoorPs
import Derived.Test.YtgegialfhkgggaaGreatDoorPp
import Derived.Test.YtgegialfhkgggaaGreatDoorZzM
set_option linter.unusedVariables false
set_option linter.unusedSimpArgs false
namespace Go.Proofs.YtgegialfhkgggaaGreatDoor
open Go.RowKit Go.Proofs.YtgegialfhkgggaaGreatDoor.Lines
attribute [local go_sem ↓] Go.wp_at_zero Go.wp_at_succ

/-- The lines that are left: those of the hunk from the j-th on, and what follows. -/
def flB (ls : List (Nat × ByteArray)) (restB : List ByteArray) (j : Nat) : List ByteArray := (((ls.drop j).map lnLs).flatten.map toB) ++ restB
theorem flB_step {ls : List (Nat × ByteArray)} {restB : List ByteArray} {j : Nat} (h : j < ls.length) : flB ls restB j = (lnLs ls[j]).map toB ++ flB ls restB (j + 1) := by
  unfold flB
  rw [List.drop_eq_getElem_cons h, List.map_cons, List.flatten_cons, List.map_append, List.append_assoc]
theorem flB_end (ls : List (Nat × ByteArray)) (restB : List ByteArray) : flB ls restB ls.length = restB := by simp [flB]
/-- What follows does not begin with a backslash. -/
def okRest (l : List ByteArray) : Prop := ∀ b r, l = b :: r → b.data.toList.head? ≠ some 92
theorem signB_ne92 (k : Nat) : signB k ≠ 92 := by unfold signB; (repeat' split) <;> decide
theorem lnLs_cons (x : Nat × ByteArray) : ∃ t r, lnLs x = (signB x.1 :: t) :: r := by
  unfold lnLs
  split
  · exact ⟨_, _, rfl⟩
  · exact ⟨_, _, rfl⟩
theorem flB_ok {ls : List (Nat × ByteArray)} {restB : List ByteArray} (h : okRest restB) (j : Nat) : okRest (flB ls restB j) := by
  by_cases hj : j < ls.length
  · rw [flB_step hj]
    obtain ⟨t, r, e⟩ := lnLs_cons ls[j]
    rw [e]
    intro b q hq
    rw [List.map_cons, List.cons_append] at hq
    injection hq with h1 h2
    rw [← h1, toB_list, List.head?_cons]
    intro h3
    injection h3 with h3
    exact signB_ne92 _ h3
  · unfold flB
    rw [List.drop_of_length_le (by omega)]
    simpa using h
theorem cntF_drop {ls : List (Nat × ByteArray)} {j : Nat} (h : j < ls.length) : cntF (ls.drop j) = cntF (ls.drop (j + 1)) + (if ls[j].1 = 1 then 0 else 1) := by
  rw [List.drop_eq_getElem_cons h]
  unfold cntF
  rw [List.filter_cons]
  by_cases c : ls[j].1 = 1
  · rw [if_neg (by simp [c]), if_pos c]; rfl
  · rw [if_pos (by simp [c]), if_neg c, List.length_cons]
theorem cntT_drop {ls : List (Nat × ByteArray)} {j : Nat} (h : j < ls.length) : cntT (ls.drop j) = cntT (ls.drop (j + 1)) + (if ls[j].1 = 0 then 0 else 1) := by
  rw [List.drop_eq_getElem_cons h]
  unfold cntT
  rw [List.filter_cons]
  by_cases c : ls[j].1 = 0
  · rw [if_neg (by simp [c]), if_pos c]; rfl
  · rw [if_pos (by simp [c]), if_neg c, List.length_cons]
theorem strs_tail {w : World} {b o c : Nat} {a : ByteArray} {fs : List ByteArray} (h : Strs w (some ⟨b, o, none⟩) (a :: fs)) (hc : fs.length + 1 ≤ c) : Strs w (if c = 1 then some ⟨b, o, none⟩ else some ⟨b, o + 1, none⟩) fs := by
  intro i hi
  rw [if_neg (by omega)]
  obtain ⟨b', o', e, h1⟩ := h (i + 1) (by simpa using hi)
  cases e
  refine ⟨b, o + 1, rfl, ?_⟩
  rw [show o + 1 + i = o + (i + 1) by omega, h1]
  simp
theorem strs_head {w : World} {A : Option Addr} {a : ByteArray} {fs : List ByteArray} (h : Strs w A (a :: fs)) : ∃ b o, A = some ⟨b, o, none⟩ ∧ w.cell? ⟨b, o, none⟩ = some (.string a) := by
  obtain ⟨b, o, e, h1⟩ := h 0 (by simp)
  exact ⟨b, o, e, by simpa using h1⟩
theorem at_zero {c : UInt8} {t : List UInt8} (h : 0 < (toB (c :: t)).size) : (toB (c :: t))[0]'h = c := rfl
theorem ext_one (c : UInt8) (t : List UInt8) : (toB (c :: t)).extract 1 (toB (c :: t)).size = toB t := by
  apply eq_of_list
  rw [extract_list, toB_list, toB_list, toB_size, List.length_cons, List.drop_one, List.tail_cons, List.take_of_length_le (by omega)]
theorem trim_nl (t : List UInt8) : Lib.trimSuffix (t ++ [10]) [10] = t := by
  unfold Lib.trimSuffix
  rw [hasSuf_ends, endsN_snoc, if_pos rfl, List.length_append, List.length_singleton, Nat.add_sub_cancel, List.take_left]
theorem trimS_nl (s t : ByteArray) (h : s.data.toList = t.data.toList ++ [10]) (hs : s.size ≤ 9223372036854775807) (W : World) : Calls Tryz.prog 31 #[.string s, .string ⟨#[10]⟩] W fun e w' => e = .returned (.string t) ∧ W = w' := by
  refine (Tryz.strings_TrimSuffix s ⟨#[10]⟩ W hs).mono ?_
  rintro e w' ⟨rfl, hw⟩
  rw [h, show (⟨#[10]⟩ : ByteArray).data.toList = [10] from rfl, trim_nl]
  exact ⟨by rw [show (⟨t.data.toList.toArray⟩ : ByteArray) = t from toB_of t], hw.symm⟩
theorem signIx (k : Nat) (hk : k ≤ 2) (W : World) : Calls Tryz.prog 55 #[.string ⟨#[45, 43, 32]⟩, .int .u8 ((signB k).toNat : Int)] W fun e w' => e = .returned (.int .i64 k) ∧ W = w' := by
  refine (indexByte_any ⟨#[45, 43, 32]⟩ ((signB k).toNat : Int) W).mono ?_
  rintro e w' ⟨rfl, hw⟩
  refine ⟨ret_int ?_, hw.symm⟩
  obtain rfl | rfl | rfl : k = 0 ∨ k = 1 ∨ k = 2 := by omega
  · decide
  · decide
  · decide
def slLen : Value → Nat
  | .slice _ n _ => n
  | _ => 0
/-- What it leaves. -/
def BdRes (w0 w : World) (ls : List (Nat × ByteArray)) (restB : List ByteArray) (e : Ending) (w' : World) : Prop := ∃ v A c, e = .returned (.tuple #[v, .slice A restB.length c, .bool true]) ∧ restB.length ≤ c ∧ w'.ownsRow w.heap.size 65 2 v ls.length (lnRow ls) ∧ Strs w0 A restB ∧ Below w.heap.size w w'
/-- The relation of its loop. -/
def BdRel (w0 w wr : World) (ls : List (Nat × ByteArray)) (restB : List ByteArray) (j : Nat) (A : Option Addr) (rv : Value) : Prop := Strs w0 A (flB ls restB j) ∧ wr.ownsRow w.heap.size 65 2 rv j (lnRow (ls.take j)) ∧ Below w.heap.size w wr
theorem BdRel.push {w0 w wr w1 : World} {ls : List (Nat × ByteArray)} {restB : List ByteArray} {j g cap : Nat} {A A2 : Option Addr} {rv : Value} {x : Nat × ByteArray} {o : Obj} (H : BdRel w0 w wr ls restB j A rv) (hj : j < ls.length) (hx : ls[j] = x) (hS : Strs w0 A2 (flB ls restB (j + 1)))
    (hown : w1.ownsRow w.heap.size 65 2 (.slice (some ⟨g, 0, none⟩) (j + 1) cap) (j + 1) (lnRow (ls.take j) ++ lnCells x)) (hgr : (wr.alloc o).grownBy w1 rv.ownBlock) : BdRel w0 w w1 ls restB (j + 1) A2 (.slice (some ⟨g, 0, none⟩) (j + 1) cap) := by
  obtain ⟨h1, h2, h3⟩ := H
  refine ⟨hS, ?_, below_grown_alloc h3 h3.size hgr (fun k hk => own_ge h2 k hk)⟩
  rw [List.take_succ_eq_append_getElem hj, lnRow_app, hx]
  have e : lnRow [x] = lnCells x := by simp [lnRow]
  rw [e]
  exact hown

set_option maxHeartbeats 16000000 in
set_option maxRecDepth 100000 in
theorem body_any (ls : List (Nat × ByteArray)) (restB : List ByteArray) (A : Option Addr) (c : Nat) (hk : ∀ x ∈ ls, x.1 ≤ 2) (hsz : ∀ x ∈ ls, x.2.size ≤ 100000000000) (hlen : (flB ls restB 0).length ≤ 100000000000) (hll : ls.length ≤ 100000000000) (hc : (flB ls restB 0).length ≤ c)
    (hok : okRest restB) (hf : cntF ls ≤ 999999999) (ht : cntT ls ≤ 999999999) (w0 w : World) (h0 : Below w0.heap.size w0 w) (hS : Strs w0 A (flB ls restB 0)) :
    Calls Tryz.prog 33 #[.slice A (flB ls restB 0).length c, .int .i64 (cntF ls), .int .i64 (cntT ls)] w (BdRes w0 w ls restB) := by
  obtain ⟨i0, hi0, hz0, hz1, hzb⟩ := info_parts info_iln
  have HK := hide hk
  have HSZ := hide hsz
  have HOK := hide (fun j => flB_ok (ls := ls) hok j)
  have HS := hide (fun (_ : World) => hS)
  have H0 := hide h0
  clear hk hsz hok hS h0
  go_enter Tryz.func33, Tryz.ntmps33
  go_wp2_with fail
  go_loopw [0, 1, 2, 9] (fun lv ov nv rv wr => ∃ (j : Nat) (A' : Option Addr) (c' : Nat), lv = .slice A' (flB ls restB j).length c' ∧ ov = .int .i64 (cntF (ls.drop j)) ∧ nv = .int .i64 (cntT (ls.drop j)) ∧ j ≤ ls.length ∧ (flB ls restB j).length ≤ c' ∧ (flB ls restB j).length ≤ 100000000000 ∧ cntF (ls.drop j) ≤ 999999999 ∧ cntT (ls.drop j) ≤ 999999999 ∧ Hid (BdRel w0 w wr ls restB j A' rv)) (fun lv _ _ _ _ => slLen lv)
  case atStart => exact ⟨0, A, c, rfl, by rw [List.drop_zero], by rw [List.drop_zero], Nat.zero_le _, hc, hlen, by rw [List.drop_zero]; exact hf, by rw [List.drop_zero]; exact ht, hide ⟨HS.out w, ⟨rfl, Or.inr ⟨w.heap.size, 0, #[], rfl, Nat.le_refl _, Blk.new _ _ _, Nat.le_refl _, by unfold maxLen; omega, rfl, rfl⟩⟩, by go_grown⟩⟩
  case round =>
    obtain ⟨j, A', c', rfl, rfl, rfl, hj, hcl, hn, hof, hot, hr⟩ := hrel
    clear hlen hc hf ht HS
    by_cases hjl : j < ls.length
    · have hst := flB_step (restB := restB) hjl
      have hkd := HK.out ls[j] (List.getElem_mem hjl)
      have htz := HSZ.out ls[j] (List.getElem_mem hjl)
      have d1 := cntF_drop hjl
      have d2 := cntT_drop hjl
      have hok1 := HOK.out (j + 1)
      have HP : Hid (∀ (w1 : World) (g cap : Nat) (A2 : Option Addr) (o : Obj), Strs w0 A2 (flB ls restB (j + 1)) → w1.ownsRow w.heap.size 65 2 (.slice (some ⟨g, 0, none⟩) (j + 1) cap) (j + 1) (lnRow (ls.take j) ++ lnCells ls[j]) → (wr.alloc o).grownBy w1 u9.ownBlock → BdRel w0 w w1 ls restB (j + 1) A2 (.slice (some ⟨g, 0, none⟩) (j + 1) cap)) := hide (fun w1 g cap A2 o h1 h2 h3 => hr.out.push hjl rfl h1 h2 h3)
      have HS := hide (fun (_ : World) => hr.out.1)
      have HOwn := hide hr.out.2.1
      have HB := hide hr.out.2.2
      have HB0 := hide (H0.out.trans (HB.out.mono H0.out.size))
      have hwz : w.heap.size ≤ wr.heap.size := HB.out.size
      clear hr
      obtain ⟨x, hx⟩ : ∃ x, ls[j] = x := ⟨_, rfl⟩
      rw [hx] at hst hkd htz d1 d2 HP
      obtain ⟨kd, tx⟩ := x
      dsimp only at hkd htz d1 d2
      generalize lnRow (ls.take j) = X at *
      obtain ⟨O1, hO1⟩ : ∃ x, cntF (ls.drop (j + 1)) = x := ⟨_, rfl⟩
      obtain ⟨N1, hN1⟩ : ∃ x, cntT (ls.drop (j + 1)) = x := ⟨_, rfl⟩
      obtain ⟨fs, hfs⟩ : ∃ x, flB ls restB (j + 1) = x := ⟨_, rfl⟩
      rw [hO1] at d1
      rw [hN1] at d2
      rw [hfs] at hst hok1
      have EO := hide (fun (_ : World) => hO1)
      have EN := hide (fun (_ : World) => hN1)
      have EF := hide (fun (_ : World) => hfs)
      clear hO1 hN1 hfs
      obtain rfl | rfl | rfl : kd = 0 ∨ kd = 1 ∨ kd = 2 := by omega
      · have e1 : cntF (ls.drop j) = O1 + 1 := by rw [d1]; rfl
        have e2 : cntT (ls.drop j) = N1 := by rw [d2]; rfl
        rw [e1] at hof ⊢
        rw [e2] at hot ⊢
        cases hen : endsN tx.data.toList
        · skip
          have hls : lnLs (0, tx) = [signB 0 :: (tx.data.toList ++ [10]), noNl] := by unfold lnLs; rw [if_neg (by rw [hen]; simp)]
          rw [hls] at hst
          simp only [List.map_cons, List.map_nil, List.cons_append, List.nil_append] at hst
          have hS := HS.out w
          rw [hst] at hS hcl hn ⊢
          simp only [List.length_cons] at hcl hn ⊢
          obtain ⟨b, o, rfl, ha⟩ := strs_head hS
          have hS1 := strs_tail hS (c := c') (by simp only [List.length_cons]; omega)
          rw [if_neg (by omega)] at hS1
          obtain ⟨b', o', e', ha2⟩ := strs_head hS1
          cases e'
          have HS2 : Hid (Strs w0 (if c' = 2 then some ⟨b, o + 1, none⟩ else some ⟨b, o + 1 + 1, none⟩) fs) := hide (by
            have h := strs_tail hS1 (c := c' - 1) (by omega)
            by_cases q : c' = 2
            · rw [if_pos (by omega)] at h; rw [if_pos q]; exact h
            · rw [if_neg (by omega)] at h; rw [if_neg q]; exact h)
          have ga := (HB0.out.cell (p := ⟨b, o, none⟩) (lt_of_cell ha)).trans ha
          have ga2 : wr.cell? ⟨b, o + 1, none⟩ = some (.string ⟨#[92, 32, 78, 111, 32, 110, 101, 119, 108, 105, 110, 101, 32, 97, 116, 32, 101, 110, 100, 32, 111, 102, 32, 102, 105, 108, 101, 10]⟩) := (HB0.out.cell (p := ⟨b, o + 1, none⟩) (lt_of_cell ha2)).trans ha2
          have hA1 := ext_one (signB 0) (tx.data.toList ++ [10])
          have hA0 : ∀ h : 0 < (toB (signB 0 :: (tx.data.toList ++ [10]))).size, (toB (signB 0 :: (tx.data.toList ++ [10])))[0]'h = signB 0 := fun h => rfl
          have haz : (toB (signB 0 :: (tx.data.toList ++ [10]))).size = tx.size + 2 := by rw [toB_size]; simp only [List.length_cons, List.length_append, List.length_nil, size_list]
          have HT : Hid (∀ W, Calls Tryz.prog 31 #[.string ((toB (signB 0 :: (tx.data.toList ++ [10]))).extract 1 (toB (signB 0 :: (tx.data.toList ++ [10]))).size), .string ⟨#[10]⟩] W fun e w' => e = .returned (.string tx) ∧ W = w') := hide (by rw [hA1]; exact trimS_nl _ tx (by rw [toB_list]) (by rw [toB_size]; simp only [List.length_append, List.length_cons, List.length_nil, size_list]; omega))
          clear hS hS1 ha ha2 hA1 HS
          obtain ⟨a, hae⟩ : ∃ a, toB (signB 0 :: (tx.data.toList ++ [10])) = a := ⟨_, rfl⟩
          simp only [hae] at ga hA0 haz HT
          have hsz1 : 0 < a.size := by omega
          have hsz2 : 1 ≤ a.size := by omega
          have hsz3 : a.size ≤ 100000000002 := by omega
          have HI : Hid (∀ W, Calls Tryz.prog 55 #[.string ⟨#[45, 43, 32]⟩, .int .u8 ((a[0]'hsz1).toNat : Int)] W fun e w' => e = .returned (.int .i64 (0 : Nat)) ∧ W = w') := hide (fun W => by have h0 := hA0 hsz1; rw [h0]; exact signIx 0 (by omega) W)
          clear hA0 haz hae hst d1 d2 e1 e2 hls
          go_wp2_with fail
          refine (HI.out _).mono ?_
          rintro e w1 ⟨rfl, rfl⟩
          go_wp2_with fail
          refine (HT.out _).mono ?_
          rintro e w1 ⟨rfl, rfl⟩
          go_wp2_with (first
            | (at_builtin; refine wpList_append_lies _ rfl _ _ 58 rfl w.heap.size 65 i0 _ 2 24 Tryz.underlying58 hi0 hz0 hz1 hzb rfl (by omega) u9 j X (by rfl) (HOwn.out.alloc _) ⟨wr.heap.size, 0, none⟩ 1 1 (lnCells (0, tx)) (by rfl) (by rfl) (World.news_of_block (cs := (lnCells (0, tx)).toArray) (t := 65) (fr := (0, 0)) (heap_alloc_new wr _)) (by simp [Value.oneCell', lnCells]) (by omega) (by unfold maxLen; omega) (by omega) (by simp; omega) (wr.heap.size + 1) (by simp) ?_; intro g2 cap2 w5 hown1 hgrow hat hlt2))
          have HR := hide (HP.out _ _ _ _ _ (by rw [EF.out w]; exact HS2.out) hown1 hgrow)
          clear hown1 hgrow hat
          go_roundw
          case rel => exact ⟨j + 1, _, c' - 1 - 1, by rw [EF.out w] <;> rfl, by rw [EO.out w] <;> go_num, by rw [EN.out w] <;> go_num, by omega, by rw [EF.out w]; first | omega | (simp only [List.length_nil, List.length_cons]; omega), by rw [EF.out w]; first | omega | (simp only [List.length_nil, List.length_cons]; omega), by rw [EO.out w]; omega, by rw [EN.out w]; omega, HR⟩
          case measure => (try simp [slLen]) <;> (try omega)
        · cases fs with
          | nil =>
            have hls : lnLs (0, tx) = [signB 0 :: tx.data.toList] := by unfold lnLs; rw [if_pos hen]
            rw [hls] at hst
            simp only [List.map_cons, List.map_nil, List.cons_append, List.nil_append] at hst
            have hS := HS.out w
            rw [hst] at hS hcl hn ⊢
            simp only [List.length_cons] at hcl hn ⊢
            obtain ⟨b, o, rfl, ha⟩ := strs_head hS
            have hS1 := strs_tail hS (c := c') (by omega)
            have ga := (HB0.out.cell (p := ⟨b, o, none⟩) (lt_of_cell ha)).trans ha
            have hA1 := ext_one (signB 0) tx.data.toList
            have hA0 : ∀ h : 0 < (toB (signB 0 :: tx.data.toList)).size, (toB (signB 0 :: tx.data.toList))[0]'h = signB 0 := fun h => rfl
            have haz : (toB (signB 0 :: tx.data.toList)).size = tx.size + 1 := by rw [toB_size]; simp only [List.length_cons, List.length_append, List.length_nil, size_list]
            have HX : Hid (∀ (_ : World), (toB (signB 0 :: tx.data.toList)).extract 1 (toB (signB 0 :: tx.data.toList)).size = tx) := hide (fun _ => by rw [hA1]; exact toB_of tx)
            have HS2 := hide hS1
            have hm0 : ¬ (0 : Int) < ((0 : Nat) : Int) := by omega
            simp only [List.length_nil] at hcl hn ⊢
            clear hS hS1 ha hA1 HS
            obtain ⟨a, hae⟩ : ∃ a, toB (signB 0 :: tx.data.toList) = a := ⟨_, rfl⟩
            simp only [hae] at ga hA0 haz HX
            have hsz1 : 0 < a.size := by omega
            have hsz2 : 1 ≤ a.size := by omega
            have hsz3 : a.size ≤ 100000000002 := by omega
            have HI : Hid (∀ W, Calls Tryz.prog 55 #[.string ⟨#[45, 43, 32]⟩, .int .u8 ((a[0]'hsz1).toNat : Int)] W fun e w' => e = .returned (.int .i64 (0 : Nat)) ∧ W = w') := hide (fun W => by have h0 := hA0 hsz1; rw [h0]; exact signIx 0 (by omega) W)
            clear hA0 haz hae hst d1 d2 e1 e2 hls
            go_wp2_with fail
            refine (HI.out _).mono ?_
            rintro e w1 ⟨rfl, rfl⟩
            go_wp2_with (first
              | (at_builtin; refine wpList_append_lies _ rfl _ _ 58 rfl w.heap.size 65 i0 _ 2 24 Tryz.underlying58 hi0 hz0 hz1 hzb rfl (by omega) u9 j X (by rfl) (HOwn.out.alloc _) ⟨wr.heap.size, 0, none⟩ 1 1 (lnCells (0, a.extract 1 a.size)) (by rfl) (by rfl) (World.news_of_block (cs := (lnCells (0, a.extract 1 a.size)).toArray) (t := 65) (fr := (0, 0)) (heap_alloc_new wr _)) (by simp [Value.oneCell', lnCells]) (by omega) (by unfold maxLen; omega) (by omega) (by simp; omega) (wr.heap.size + 1) (by simp) ?_; intro g2 cap2 w5 hown1 hgrow hat hlt2))
            rw [HX.out w] at hown1
            have HR := hide (HP.out _ _ _ _ _ (by rw [EF.out w]; exact HS2.out) hown1 hgrow)
            clear hown1 hgrow hat
            go_roundw
            case rel => exact ⟨j + 1, _, c' - 1, by rw [EF.out w] <;> rfl, by rw [EO.out w] <;> go_num, by rw [EN.out w] <;> go_num, by omega, by rw [EF.out w]; first | omega | (simp only [List.length_nil, List.length_cons]; omega), by rw [EF.out w]; first | omega | (simp only [List.length_nil, List.length_cons]; omega), by rw [EO.out w]; omega, by rw [EN.out w]; omega, HR⟩
            case measure => (try simp [slLen]) <;> (try omega)
          | cons nb fs' =>
            have hls : lnLs (0, tx) = [signB 0 :: tx.data.toList] := by unfold lnLs; rw [if_pos hen]
            rw [hls] at hst
            simp only [List.map_cons, List.map_nil, List.cons_append, List.nil_append] at hst
            have hS := HS.out w
            rw [hst] at hS hcl hn ⊢
            simp only [List.length_cons] at hcl hn ⊢
            obtain ⟨b, o, rfl, ha⟩ := strs_head hS
            have hS1 := strs_tail hS (c := c') (by omega)
            have ga := (HB0.out.cell (p := ⟨b, o, none⟩) (lt_of_cell ha)).trans ha
            have hA1 := ext_one (signB 0) tx.data.toList
            have hA0 : ∀ h : 0 < (toB (signB 0 :: tx.data.toList)).size, (toB (signB 0 :: tx.data.toList))[0]'h = signB 0 := fun h => rfl
            have haz : (toB (signB 0 :: tx.data.toList)).size = tx.size + 1 := by rw [toB_size]; simp only [List.length_cons, List.length_append, List.length_nil, size_list]
            have HX : Hid (∀ (_ : World), (toB (signB 0 :: tx.data.toList)).extract 1 (toB (signB 0 :: tx.data.toList)).size = tx) := hide (fun _ => by rw [hA1]; exact toB_of tx)
            rw [if_neg (by omega)] at hS1
            have HS2 := hide hS1
            obtain ⟨b', o', e', ha2⟩ := strs_head hS1
            cases e'
            have ga2 := (HB0.out.cell (p := ⟨b, o + 1, none⟩) (lt_of_cell ha2)).trans ha2
            have hnb : (nb.toList == [92, 32, 78, 111, 32, 110, 101, 119, 108, 105, 110, 101, 32, 97, 116, 32, 101, 110, 100, 32, 111, 102, 32, 102, 105, 108, 101, 10]) = false := by
              rw [ByteArray.toList_eq nb, beq_eq_false_iff_ne]
              intro h
              exact hok1 nb fs' rfl (by rw [h]; rfl)
            have hnb2 : ¬ nb.toList = [92, 32, 78, 111, 32, 110, 101, 119, 108, 105, 110, 101, 32, 97, 116, 32, 101, 110, 100, 32, 111, 102, 32, 102, 105, 108, 101, 10] := beq_eq_false_iff_ne.1 hnb
            have hc1 : ¬ c' = 1 := by omega
            have hm1 : (0 : Int) < ((fs'.length + 1 : Nat) : Int) := by omega
            clear ha2
            clear hS hS1 ha hA1 HS
            obtain ⟨a, hae⟩ : ∃ a, toB (signB 0 :: tx.data.toList) = a := ⟨_, rfl⟩
            simp only [hae] at ga hA0 haz HX
            have hsz1 : 0 < a.size := by omega
            have hsz2 : 1 ≤ a.size := by omega
            have hsz3 : a.size ≤ 100000000002 := by omega
            have HI : Hid (∀ W, Calls Tryz.prog 55 #[.string ⟨#[45, 43, 32]⟩, .int .u8 ((a[0]'hsz1).toNat : Int)] W fun e w' => e = .returned (.int .i64 (0 : Nat)) ∧ W = w') := hide (fun W => by have h0 := hA0 hsz1; rw [h0]; exact signIx 0 (by omega) W)
            clear hA0 haz hae hst d1 d2 e1 e2 hls
            go_wp2_with fail
            refine (HI.out _).mono ?_
            rintro e w1 ⟨rfl, rfl⟩
            go_wp2_with (first
              | (at_builtin; refine wpList_append_lies _ rfl _ _ 58 rfl w.heap.size 65 i0 _ 2 24 Tryz.underlying58 hi0 hz0 hz1 hzb rfl (by omega) u9 j X (by rfl) (HOwn.out.alloc _) ⟨wr.heap.size, 0, none⟩ 1 1 (lnCells (0, a.extract 1 a.size)) (by rfl) (by rfl) (World.news_of_block (cs := (lnCells (0, a.extract 1 a.size)).toArray) (t := 65) (fr := (0, 0)) (heap_alloc_new wr _)) (by simp [Value.oneCell', lnCells]) (by omega) (by unfold maxLen; omega) (by omega) (by simp; omega) (wr.heap.size + 1) (by simp) ?_; intro g2 cap2 w5 hown1 hgrow hat hlt2))
            rw [HX.out w] at hown1
            have HR := hide (HP.out _ _ _ _ _ (by rw [EF.out w]; exact HS2.out) hown1 hgrow)
            clear hown1 hgrow hat
            go_roundw
            case rel => exact ⟨j + 1, _, c' - 1, by rw [EF.out w] <;> rfl, by rw [EO.out w] <;> go_num, by rw [EN.out w] <;> go_num, by omega, by rw [EF.out w]; first | omega | (simp only [List.length_nil, List.length_cons]; omega), by rw [EF.out w]; first | omega | (simp only [List.length_nil, List.length_cons]; omega), by rw [EO.out w]; omega, by rw [EN.out w]; omega, HR⟩
            case measure => (try simp [slLen]) <;> (try omega)
      · have e1 : cntF (ls.drop j) = O1 := by rw [d1]; rfl
        have e2 : cntT (ls.drop j) = N1 + 1 := by rw [d2]; rfl
        rw [e1] at hof ⊢
        rw [e2] at hot ⊢
        by_cases hop : (0 : Int) < (O1 : Int)
        · have hnp : (0 : Int) < (N1 : Int) + 1 := by omega
          have hop' : 0 < O1 := by omega
          cases hen : endsN tx.data.toList
          · skip
            have hls : lnLs (1, tx) = [signB 1 :: (tx.data.toList ++ [10]), noNl] := by unfold lnLs; rw [if_neg (by rw [hen]; simp)]
            rw [hls] at hst
            simp only [List.map_cons, List.map_nil, List.cons_append, List.nil_append] at hst
            have hS := HS.out w
            rw [hst] at hS hcl hn ⊢
            simp only [List.length_cons] at hcl hn ⊢
            obtain ⟨b, o, rfl, ha⟩ := strs_head hS
            have hS1 := strs_tail hS (c := c') (by simp only [List.length_cons]; omega)
            rw [if_neg (by omega)] at hS1
            obtain ⟨b', o', e', ha2⟩ := strs_head hS1
            cases e'
            have HS2 : Hid (Strs w0 (if c' = 2 then some ⟨b, o + 1, none⟩ else some ⟨b, o + 1 + 1, none⟩) fs) := hide (by
              have h := strs_tail hS1 (c := c' - 1) (by omega)
              by_cases q : c' = 2
              · rw [if_pos (by omega)] at h; rw [if_pos q]; exact h
              · rw [if_neg (by omega)] at h; rw [if_neg q]; exact h)
            have ga := (HB0.out.cell (p := ⟨b, o, none⟩) (lt_of_cell ha)).trans ha
            have ga2 : wr.cell? ⟨b, o + 1, none⟩ = some (.string ⟨#[92, 32, 78, 111, 32, 110, 101, 119, 108, 105, 110, 101, 32, 97, 116, 32, 101, 110, 100, 32, 111, 102, 32, 102, 105, 108, 101, 10]⟩) := (HB0.out.cell (p := ⟨b, o + 1, none⟩) (lt_of_cell ha2)).trans ha2
            have hA1 := ext_one (signB 1) (tx.data.toList ++ [10])
            have hA0 : ∀ h : 0 < (toB (signB 1 :: (tx.data.toList ++ [10]))).size, (toB (signB 1 :: (tx.data.toList ++ [10])))[0]'h = signB 1 := fun h => rfl
            have haz : (toB (signB 1 :: (tx.data.toList ++ [10]))).size = tx.size + 2 := by rw [toB_size]; simp only [List.length_cons, List.length_append, List.length_nil, size_list]
            have HT : Hid (∀ W, Calls Tryz.prog 31 #[.string ((toB (signB 1 :: (tx.data.toList ++ [10]))).extract 1 (toB (signB 1 :: (tx.data.toList ++ [10]))).size), .string ⟨#[10]⟩] W fun e w' => e = .returned (.string tx) ∧ W = w') := hide (by rw [hA1]; exact trimS_nl _ tx (by rw [toB_list]) (by rw [toB_size]; simp only [List.length_append, List.length_cons, List.length_nil, size_list]; omega))
            clear hS hS1 ha ha2 hA1 HS
            obtain ⟨a, hae⟩ : ∃ a, toB (signB 1 :: (tx.data.toList ++ [10])) = a := ⟨_, rfl⟩
            simp only [hae] at ga hA0 haz HT
            have hsz1 : 0 < a.size := by omega
            have hsz2 : 1 ≤ a.size := by omega
            have hsz3 : a.size ≤ 100000000002 := by omega
            have HI : Hid (∀ W, Calls Tryz.prog 55 #[.string ⟨#[45, 43, 32]⟩, .int .u8 ((a[0]'hsz1).toNat : Int)] W fun e w' => e = .returned (.int .i64 (1 : Nat)) ∧ W = w') := hide (fun W => by have h0 := hA0 hsz1; rw [h0]; exact signIx 1 (by omega) W)
            clear hA0 haz hae hst d1 d2 e1 e2 hls
            go_wp2_with fail
            refine (HI.out _).mono ?_
            rintro e w1 ⟨rfl, rfl⟩
            go_wp2_with fail
            refine (HT.out _).mono ?_
            rintro e w1 ⟨rfl, rfl⟩
            go_wp2_with (first
              | (at_builtin; refine wpList_append_lies _ rfl _ _ 58 rfl w.heap.size 65 i0 _ 2 24 Tryz.underlying58 hi0 hz0 hz1 hzb rfl (by omega) u9 j X (by rfl) (HOwn.out.alloc _) ⟨wr.heap.size, 0, none⟩ 1 1 (lnCells (1, tx)) (by rfl) (by rfl) (World.news_of_block (cs := (lnCells (1, tx)).toArray) (t := 65) (fr := (0, 0)) (heap_alloc_new wr _)) (by simp [Value.oneCell', lnCells]) (by omega) (by unfold maxLen; omega) (by omega) (by simp; omega) (wr.heap.size + 1) (by simp) ?_; intro g2 cap2 w5 hown1 hgrow hat hlt2))
            have HR := hide (HP.out _ _ _ _ _ (by rw [EF.out w]; exact HS2.out) hown1 hgrow)
            clear hown1 hgrow hat
            go_roundw
            case rel => exact ⟨j + 1, _, c' - 1 - 1, by rw [EF.out w] <;> rfl, by rw [EO.out w] <;> go_num, by rw [EN.out w] <;> go_num, by omega, by rw [EF.out w]; first | omega | (simp only [List.length_nil, List.length_cons]; omega), by rw [EF.out w]; first | omega | (simp only [List.length_nil, List.length_cons]; omega), by rw [EO.out w]; omega, by rw [EN.out w]; omega, HR⟩
            case measure => (try simp [slLen]) <;> (try omega)
          · cases fs with
            | nil =>
              have hls : lnLs (1, tx) = [signB 1 :: tx.data.toList] := by unfold lnLs; rw [if_pos hen]
              rw [hls] at hst
              simp only [List.map_cons, List.map_nil, List.cons_append, List.nil_append] at hst
              have hS := HS.out w
              rw [hst] at hS hcl hn ⊢
              simp only [List.length_cons] at hcl hn ⊢
              obtain ⟨b, o, rfl, ha⟩ := strs_head hS
              have hS1 := strs_tail hS (c := c') (by omega)
              have ga := (HB0.out.cell (p := ⟨b, o, none⟩) (lt_of_cell ha)).trans ha
              have hA1 := ext_one (signB 1) tx.data.toList
              have hA0 : ∀ h : 0 < (toB (signB 1 :: tx.data.toList)).size, (toB (signB 1 :: tx.data.toList))[0]'h = signB 1 := fun h => rfl
              have haz : (toB (signB 1 :: tx.data.toList)).size = tx.size + 1 := by rw [toB_size]; simp only [List.length_cons, List.length_append, List.length_nil, size_list]
              have HX : Hid (∀ (_ : World), (toB (signB 1 :: tx.data.toList)).extract 1 (toB (signB 1 :: tx.data.toList)).size = tx) := hide (fun _ => by rw [hA1]; exact toB_of tx)
              have HS2 := hide hS1
              have hm0 : ¬ (0 : Int) < ((0 : Nat) : Int) := by omega
              simp only [List.length_nil] at hcl hn ⊢
              clear hS hS1 ha hA1 HS
              obtain ⟨a, hae⟩ : ∃ a, toB (signB 1 :: tx.data.toList) = a := ⟨_, rfl⟩
              simp only [hae] at ga hA0 haz HX
              have hsz1 : 0 < a.size := by omega
              have hsz2 : 1 ≤ a.size := by omega
              have hsz3 : a.size ≤ 100000000002 := by omega
              have HI : Hid (∀ W, Calls Tryz.prog 55 #[.string ⟨#[45, 43, 32]⟩, .int .u8 ((a[0]'hsz1).toNat : Int)] W fun e w' => e = .returned (.int .i64 (1 : Nat)) ∧ W = w') := hide (fun W => by have h0 := hA0 hsz1; rw [h0]; exact signIx 1 (by omega) W)
              clear hA0 haz hae hst d1 d2 e1 e2 hls
              go_wp2_with fail
              refine (HI.out _).mono ?_
              rintro e w1 ⟨rfl, rfl⟩
              go_wp2_with (first
                | (at_builtin; refine wpList_append_lies _ rfl _ _ 58 rfl w.heap.size 65 i0 _ 2 24 Tryz.underlying58 hi0 hz0 hz1 hzb rfl (by omega) u9 j X (by rfl) (HOwn.out.alloc _) ⟨wr.heap.size, 0, none⟩ 1 1 (lnCells (1, a.extract 1 a.size)) (by rfl) (by rfl) (World.news_of_block (cs := (lnCells (1, a.extract 1 a.size)).toArray) (t := 65) (fr := (0, 0)) (heap_alloc_new wr _)) (by simp [Value.oneCell', lnCells]) (by omega) (by unfold maxLen; omega) (by omega) (by simp; omega) (wr.heap.size + 1) (by simp) ?_; intro g2 cap2 w5 hown1 hgrow hat hlt2))
              rw [HX.out w] at hown1
              have HR := hide (HP.out _ _ _ _ _ (by rw [EF.out w]; exact HS2.out) hown1 hgrow)
              clear hown1 hgrow hat
              go_roundw
              case rel => exact ⟨j + 1, _, c' - 1, by rw [EF.out w] <;> rfl, by rw [EO.out w] <;> go_num, by rw [EN.out w] <;> go_num, by omega, by rw [EF.out w]; first | omega | (simp only [List.length_nil, List.length_cons]; omega), by rw [EF.out w]; first | omega | (simp only [List.length_nil, List.length_cons]; omega), by rw [EO.out w]; omega, by rw [EN.out w]; omega, HR⟩
              case measure => (try simp [slLen]) <;> (try omega)
            | cons nb fs' =>
              have hls : lnLs (1, tx) = [signB 1 :: tx.data.toList] := by unfold lnLs; rw [if_pos hen]
              rw [hls] at hst
              simp only [List.map_cons, List.map_nil, List.cons_append, List.nil_append] at hst
              have hS := HS.out w
              rw [hst] at hS hcl hn ⊢
              simp only [List.length_cons] at hcl hn ⊢
              obtain ⟨b, o, rfl, ha⟩ := strs_head hS
              have hS1 := strs_tail hS (c := c') (by omega)
              have ga := (HB0.out.cell (p := ⟨b, o, none⟩) (lt_of_cell ha)).trans ha
              have hA1 := ext_one (signB 1) tx.data.toList
              have hA0 : ∀ h : 0 < (toB (signB 1 :: tx.data.toList)).size, (toB (signB 1 :: tx.data.toList))[0]'h = signB 1 := fun h => rfl
              have haz : (toB (signB 1 :: tx.data.toList)).size = tx.size + 1 := by rw [toB_size]; simp only [List.length_cons, List.length_append, List.length_nil, size_list]
              have HX : Hid (∀ (_ : World), (toB (signB 1 :: tx.data.toList)).extract 1 (toB (signB 1 :: tx.data.toList)).size = tx) := hide (fun _ => by rw [hA1]; exact toB_of tx)
              rw [if_neg (by omega)] at hS1
              have HS2 := hide hS1
              obtain ⟨b', o', e', ha2⟩ := strs_head hS1
              cases e'
              have ga2 := (HB0.out.cell (p := ⟨b, o + 1, none⟩) (lt_of_cell ha2)).trans ha2
              have hnb : (nb.toList == [92, 32, 78, 111, 32, 110, 101, 119, 108, 105, 110, 101, 32, 97, 116, 32, 101, 110, 100, 32, 111, 102, 32, 102, 105, 108, 101, 10]) = false := by
                rw [ByteArray.toList_eq nb, beq_eq_false_iff_ne]
                intro h
                exact hok1 nb fs' rfl (by rw [h]; rfl)
              have hnb2 : ¬ nb.toList = [92, 32, 78, 111, 32, 110, 101, 119, 108, 105, 110, 101, 32, 97, 116, 32, 101, 110, 100, 32, 111, 102, 32, 102, 105, 108, 101, 10] := beq_eq_false_iff_ne.1 hnb
              have hc1 : ¬ c' = 1 := by omega
              have hm1 : (0 : Int) < ((fs'.length + 1 : Nat) : Int) := by omega
              clear ha2
              clear hS hS1 ha hA1 HS
              obtain ⟨a, hae⟩ : ∃ a, toB (signB 1 :: tx.data.toList) = a := ⟨_, rfl⟩
              simp only [hae] at ga hA0 haz HX
              have hsz1 : 0 < a.size := by omega
              have hsz2 : 1 ≤ a.size := by omega
              have hsz3 : a.size ≤ 100000000002 := by omega
              have HI : Hid (∀ W, Calls Tryz.prog 55 #[.string ⟨#[45, 43, 32]⟩, .int .u8 ((a[0]'hsz1).toNat : Int)] W fun e w' => e = .returned (.int .i64 (1 : Nat)) ∧ W = w') := hide (fun W => by have h0 := hA0 hsz1; rw [h0]; exact signIx 1 (by omega) W)
              clear hA0 haz hae hst d1 d2 e1 e2 hls
              go_wp2_with fail
              refine (HI.out _).mono ?_
              rintro e w1 ⟨rfl, rfl⟩
              go_wp2_with (first
                | (at_builtin; refine wpList_append_lies _ rfl _ _ 58 rfl w.heap.size 65 i0 _ 2 24 Tryz.underlying58 hi0 hz0 hz1 hzb rfl (by omega) u9 j X (by rfl) (HOwn.out.alloc _) ⟨wr.heap.size, 0, none⟩ 1 1 (lnCells (1, a.extract 1 a.size)) (by rfl) (by rfl) (World.news_of_block (cs := (lnCells (1, a.extract 1 a.size)).toArray) (t := 65) (fr := (0, 0)) (heap_alloc_new wr _)) (by simp [Value.oneCell', lnCells]) (by omega) (by unfold maxLen; omega) (by omega) (by simp; omega) (wr.heap.size + 1) (by simp) ?_; intro g2 cap2 w5 hown1 hgrow hat hlt2))
              rw [HX.out w] at hown1
              have HR := hide (HP.out _ _ _ _ _ (by rw [EF.out w]; exact HS2.out) hown1 hgrow)
              clear hown1 hgrow hat
              go_roundw
              case rel => exact ⟨j + 1, _, c' - 1, by rw [EF.out w] <;> rfl, by rw [EO.out w] <;> go_num, by rw [EN.out w] <;> go_num, by omega, by rw [EF.out w]; first | omega | (simp only [List.length_nil, List.length_cons]; omega), by rw [EF.out w]; first | omega | (simp only [List.length_nil, List.length_cons]; omega), by rw [EO.out w]; omega, by rw [EN.out w]; omega, HR⟩
              case measure => (try simp [slLen]) <;> (try omega)
        · have hnp : (0 : Int) < (N1 : Int) + 1 := by omega
          obtain rfl : O1 = 0 := by omega
          cases hen : endsN tx.data.toList
          · skip
            have hls : lnLs (1, tx) = [signB 1 :: (tx.data.toList ++ [10]), noNl] := by unfold lnLs; rw [if_neg (by rw [hen]; simp)]
            rw [hls] at hst
            simp only [List.map_cons, List.map_nil, List.cons_append, List.nil_append] at hst
            have hS := HS.out w
            rw [hst] at hS hcl hn ⊢
            simp only [List.length_cons] at hcl hn ⊢
            obtain ⟨b, o, rfl, ha⟩ := strs_head hS
            have hS1 := strs_tail hS (c := c') (by simp only [List.length_cons]; omega)
            rw [if_neg (by omega)] at hS1
            obtain ⟨b', o', e', ha2⟩ := strs_head hS1
            cases e'
            have HS2 : Hid (Strs w0 (if c' = 2 then some ⟨b, o + 1, none⟩ else some ⟨b, o + 1 + 1, none⟩) fs) := hide (by
              have h := strs_tail hS1 (c := c' - 1) (by omega)
              by_cases q : c' = 2
              · rw [if_pos (by omega)] at h; rw [if_pos q]; exact h
              · rw [if_neg (by omega)] at h; rw [if_neg q]; exact h)
            have ga := (HB0.out.cell (p := ⟨b, o, none⟩) (lt_of_cell ha)).trans ha
            have ga2 : wr.cell? ⟨b, o + 1, none⟩ = some (.string ⟨#[92, 32, 78, 111, 32, 110, 101, 119, 108, 105, 110, 101, 32, 97, 116, 32, 101, 110, 100, 32, 111, 102, 32, 102, 105, 108, 101, 10]⟩) := (HB0.out.cell (p := ⟨b, o + 1, none⟩) (lt_of_cell ha2)).trans ha2
            have hA1 := ext_one (signB 1) (tx.data.toList ++ [10])
            have hA0 : ∀ h : 0 < (toB (signB 1 :: (tx.data.toList ++ [10]))).size, (toB (signB 1 :: (tx.data.toList ++ [10])))[0]'h = signB 1 := fun h => rfl
            have haz : (toB (signB 1 :: (tx.data.toList ++ [10]))).size = tx.size + 2 := by rw [toB_size]; simp only [List.length_cons, List.length_append, List.length_nil, size_list]
            have HT : Hid (∀ W, Calls Tryz.prog 31 #[.string ((toB (signB 1 :: (tx.data.toList ++ [10]))).extract 1 (toB (signB 1 :: (tx.data.toList ++ [10]))).size), .string ⟨#[10]⟩] W fun e w' => e = .returned (.string tx) ∧ W = w') := hide (by rw [hA1]; exact trimS_nl _ tx (by rw [toB_list]) (by rw [toB_size]; simp only [List.length_append, List.length_cons, List.length_nil, size_list]; omega))
            clear hS hS1 ha ha2 hA1 HS
            obtain ⟨a, hae⟩ : ∃ a, toB (signB 1 :: (tx.data.toList ++ [10])) = a := ⟨_, rfl⟩
            simp only [hae] at ga hA0 haz HT
            have hsz1 : 0 < a.size := by omega
            have hsz2 : 1 ≤ a.size := by omega
            have hsz3 : a.size ≤ 100000000002 := by omega
            have HI : Hid (∀ W, Calls Tryz.prog 55 #[.string ⟨#[45, 43, 32]⟩, .int .u8 ((a[0]'hsz1).toNat : Int)] W fun e w' => e = .returned (.int .i64 (1 : Nat)) ∧ W = w') := hide (fun W => by have h0 := hA0 hsz1; rw [h0]; exact signIx 1 (by omega) W)
            clear hA0 haz hae hst d1 d2 e1 e2 hls
            go_wp2_with fail
            refine (HI.out _).mono ?_
            rintro e w1 ⟨rfl, rfl⟩
            go_wp2_with fail
            refine (HT.out _).mono ?_
            rintro e w1 ⟨rfl, rfl⟩
            go_wp2_with (first
              | (at_builtin; refine wpList_append_lies _ rfl _ _ 58 rfl w.heap.size 65 i0 _ 2 24 Tryz.underlying58 hi0 hz0 hz1 hzb rfl (by omega) u9 j X (by rfl) (HOwn.out.alloc _) ⟨wr.heap.size, 0, none⟩ 1 1 (lnCells (1, tx)) (by rfl) (by rfl) (World.news_of_block (cs := (lnCells (1, tx)).toArray) (t := 65) (fr := (0, 0)) (heap_alloc_new wr _)) (by simp [Value.oneCell', lnCells]) (by omega) (by unfold maxLen; omega) (by omega) (by simp; omega) (wr.heap.size + 1) (by simp) ?_; intro g2 cap2 w5 hown1 hgrow hat hlt2))
            have HR := hide (HP.out _ _ _ _ _ (by rw [EF.out w]; exact HS2.out) hown1 hgrow)
            clear hown1 hgrow hat
            go_roundw
            case rel => exact ⟨j + 1, _, c' - 1 - 1, by rw [EF.out w] <;> rfl, by rw [EO.out w] <;> go_num, by rw [EN.out w] <;> go_num, by omega, by rw [EF.out w]; first | omega | (simp only [List.length_nil, List.length_cons]; omega), by rw [EF.out w]; first | omega | (simp only [List.length_nil, List.length_cons]; omega), by rw [EO.out w]; omega, by rw [EN.out w]; omega, HR⟩
            case measure => (try simp [slLen]) <;> (try omega)
          · cases fs with
            | nil =>
              have hls : lnLs (1, tx) = [signB 1 :: tx.data.toList] := by unfold lnLs; rw [if_pos hen]
              rw [hls] at hst
              simp only [List.map_cons, List.map_nil, List.cons_append, List.nil_append] at hst
              have hS := HS.out w
              rw [hst] at hS hcl hn ⊢
              simp only [List.length_cons] at hcl hn ⊢
              obtain ⟨b, o, rfl, ha⟩ := strs_head hS
              have hS1 := strs_tail hS (c := c') (by omega)
              have ga := (HB0.out.cell (p := ⟨b, o, none⟩) (lt_of_cell ha)).trans ha
              have hA1 := ext_one (signB 1) tx.data.toList
              have hA0 : ∀ h : 0 < (toB (signB 1 :: tx.data.toList)).size, (toB (signB 1 :: tx.data.toList))[0]'h = signB 1 := fun h => rfl
              have haz : (toB (signB 1 :: tx.data.toList)).size = tx.size + 1 := by rw [toB_size]; simp only [List.length_cons, List.length_append, List.length_nil, size_list]
              have HX : Hid (∀ (_ : World), (toB (signB 1 :: tx.data.toList)).extract 1 (toB (signB 1 :: tx.data.toList)).size = tx) := hide (fun _ => by rw [hA1]; exact toB_of tx)
              have HS2 := hide hS1
              have hm0 : ¬ (0 : Int) < ((0 : Nat) : Int) := by omega
              simp only [List.length_nil] at hcl hn ⊢
              clear hS hS1 ha hA1 HS
              obtain ⟨a, hae⟩ : ∃ a, toB (signB 1 :: tx.data.toList) = a := ⟨_, rfl⟩
              simp only [hae] at ga hA0 haz HX
              have hsz1 : 0 < a.size := by omega
              have hsz2 : 1 ≤ a.size := by omega
              have hsz3 : a.size ≤ 100000000002 := by omega
              have HI : Hid (∀ W, Calls Tryz.prog 55 #[.string ⟨#[45, 43, 32]⟩, .int .u8 ((a[0]'hsz1).toNat : Int)] W fun e w' => e = .returned (.int .i64 (1 : Nat)) ∧ W = w') := hide (fun W => by have h0 := hA0 hsz1; rw [h0]; exact signIx 1 (by omega) W)
              clear hA0 haz hae hst d1 d2 e1 e2 hls
              go_wp2_with fail
              refine (HI.out _).mono ?_
              rintro e w1 ⟨rfl, rfl⟩
              go_wp2_with (first
                | (at_builtin; refine wpList_append_lies _ rfl _ _ 58 rfl w.heap.size 65 i0 _ 2 24 Tryz.underlying58 hi0 hz0 hz1 hzb rfl (by omega) u9 j X (by rfl) (HOwn.out.alloc _) ⟨wr.heap.size, 0, none⟩ 1 1 (lnCells (1, a.extract 1 a.size)) (by rfl) (by rfl) (World.news_of_block (cs := (lnCells (1, a.extract 1 a.size)).toArray) (t := 65) (fr := (0, 0)) (heap_alloc_new wr _)) (by simp [Value.oneCell', lnCells]) (by omega) (by unfold maxLen; omega) (by omega) (by simp; omega) (wr.heap.size + 1) (by simp) ?_; intro g2 cap2 w5 hown1 hgrow hat hlt2))
              rw [HX.out w] at hown1
              have HR := hide (HP.out _ _ _ _ _ (by rw [EF.out w]; exact HS2.out) hown1 hgrow)
              clear hown1 hgrow hat
              go_roundw
              case rel => exact ⟨j + 1, _, c' - 1, by rw [EF.out w] <;> rfl, by rw [EO.out w] <;> go_num, by rw [EN.out w] <;> go_num, by omega, by rw [EF.out w]; first | omega | (simp only [List.length_nil, List.length_cons]; omega), by rw [EF.out w]; first | omega | (simp only [List.length_nil, List.length_cons]; omega), by rw [EO.out w]; omega, by rw [EN.out w]; omega, HR⟩
              case measure => (try simp [slLen]) <;> (try omega)
            | cons nb fs' =>
              have hls : lnLs (1, tx) = [signB 1 :: tx.data.toList] := by unfold lnLs; rw [if_pos hen]
              rw [hls] at hst
              simp only [List.map_cons, List.map_nil, List.cons_append, List.nil_append] at hst
              have hS := HS.out w
              rw [hst] at hS hcl hn ⊢
              simp only [List.length_cons] at hcl hn ⊢
              obtain ⟨b, o, rfl, ha⟩ := strs_head hS
              have hS1 := strs_tail hS (c := c') (by omega)
              have ga := (HB0.out.cell (p := ⟨b, o, none⟩) (lt_of_cell ha)).trans ha
              have hA1 := ext_one (signB 1) tx.data.toList
              have hA0 : ∀ h : 0 < (toB (signB 1 :: tx.data.toList)).size, (toB (signB 1 :: tx.data.toList))[0]'h = signB 1 := fun h => rfl
              have haz : (toB (signB 1 :: tx.data.toList)).size = tx.size + 1 := by rw [toB_size]; simp only [List.length_cons, List.length_append, List.length_nil, size_list]
              have HX : Hid (∀ (_ : World), (toB (signB 1 :: tx.data.toList)).extract 1 (toB (signB 1 :: tx.data.toList)).size = tx) := hide (fun _ => by rw [hA1]; exact toB_of tx)
              rw [if_neg (by omega)] at hS1
              have HS2 := hide hS1
              obtain ⟨b', o', e', ha2⟩ := strs_head hS1
              cases e'
              have ga2 := (HB0.out.cell (p := ⟨b, o + 1, none⟩) (lt_of_cell ha2)).trans ha2
              have hnb : (nb.toList == [92, 32, 78, 111, 32, 110, 101, 119, 108, 105, 110, 101, 32, 97, 116, 32, 101, 110, 100, 32, 111, 102, 32, 102, 105, 108, 101, 10]) = false := by
                rw [ByteArray.toList_eq nb, beq_eq_false_iff_ne]
                intro h
                exact hok1 nb fs' rfl (by rw [h]; rfl)
              have hnb2 : ¬ nb.toList = [92, 32, 78, 111, 32, 110, 101, 119, 108, 105, 110, 101, 32, 97, 116, 32, 101, 110, 100, 32, 111, 102, 32, 102, 105, 108, 101, 10] := beq_eq_false_iff_ne.1 hnb
              have hc1 : ¬ c' = 1 := by omega
              have hm1 : (0 : Int) < ((fs'.length + 1 : Nat) : Int) := by omega
              clear ha2
              clear hS hS1 ha hA1 HS
              obtain ⟨a, hae⟩ : ∃ a, toB (signB 1 :: tx.data.toList) = a := ⟨_, rfl⟩
              simp only [hae] at ga hA0 haz HX
              have hsz1 : 0 < a.size := by omega
              have hsz2 : 1 ≤ a.size := by omega
              have hsz3 : a.size ≤ 100000000002 := by omega
              have HI : Hid (∀ W, Calls Tryz.prog 55 #[.string ⟨#[45, 43, 32]⟩, .int .u8 ((a[0]'hsz1).toNat : Int)] W fun e w' => e = .returned (.int .i64 (1 : Nat)) ∧ W = w') := hide (fun W => by have h0 := hA0 hsz1; rw [h0]; exact signIx 1 (by omega) W)
              clear hA0 haz hae hst d1 d2 e1 e2 hls
              go_wp2_with fail
              refine (HI.out _).mono ?_
              rintro e w1 ⟨rfl, rfl⟩
              go_wp2_with (first
                | (at_builtin; refine wpList_append_lies _ rfl _ _ 58 rfl w.heap.size 65 i0 _ 2 24 Tryz.underlying58 hi0 hz0 hz1 hzb rfl (by omega) u9 j X (by rfl) (HOwn.out.alloc _) ⟨wr.heap.size, 0, none⟩ 1 1 (lnCells (1, a.extract 1 a.size)) (by rfl) (by rfl) (World.news_of_block (cs := (lnCells (1, a.extract 1 a.size)).toArray) (t := 65) (fr := (0, 0)) (heap_alloc_new wr _)) (by simp [Value.oneCell', lnCells]) (by omega) (by unfold maxLen; omega) (by omega) (by simp; omega) (wr.heap.size + 1) (by simp) ?_; intro g2 cap2 w5 hown1 hgrow hat hlt2))
              rw [HX.out w] at hown1
              have HR := hide (HP.out _ _ _ _ _ (by rw [EF.out w]; exact HS2.out) hown1 hgrow)
              clear hown1 hgrow hat
              go_roundw
              case rel => exact ⟨j + 1, _, c' - 1, by rw [EF.out w] <;> rfl, by rw [EO.out w] <;> go_num, by rw [EN.out w] <;> go_num, by omega, by rw [EF.out w]; first | omega | (simp only [List.length_nil, List.length_cons]; omega), by rw [EF.out w]; first | omega | (simp only [List.length_nil, List.length_cons]; omega), by rw [EO.out w]; omega, by rw [EN.out w]; omega, HR⟩
              case measure => (try simp [slLen]) <;> (try omega)
      · have e1 : cntF (ls.drop j) = O1 + 1 := by rw [d1]; rfl
        have e2 : cntT (ls.drop j) = N1 + 1 := by rw [d2]; rfl
        rw [e1] at hof ⊢
        rw [e2] at hot ⊢
        cases hen : endsN tx.data.toList
        · skip
          have hls : lnLs (2, tx) = [signB 2 :: (tx.data.toList ++ [10]), noNl] := by unfold lnLs; rw [if_neg (by rw [hen]; simp)]
          rw [hls] at hst
          simp only [List.map_cons, List.map_nil, List.cons_append, List.nil_append] at hst
          have hS := HS.out w
          rw [hst] at hS hcl hn ⊢
          simp only [List.length_cons] at hcl hn ⊢
          obtain ⟨b, o, rfl, ha⟩ := strs_head hS
          have hS1 := strs_tail hS (c := c') (by simp only [List.length_cons]; omega)
          rw [if_neg (by omega)] at hS1
          obtain ⟨b', o', e', ha2⟩ := strs_head hS1
          cases e'
          have HS2 : Hid (Strs w0 (if c' = 2 then some ⟨b, o + 1, none⟩ else some ⟨b, o + 1 + 1, none⟩) fs) := hide (by
            have h := strs_tail hS1 (c := c' - 1) (by omega)
            by_cases q : c' = 2
            · rw [if_pos (by omega)] at h; rw [if_pos q]; exact h
            · rw [if_neg (by omega)] at h; rw [if_neg q]; exact h)
          have ga := (HB0.out.cell (p := ⟨b, o, none⟩) (lt_of_cell ha)).trans ha
          have ga2 : wr.cell? ⟨b, o + 1, none⟩ = some (.string ⟨#[92, 32, 78, 111, 32, 110, 101, 119, 108, 105, 110, 101, 32, 97, 116, 32, 101, 110, 100, 32, 111, 102, 32, 102, 105, 108, 101, 10]⟩) := (HB0.out.cell (p := ⟨b, o + 1, none⟩) (lt_of_cell ha2)).trans ha2
          have hA1 := ext_one (signB 2) (tx.data.toList ++ [10])
          have hA0 : ∀ h : 0 < (toB (signB 2 :: (tx.data.toList ++ [10]))).size, (toB (signB 2 :: (tx.data.toList ++ [10])))[0]'h = signB 2 := fun h => rfl
          have haz : (toB (signB 2 :: (tx.data.toList ++ [10]))).size = tx.size + 2 := by rw [toB_size]; simp only [List.length_cons, List.length_append, List.length_nil, size_list]
          have HT : Hid (∀ W, Calls Tryz.prog 31 #[.string ((toB (signB 2 :: (tx.data.toList ++ [10]))).extract 1 (toB (signB 2 :: (tx.data.toList ++ [10]))).size), .string ⟨#[10]⟩] W fun e w' => e = .returned (.string tx) ∧ W = w') := hide (by rw [hA1]; exact trimS_nl _ tx (by rw [toB_list]) (by rw [toB_size]; simp only [List.length_append, List.length_cons, List.length_nil, size_list]; omega))
          clear hS hS1 ha ha2 hA1 HS
          obtain ⟨a, hae⟩ : ∃ a, toB (signB 2 :: (tx.data.toList ++ [10])) = a := ⟨_, rfl⟩
          simp only [hae] at ga hA0 haz HT
          have hsz1 : 0 < a.size := by omega
          have hsz2 : 1 ≤ a.size := by omega
          have hsz3 : a.size ≤ 100000000002 := by omega
          have HI : Hid (∀ W, Calls Tryz.prog 55 #[.string ⟨#[45, 43, 32]⟩, .int .u8 ((a[0]'hsz1).toNat : Int)] W fun e w' => e = .returned (.int .i64 (2 : Nat)) ∧ W = w') := hide (fun W => by have h0 := hA0 hsz1; rw [h0]; exact signIx 2 (by omega) W)
          clear hA0 haz hae hst d1 d2 e1 e2 hls
          go_wp2_with fail
          refine (HI.out _).mono ?_
          rintro e w1 ⟨rfl, rfl⟩
          go_wp2_with fail
          refine (HT.out _).mono ?_
          rintro e w1 ⟨rfl, rfl⟩
          go_wp2_with (first
            | (at_builtin; refine wpList_append_lies _ rfl _ _ 58 rfl w.heap.size 65 i0 _ 2 24 Tryz.underlying58 hi0 hz0 hz1 hzb rfl (by omega) u9 j X (by rfl) (HOwn.out.alloc _) ⟨wr.heap.size, 0, none⟩ 1 1 (lnCells (2, tx)) (by rfl) (by rfl) (World.news_of_block (cs := (lnCells (2, tx)).toArray) (t := 65) (fr := (0, 0)) (heap_alloc_new wr _)) (by simp [Value.oneCell', lnCells]) (by omega) (by unfold maxLen; omega) (by omega) (by simp; omega) (wr.heap.size + 1) (by simp) ?_; intro g2 cap2 w5 hown1 hgrow hat hlt2))
          have HR := hide (HP.out _ _ _ _ _ (by rw [EF.out w]; exact HS2.out) hown1 hgrow)
          clear hown1 hgrow hat
          go_roundw
          case rel => exact ⟨j + 1, _, c' - 1 - 1, by rw [EF.out w] <;> rfl, by rw [EO.out w] <;> go_num, by rw [EN.out w] <;> go_num, by omega, by rw [EF.out w]; first | omega | (simp only [List.length_nil, List.length_cons]; omega), by rw [EF.out w]; first | omega | (simp only [List.length_nil, List.length_cons]; omega), by rw [EO.out w]; omega, by rw [EN.out w]; omega, HR⟩
          case measure => (try simp [slLen]) <;> (try omega)
        · cases fs with
          | nil =>
            have hls : lnLs (2, tx) = [signB 2 :: tx.data.toList] := by unfold lnLs; rw [if_pos hen]
            rw [hls] at hst
            simp only [List.map_cons, List.map_nil, List.cons_append, List.nil_append] at hst
            have hS := HS.out w
            rw [hst] at hS hcl hn ⊢
            simp only [List.length_cons] at hcl hn ⊢
            obtain ⟨b, o, rfl, ha⟩ := strs_head hS
            have hS1 := strs_tail hS (c := c') (by omega)
            have ga := (HB0.out.cell (p := ⟨b, o, none⟩) (lt_of_cell ha)).trans ha
            have hA1 := ext_one (signB 2) tx.data.toList
            have hA0 : ∀ h : 0 < (toB (signB 2 :: tx.data.toList)).size, (toB (signB 2 :: tx.data.toList))[0]'h = signB 2 := fun h => rfl
            have haz : (toB (signB 2 :: tx.data.toList)).size = tx.size + 1 := by rw [toB_size]; simp only [List.length_cons, List.length_append, List.length_nil, size_list]
            have HX : Hid (∀ (_ : World), (toB (signB 2 :: tx.data.toList)).extract 1 (toB (signB 2 :: tx.data.toList)).size = tx) := hide (fun _ => by rw [hA1]; exact toB_of tx)
            have HS2 := hide hS1
            have hm0 : ¬ (0 : Int) < ((0 : Nat) : Int) := by omega
            simp only [List.length_nil] at hcl hn ⊢
            clear hS hS1 ha hA1 HS
            obtain ⟨a, hae⟩ : ∃ a, toB (signB 2 :: tx.data.toList) = a := ⟨_, rfl⟩
            simp only [hae] at ga hA0 haz HX
            have hsz1 : 0 < a.size := by omega
            have hsz2 : 1 ≤ a.size := by omega
            have hsz3 : a.size ≤ 100000000002 := by omega
            have HI : Hid (∀ W, Calls Tryz.prog 55 #[.string ⟨#[45, 43, 32]⟩, .int .u8 ((a[0]'hsz1).toNat : Int)] W fun e w' => e = .returned (.int .i64 (2 : Nat)) ∧ W = w') := hide (fun W => by have h0 := hA0 hsz1; rw [h0]; exact signIx 2 (by omega) W)
            clear hA0 haz hae hst d1 d2 e1 e2 hls
            go_wp2_with fail
            refine (HI.out _).mono ?_
            rintro e w1 ⟨rfl, rfl⟩
            go_wp2_with (first
              | (at_builtin; refine wpList_append_lies _ rfl _ _ 58 rfl w.heap.size 65 i0 _ 2 24 Tryz.underlying58 hi0 hz0 hz1 hzb rfl (by omega) u9 j X (by rfl) (HOwn.out.alloc _) ⟨wr.heap.size, 0, none⟩ 1 1 (lnCells (2, a.extract 1 a.size)) (by rfl) (by rfl) (World.news_of_block (cs := (lnCells (2, a.extract 1 a.size)).toArray) (t := 65) (fr := (0, 0)) (heap_alloc_new wr _)) (by simp [Value.oneCell', lnCells]) (by omega) (by unfold maxLen; omega) (by omega) (by simp; omega) (wr.heap.size + 1) (by simp) ?_; intro g2 cap2 w5 hown1 hgrow hat hlt2))
            rw [HX.out w] at hown1
            have HR := hide (HP.out _ _ _ _ _ (by rw [EF.out w]; exact HS2.out) hown1 hgrow)
            clear hown1 hgrow hat
            go_roundw
            case rel => exact ⟨j + 1, _, c' - 1, by rw [EF.out w] <;> rfl, by rw [EO.out w] <;> go_num, by rw [EN.out w] <;> go_num, by omega, by rw [EF.out w]; first | omega | (simp only [List.length_nil, List.length_cons]; omega), by rw [EF.out w]; first | omega | (simp only [List.length_nil, List.length_cons]; omega), by rw [EO.out w]; omega, by rw [EN.out w]; omega, HR⟩
            case measure => (try simp [slLen]) <;> (try omega)
          | cons nb fs' =>
            have hls : lnLs (2, tx) = [signB 2 :: tx.data.toList] := by unfold lnLs; rw [if_pos hen]
            rw [hls] at hst
            simp only [List.map_cons, List.map_nil, List.cons_append, List.nil_append] at hst
            have hS := HS.out w
            rw [hst] at hS hcl hn ⊢
            simp only [List.length_cons] at hcl hn ⊢
            obtain ⟨b, o, rfl, ha⟩ := strs_head hS
            have hS1 := strs_tail hS (c := c') (by omega)
            have ga := (HB0.out.cell (p := ⟨b, o, none⟩) (lt_of_cell ha)).trans ha
            have hA1 := ext_one (signB 2) tx.data.toList
            have hA0 : ∀ h : 0 < (toB (signB 2 :: tx.data.toList)).size, (toB (signB 2 :: tx.data.toList))[0]'h = signB 2 := fun h => rfl
            have haz : (toB (signB 2 :: tx.data.toList)).size = tx.size + 1 := by rw [toB_size]; simp only [List.length_cons, List.length_append, List.length_nil, size_list]
            have HX : Hid (∀ (_ : World), (toB (signB 2 :: tx.data.toList)).extract 1 (toB (signB 2 :: tx.data.toList)).size = tx) := hide (fun _ => by rw [hA1]; exact toB_of tx)
            rw [if_neg (by omega)] at hS1
            have HS2 := hide hS1
            obtain ⟨b', o', e', ha2⟩ := strs_head hS1
            cases e'
            have ga2 := (HB0.out.cell (p := ⟨b, o + 1, none⟩) (lt_of_cell ha2)).trans ha2
            have hnb : (nb.toList == [92, 32, 78, 111, 32, 110, 101, 119, 108, 105, 110, 101, 32, 97, 116, 32, 101, 110, 100, 32, 111, 102, 32, 102, 105, 108, 101, 10]) = false := by
              rw [ByteArray.toList_eq nb, beq_eq_false_iff_ne]
              intro h
              exact hok1 nb fs' rfl (by rw [h]; rfl)
            have hnb2 : ¬ nb.toList = [92, 32, 78, 111, 32, 110, 101, 119, 108, 105, 110, 101, 32, 97, 116, 32, 101, 110, 100, 32, 111, 102, 32, 102, 105, 108, 101, 10] := beq_eq_false_iff_ne.1 hnb
            have hc1 : ¬ c' = 1 := by omega
            have hm1 : (0 : Int) < ((fs'.length + 1 : Nat) : Int) := by omega
            clear ha2
            clear hS hS1 ha hA1 HS
            obtain ⟨a, hae⟩ : ∃ a, toB (signB 2 :: tx.data.toList) = a := ⟨_, rfl⟩
            simp only [hae] at ga hA0 haz HX
            have hsz1 : 0 < a.size := by omega
            have hsz2 : 1 ≤ a.size := by omega
            have hsz3 : a.size ≤ 100000000002 := by omega
            have HI : Hid (∀ W, Calls Tryz.prog 55 #[.string ⟨#[45, 43, 32]⟩, .int .u8 ((a[0]'hsz1).toNat : Int)] W fun e w' => e = .returned (.int .i64 (2 : Nat)) ∧ W = w') := hide (fun W => by have h0 := hA0 hsz1; rw [h0]; exact signIx 2 (by omega) W)
            clear hA0 haz hae hst d1 d2 e1 e2 hls
            go_wp2_with fail
            refine (HI.out _).mono ?_
            rintro e w1 ⟨rfl, rfl⟩
            go_wp2_with (first
              | (at_builtin; refine wpList_append_lies _ rfl _ _ 58 rfl w.heap.size 65 i0 _ 2 24 Tryz.underlying58 hi0 hz0 hz1 hzb rfl (by omega) u9 j X (by rfl) (HOwn.out.alloc _) ⟨wr.heap.size, 0, none⟩ 1 1 (lnCells (2, a.extract 1 a.size)) (by rfl) (by rfl) (World.news_of_block (cs := (lnCells (2, a.extract 1 a.size)).toArray) (t := 65) (fr := (0, 0)) (heap_alloc_new wr _)) (by simp [Value.oneCell', lnCells]) (by omega) (by unfold maxLen; omega) (by omega) (by simp; omega) (wr.heap.size + 1) (by simp) ?_; intro g2 cap2 w5 hown1 hgrow hat hlt2))
            rw [HX.out w] at hown1
            have HR := hide (HP.out _ _ _ _ _ (by rw [EF.out w]; exact HS2.out) hown1 hgrow)
            clear hown1 hgrow hat
            go_roundw
            case rel => exact ⟨j + 1, _, c' - 1, by rw [EF.out w] <;> rfl, by rw [EO.out w] <;> go_num, by rw [EN.out w] <;> go_num, by omega, by rw [EF.out w]; first | omega | (simp only [List.length_nil, List.length_cons]; omega), by rw [EF.out w]; first | omega | (simp only [List.length_nil, List.length_cons]; omega), by rw [EO.out w]; omega, by rw [EN.out w]; omega, HR⟩
            case measure => (try simp [slLen]) <;> (try omega)
    · have e : j = ls.length := by omega
      subst e
      obtain ⟨h1, h2, h3⟩ := hr.out
      rw [List.take_length] at h2
      rw [flB_end] at h1 hcl hn ⊢
      have e1 : cntF (ls.drop ls.length) = 0 := by rw [List.drop_length]; rfl
      have e2 : cntT (ls.drop ls.length) = 0 := by rw [List.drop_length]; rfl
      rw [e1, e2]
      have HF : Hid (BdRes w0 w ls restB (.returned (.tuple #[u9, .slice A' restB.length c', .bool true])) wr) := hide ⟨_, _, _, rfl, hcl, h2, h1, h3⟩
      clear hr h1 h2 h3 e1 e2
      go_wp2
      go_returns
      exact HF.out
end Go.Proofs.YtgegialfhkgggaaGreatDoor
