/- Walks and plain laws: laws.starts, impl.Sort. No condition but sizes. -/
import Derived.Test.YtgegialfhkgggaaPj
import Derived.Test.YtgegialfhkgggaaPa
import Derived.Test.YtgegialfhkgggaaPg
import Derived.Test.YtgegialfhkgggaaPh
set_option linter.unusedVariables false
set_option linter.unusedSimpArgs false
namespace Go.Proofs.Ytgegialfhkgggaa
open Go.RowKit
attribute [local go_sem ↓] Go.wp_at_zero Go.wp_at_succ

def peAt (cs : List Int) (ts : List ByteArray) (i : Nat) : Pe := ⟨0, 0, (nOf cs i : Nat), 0, 0, (nOf cs i : Nat), tOf ts i⟩
/-- Nothing, or a list of insertions. -/
def StartRes (w : World) (cs : List Int) (ts : List ByteArray) (e : Ending) (w' : World) : Prop := (e = .returned (.tuple #[.slice none 0 0, .bool false]) ∧ Below w.heap.size w w') ∨
  ∃ A c, e = .returned (.tuple #[.slice A cs.length c, .bool true]) ∧ cs.length = ts.length ∧ ts.length ≤ 1000 ∧ near 0 cs = true ∧ RowsAt w' A 7 ((List.range cs.length).map fun i => peCells (peAt cs ts i)) ∧ Below w.heap.size w w'
theorem StartRes.no {w w' : World} {cs : List Int} {ts : List ByteArray} (h : Below w.heap.size w w') : StartRes w cs ts (.returned (.tuple #[.slice none 0 0, .bool false])) w' := Or.inl ⟨rfl, h⟩
theorem near_mem {least : Int} {zs : List Int} (h : near least zs = true) {i : Nat} (hi : i < zs.length) : least ≤ zs.getD i 0 ∧ zs.getD i 0 ≤ 1000000 := by
  unfold near at h
  rw [List.getD_eq_getElem?_getD, List.getElem?_eq_getElem hi]
  have := List.all_eq_true.1 h _ (List.getElem_mem hi)
  simp at this ⊢
  omega
set_option maxHeartbeats 4000000 in
set_option maxRecDepth 100000 in
theorem starts_any (A B : Option Addr) (ca cb : Nat) (cs : List Int) (ts : List ByteArray) (hn : cs.length ≤ 2147483647) (w : World) (hA : Ints w A cs) (hB : Strs w B ts) :
    Calls Try.prog 19 #[.slice A cs.length ca, .slice B ts.length cb] w (StartRes w cs ts) := by
  obtain ⟨i0, hi0, hz0, hz1, hzb⟩ := info_parts info_ed
  have HA := hide hA
  have HB := hide hB
  have HI := hide (fun W hA => isNear_any 0 A ca cs hn W hA)
  clear hA hB
  obtain ⟨N, hN⟩ : ∃ N, cs.length = N := ⟨_, rfl⟩
  obtain ⟨M, hM⟩ : ∃ M, ts.length = M := ⟨_, rfl⟩
  have HR := hide (fun (A' : Option Addr) (c : Nat) (W : World) (h1 : N = M) (h2 : M ≤ 1000) (h3 : near 0 cs = true) (hr : PeRes w N (peAt cs ts) (.returned (.slice A' N c)) W) => (show StartRes w cs ts (.returned (.tuple #[.slice A' N c, .bool true])) W from Or.inr (by
    obtain ⟨A2, c2, e, h4, h5⟩ := hr
    injection e with e
    injection e with e1 e2 e3
    subst e1; subst e3
    rw [hN]
    exact ⟨_, _, rfl, by omega, by omega, h3, h4, h5⟩)))
  rw [hN] at hn HI ⊢
  rw [hM]
  by_cases c1 : N = M
  · subst c1
    by_cases c2 : 1000 < N
    · have t2 : decide ((1000 : Int) < (N : Int)) = true := by simp; omega
      clear hN hM
      go_enter Try.func19, Try.ntmps19
      go_wp2
      go_ret2
      exact StartRes.no (by go_grown)
    · have t2 : decide ((1000 : Int) < (N : Int)) = false := by simp; omega
      cases hnr : near 0 cs
      · rw [hnr] at HI
        clear hN hM
        go_enter Try.func19, Try.ntmps19
        go_wp2_with fail
        refine (HI.out _ HA.out).mono ?_
        rintro e w1 ⟨rfl, rfl⟩
        go_wp2
        go_ret2
        exact StartRes.no (by go_grown)
      · rw [hnr] at HI
        have HNr := hide (fun i (hi : i < N) => near_mem hnr (i := i) (by omega))
        have HF := hide (fun (A' : Option Addr) (c : Nat) (W : World) => HR.out A' c W rfl (by omega) hnr)
        have HM := hide hM
        have HN := hide hN
        clear hN hM HR hnr
        go_enter Try.func19, Try.ntmps19
        go_wp2_with fail
        refine (HI.out _ HA.out).mono ?_
        rintro e w1 ⟨rfl, rfl⟩
        go_wp2
        go_loopw [6, 27] (fun ev jv wr => ∃ j : Nat, jv = .int .i64 j ∧ j ≤ N ∧ Hid (PeRel w wr (peAt cs ts) j ev)) (fun _ jv _ => N - (intOf jv).toNat)
        case atStart => exact ⟨0, rfl, Nat.zero_le _, hide (PeRel.start rfl)⟩
        case round =>
          obtain ⟨j, rfl, hj, hcr⟩ := hrel
          obtain ⟨A2, c2, rfl, hown, hbl⟩ := hcr.out
          by_cases hlt : j < N
          · obtain ⟨b, o, rfl, d1⟩ := HA.out.kept hbl j (by rw [HN.out]; exact hlt)
            obtain ⟨p, q, rfl, d3⟩ := HB.out.kept hbl j (by rw [HM.out]; exact hlt)
            have hnr := HNr.out j hlt
            have hx : peAt cs ts j = ⟨0, 0, (nOf cs j : Nat), 0, 0, (nOf cs j : Nat), tOf ts j⟩ := rfl
            have hnz : cs.getD j 0 = (nOf cs j : Nat) := by unfold nOf; omega
            rw [hnz] at d1
            replace d3 : wr.cell? ⟨p, q + j, none⟩ = some (.string (tOf ts j)) := d3
            have hS : ∀ (x : Pe), peAt cs ts j = x → ∀ (w1 : World) (g2 cap2 : Nat) (o : Obj), _ → _ → PeRel w w1 (peAt cs ts) (j + 1) (.slice (some ⟨g2, 0, none⟩) (j + 1) cap2) := fun x hx w1 g2 cap2 o h1 h2 => PeRel.step (w1 := w1) (g2 := g2) (cap2 := cap2) (o := o) (x := x) hx hown hbl h1 h2
            obtain ⟨a1, ha1⟩ : ∃ a1, nOf cs j = a1 := ⟨_, rfl⟩
            obtain ⟨t, ht⟩ : ∃ t, tOf ts j = t := ⟨_, rfl⟩
            rw [ha1] at d1 hx
            rw [ht] at d3 hx
            have HS := hide (hS _ hx)
            obtain ⟨Y, hY⟩ : ∃ Y, ((List.range j).map fun i => peCells (peAt cs ts i)).flatten = Y := ⟨_, rfl⟩
            rw [hY] at HS hown
            have hblz := hbl.size
            have jn : (j : Int) < (N : Int) := by omega
            clear hS hx hY ha1 ht hcr hnz hnr
            go_wp2_with (first
              | (at_builtin; refine wpList_append_lies _ rfl _ _ 25 rfl w.heap.size 38 i0 _ 7 64 Try.underlying25 hi0 hz0 hz1 hzb rfl (by omega) (.slice A2 j c2) j Y (by rfl) (hown.alloc _) ⟨wr.heap.size, 0, none⟩ 1 1 (peCells ⟨0, 0, (a1 : Nat), 0, 0, (a1 : Nat), t⟩) (by rfl) (by rfl) (World.news_of_block (cs := #[.int .i64 0, .int .i64 0, .int .i64 (a1 : Nat), .int .i64 0, .int .i64 0, .int .i64 (a1 : Nat), .string t]) (t := 38) (fr := (0, 0)) (heap_alloc_new wr _)) (by simp [peCells, Value.oneCell']) (by omega) (by unfold maxLen; omega) (by omega) (by simp; omega) (wr.heap.size + 1) (by simp) ?_; intro g2 cap2 w1 hown1 hgrow hat hlt2))
            go_roundw
            case rel => exact ⟨j + 1, by go_num, by omega, hide (HS.out _ _ _ _ hown1 hgrow)⟩
            case measure => simp [intOf]; omega
          · have : j = N := by omega
            subst this
            have hfin := hide (HF.out _ _ _ (PeRel.done hcr.out))
            clear hlt hown hcr
            go_wp2
            go_ret2
            exact hfin.out
  · have t1 : ¬ ((N : Int) = (M : Int)) := by omega
    clear c1 hN hM
    go_enter Try.func19, Try.ntmps19
    go_wp2
    go_ret2
    exact StartRes.no (by go_grown)
end Go.Proofs.Ytgegialfhkgggaa
namespace Go.Proofs.Ytgegialfhkgggaa
open Go.RowKit Mye Go.Proofs.Ytgegialfhkgggaa.Lines
attribute [local go_sem ↓] Go.wp_at_zero Go.wp_at_succ

def ToRelO (w wr : World) (es : List Pe) (j : Nat) (ev : Value) : Prop := ∃ A c, ev = .slice A j c ∧ (∃ g, A = some ⟨g, 0, none⟩) ∧ wr.ownsRow w.heap.size 103 8 (.slice A j c) j ((es.take j).map (fun e => edCells (toEd e))).flatten ∧ Below w.heap.size w wr

/-- The rows are its own. -/
def EdsOwn (w : World) (es : List Ed) (e : Ending) (w' : World) : Prop := ∃ g c, e = .returned (.slice (some ⟨g, 0, none⟩) es.length c) ∧ w'.ownsRow w.heap.size 103 8 (.slice (some ⟨g, 0, none⟩) es.length c) es.length (es.map edCells).flatten ∧ Below w.heap.size w w'

set_option maxHeartbeats 4000000 in
set_option maxRecDepth 100000 in
theorem editsTo_own (es : List Pe) (A : Option Addr) (c : Nat) (hn : es.length ≤ 1000000) (w : World) (hA : RowsAt w A 7 (es.map peCells)) : Calls Try.prog 38 #[.slice A es.length c] w (EdsOwn w (es.map toEd)) := by
  obtain ⟨i0, hi0, hz0, hz1, hzb⟩ := info_parts info_te
  have HA := hide hA
  clear hA
  go_enter Try.func38, Try.ntmps38
  go_wp2
  go_loopw [3, 9] (fun ev jv wr => ∃ j : Nat, jv = .int .i64 j ∧ j ≤ es.length ∧ Hid (ToRelO w wr es j ev)) (fun _ jv _ => es.length - (intOf jv).toNat)
  case atStart => exact ⟨0, rfl, Nat.zero_le _, hide ⟨some ⟨w.heap.size, 0, none⟩, 0, rfl, ⟨_, rfl⟩, ⟨rfl, Or.inr ⟨w.heap.size, 0, #[], rfl, Nat.le_refl _, Blk.new _ _ _, Nat.le_refl _, by unfold maxLen; omega, rfl, rfl⟩⟩, by go_grown⟩⟩
  case round =>
    obtain ⟨j, rfl, hj, hcr⟩ := hrel
    obtain ⟨A2, c2, rfl, hA2, hown, hbl⟩ := hcr.out
    by_cases hlt : j < es.length
    · have hrows := HA.out.kept hbl
      obtain ⟨b, o, rfl, h0⟩ := hrows j 0 (by simpa using hlt) (by omega)
      have hc : ∀ i, i < 7 → wr.cell? ⟨b, o + j * 7 + i, none⟩ = some ((peCells es[j]).getD i undef) := by
        intro i hi
        obtain ⟨b', o', e, h⟩ := hrows j i (by simpa using hlt) hi
        injection e with e
        injection e with e1 e2
        subst e1; subst e2
        rw [Nat.add_assoc, h]
        simp [List.getD_eq_getElem?_getD, List.getElem?_eq_getElem hlt]
      obtain ⟨e, he⟩ : ∃ e, es[j] = e := ⟨_, rfl⟩
      rw [he] at hc
      obtain ⟨l, q, oo, l2, c3, o2, t⟩ := e
      have d0 := hc 0 (by omega)
      have d1 := hc 1 (by omega)
      have d2 := hc 2 (by omega)
      have d3 := hc 3 (by omega)
      have d4 := hc 4 (by omega)
      have d5 := hc 5 (by omega)
      have d6 := hc 6 (by omega)
      simp [peCells] at d0 d1 d2 d3 d4 d5 d6
      have HOwn := hide hown
      have HE := hide he
      clear hc h0 hrows hown hcr he
      go_upto_region 5 with fail
      refine wp_gen ?_
      intro W hW
      have hbW : Below wr.heap.size wr W := by rw [hW]; go_grown
      have b1 : Blk W wr.heap.size 38 #[.int .i64 l, .int .i64 q, .int .i64 oo, .int .i64 l2, .int .i64 c3, .int .i64 o2, .string t] := by rw [hW]; exact Blk.new _ _ _
      have f1 := b1.seven
      have l1 := b1.lt
      clear hW d0 d1 d2 d3 d4 d5 d6
      have HOwnW := hide (own_kept HOwn.out hbW)
      have hblW := hbl.trans (hbW.mono hbl.size)
      have hX : Hid (∀ (w5 w1 : World) (g2 cap2 : Nat) (o : Obj), Below W.heap.size W w5 → w1.ownsRow w.heap.size 103 8 (.slice (some ⟨g2, 0, none⟩) (j + 1) cap2) (j + 1) (((es.take j).map (fun e => edCells (toEd e))).flatten ++ (edCells (toEd ⟨l, q, oo, l2, c3, o2, t⟩))) →
          (w5.alloc o).grownBy w1 (Value.slice A2 j c2).ownBlock → ToRelO w w1 es (j + 1) (.slice (some ⟨g2, 0, none⟩) (j + 1) cap2)) := hide (fun w5 w1 g2 cap2 o hb5 h1 h2 => by
        have hbl5 := hblW.trans (hb5.mono hblW.size)
        have ho5 := own_kept HOwnW.out hb5
        have hB := below_grown_alloc hbl5 hbl5.size h2 (fun k hk => own_ge ho5 k hk)
        refine ⟨_, _, rfl, ⟨_, rfl⟩, ?_, hB⟩
        have e : ((es.take (j + 1)).map (fun e => edCells (toEd e))).flatten = ((es.take j).map (fun e => edCells (toEd e))).flatten ++ (edCells (toEd ⟨l, q, oo, l2, c3, o2, t⟩)) := by
          rw [List.take_succ_eq_append_getElem hlt, List.map_append, List.flatten_append, HE.out]
          simp
        rw [e]
        exact h1)
      generalize hXs : ((es.take j).map (fun e => edCells (toEd e))).flatten = X at *
      clear hXs
      have hD : W.drew.heap.size = W.heap.size := rfl
      have hneq : some wr.heap.size ≠ (Value.slice A2 j c2).ownBlock := by
        have h := HOwn.out
        rcases h.2 with ⟨h1, _⟩ | ⟨g, cap, cur, h1, _, h3, _⟩
        · rw [h1]; simp [Value.ownBlock]
        · rw [h1]
          simp [Value.ownBlock]
          have : g < wr.heap.size := Blk.lt (show Blk wr g 103 cur from h3)
          omega
      go_region_held3 (fun w' => (∀ o, w'.cell? ⟨wr.heap.size, o, none⟩ = W.cell? ⟨wr.heap.size, o, none⟩) ∧ W.heap.size ≤ w'.heap.size)
        (first
          | (with_reducible exact SC.start)
          | (go_split_ands; (with_reducible refine SC.app l1 ?_ hgrow hneq); exact SC.alloc l1 ⟨by assumption, by assumption⟩ _)
          | (go_split_ands; (with_reducible refine SC.app l1 ?_ hgrow hneq); exact ⟨by assumption, by assumption⟩)
          | (go_split_ands; (with_reducible refine SC.call l1 ?_ hb); exact ⟨by assumption, by assumption⟩)
          | (go_split_ands; (with_reducible refine SC.alloc l1 ?_ _); exact ⟨by assumption, by assumption⟩))
        (first
          | (go_at_call 56; refine (pointTo_any _ _ _ _).mono ?_; rintro e w1 ⟨rfl, hb⟩; have hzz := hb.size; (try simp only [World.size_alloc, World.size_drew_] at hzz); (first | (have hZ := below_next hZ hb) | (have hZ := below_first hb)))
          | (go_at_call 55; refine (new_any _ _ _ _ _ _ _ _).mono ?_; rintro e w1 ⟨rfl, hb⟩; have hzz := hb.size; (try simp only [World.size_alloc, World.size_drew_] at hzz); (first | (have hZ := below_next hZ hb) | (have hZ := below_first hb)))
          | (refine step_append_lies _ rfl _ _ 63 rfl w.heap.size 103 i0 _ 8 80 Try.underlying63 hi0 hz0 hz1 hzb rfl (by omega) (.slice A2 j c2) j X (by rfl) (own_alloc HOwnW.out hZ _) ⟨w1.heap.size, 0, none⟩ 1 1 (edCells (toEd ⟨l, q, oo, l2, c3, o2, t⟩)) (by rfl) (by rfl) (World.news_of_block (cs := (edCells (toEd ⟨l, q, oo, l2, c3, o2, t⟩)).toArray) (t := 103) (fr := (0, 0)) (heap_alloc_new w1 _)) (by simp [Value.oneCell', edCells]) (by omega) (by unfold maxLen; omega) (by omega) (by have := hblW.size; have := hZ.size; simp; omega) (w1.heap.size + 1) (by simp) ?_; intro g2 cap2 w5 hown1 hgrow hat hlt2))
      have hZ2 := hZ
      go_wp2
      go_roundw
      case rel => exact ⟨j + 1, by go_num, by omega, hide (hX.out _ _ _ _ _ hZ2 hown1 hgrow)⟩
      case measure => simp [intOf]; omega
    · have : j = es.length := by omega
      subst this
      have he : (es.map toEd).length = es.length := by rw [List.length_map]
      obtain ⟨gg, rfl⟩ := hA2
      have hfin : Hid (EdsOwn w (es.map toEd) (.returned (.slice (some ⟨gg, 0, none⟩) es.length c2)) wr) := hide ⟨gg, c2, by rw [he], by
        rw [List.take_length] at hown
        rw [he, List.map_map]; exact hown, hbl⟩
      clear hlt hown he
      go_wp2
      go_ret
      exact hfin.out
end Go.Proofs.Ytgegialfhkgggaa
namespace Go.Proofs.Ytgegialfhkgggaa
open Go.RowKit Stab
attribute [local go_sem ↓] Go.wp_at_zero Go.wp_at_succ

theorem own_rw {w : World} {base g c n : Nat} {f : Nat → Ed} (h : w.ownsRow base 103 8 (.slice (some ⟨g, 0, none⟩) n c) n ((List.range n).map fun i => edCells (f i)).flatten) : Rw w g 0 n f (fun k => k) := by
  have hl : ((List.range n).map fun i => edCells (f i)).length = n := by rw [List.length_map, List.length_range]
  have hr : RowsAt w (some ⟨g, 0, none⟩) 8 ((List.range n).map fun i => edCells (f i)) := own_rows (base := base) (c := c) (t := 103) (by rw [hl]; exact h) (fun r hr => by obtain ⟨x, _, rfl⟩ := List.mem_map.1 hr; rfl)
  intro i hi j hj
  obtain ⟨b, o, e, hc⟩ := hr i j (by rw [hl]; exact hi) hj
  injection e with e
  injection e with e1 e2
  subst e1; subst e2
  refine ⟨?_, ?_⟩
  · rw [Nat.add_assoc, hc]
    simp [List.getD_eq_getElem?_getD, List.getElem?_eq_getElem, hi]
  · rcases h.2 with ⟨h1, _⟩ | ⟨gg, cap, cur, hv, hge, hblk, hc1, hc2, hc3, hc4⟩
    · cases h1
    · injection hv with hv1 hv2 hv3
      injection hv1 with hv1
      injection hv1 with hv1
      subst hv1
      exact (show Blk w g 103 cur from hblk).frozen _
/-- impl.Sort leaves the edits in order. -/
def ISortRes (w : World) (n : Nat) (f : Nat → Ed) (e : Ending) (w' : World) : Prop := ∃ t A c, Sorted (ltE f) t n ∧ e = .returned (.slice A n c) ∧ RowsAt w' A 7 ((List.range n).map fun i => ofCells (f (t i))) ∧ Below w.heap.size w w'
set_option maxHeartbeats 4000000 in
theorem iSort_any (n : Nat) (P : Nat → Pe) (A : Option Addr) (c : Nat) (hn : n ≤ 1000000) (hw : Weak n (ltE fun i => toEd (P i))) (w : World) (hA : RowsAt w A 7 ((List.range n).map fun i => peCells (P i))) :
    Calls Try.prog 20 #[.slice A n c] w (ISortRes w n fun i => toEd (P i)) := by
  have hl : ((List.range n).map P).length = n := by rw [List.length_map, List.length_range]
  have HT := hide (fun W h => editsTo_own ((List.range n).map P) A c (by rw [hl]; omega) W h)
  have HR : Hid (RowsAt w A 7 (((List.range n).map P).map peCells)) := hide (by rw [List.map_map]; exact hA)
  unfold EdsOwn at HT
  simp only [List.length_map, List.length_range, List.map_map] at HT
  have HS := hide (fun b c w hR => sort_any (fun i => toEd (P i)) b 0 n c hn hw w hR)
  have HO := hide (fun (t : Nat → Nat) A c W h => editsOf_any ((List.range n).map fun i => toEd (P (t i))) A c (by simp; omega) W h)
  unfold ofRes at HO
  simp only [List.length_map, List.length_range, List.map_map] at HO
  simp only [List.map_map] at HR
  clear hw hA hl
  go_enter Try.func20, Try.ntmps20
  go_wp2_with fail
  refine (HT.out _ HR.out).mono ?_
  rintro e w1 ⟨g, c1, rfl, hown, hb1⟩
  have hge : w.heap.size ≤ g := by
    rcases hown.2 with ⟨h1, _⟩ | ⟨gg, cap, cur, hv, hge, _⟩
    · cases h1
    · injection hv with hv1 hv2 hv3
      injection hv1 with hv1
      injection hv1 with hv1
      subst hv1
      exact hge
  have hrw := own_rw hown
  clear hown
  go_wp2_with fail
  refine (HS.out g c1 _ hrw).mono ?_
  rintro e w2 ⟨t, ⟨rfl, hrw2, hg2⟩, hsrt⟩
  have hB2 := Below.grown hb1 hg2 hb1.size (fun k hk => by injection hk with hk; omega)
  have hr2 : RowsAt w2 (some ⟨g, 0, none⟩) 8 ((List.range n).map fun i => edCells (toEd (P (t i)))) := by
    intro i j hi hj
    have hi' : i < n := by simpa using hi
    refine ⟨g, 0, rfl, ?_⟩
    rw [← Nat.add_assoc, (hrw2 i hi' j hj).1]
    simp [List.getD_eq_getElem?_getD, List.getElem?_eq_getElem, hi']
  have HB2 := hide hB2
  have HSrt := hide hsrt
  clear hrw hrw2 hg2 hb1 hB2 hsrt hge
  go_wp2_with fail
  refine (HO.out t _ _ _ hr2).mono ?_
  rintro e w3 ⟨A3, c3, rfl, _, hr3, hb3⟩
  have HF : Hid (ISortRes w n (fun i => toEd (P i)) (.returned (.slice A3 n c3)) w3) := hide ⟨t, A3, c3, HSrt.out, rfl, hr3, HB2.out.trans (hb3.mono HB2.out.size)⟩
  clear hr2 hr3 hb3
  go_wp2
  go_ret
  exact HF.out
end Go.Proofs.Ytgegialfhkgggaa
namespace Go.Proofs.Ytgegialfhkgggaa
open Go.RowKit Stab

theorem toEd_at {cs : List Int} {ts : List ByteArray} {i : Nat} : toEd (peAt cs ts i) = ⟨⟨#[97]⟩, 0, 0, (nOf cs i : Nat), 0, 0, (nOf cs i : Nat), tOf ts i⟩ := by
  have c0 : ∀ k : Nat, co 0 0 (k : Int) = k := fun k => by unfold co; rw [if_neg]; simp [cl, cc]
  have e0 : ∀ k : Nat, eN 0 0 (k : Int) 0 0 = 0 := fun k => by unfold eN; split <;> rfl
  have ej : ∀ k : Nat, eN 0 0 (k : Int) (k : Nat) (k : Nat) = (k : Nat) := fun k => by unfold eN; split <;> rfl
  simp only [toEd, peAt, c0, show cl 0 = 0 from rfl, show cc 0 0 = 0 from rfl, e0, ej]
theorem ofCells_at {cs : List Int} {ts : List ByteArray} {i : Nat} : ofCells (toEd (peAt cs ts i)) = peCells (peAt cs ts i) := by
  rw [toEd_at]
  have h : ∀ k : Nat, oO (k : Int) = k := fun k => by unfold oO; rw [if_pos (by omega)]
  simp only [ofCells, peCells, peAt, h, show oL 0 = 0 from rfl, show oC 0 0 = 0 from rfl]
theorem ltE_at {cs : List Int} {ts : List ByteArray} {i j : Nat} : ltE (fun i => toEd (peAt cs ts i)) i j = decide (nOf cs i < nOf cs j) := by
  unfold ltE cmpEd cmpS
  simp only [toEd_at, cmpU_self, if_true, cmpP, sgn]
  (repeat' split) <;> simp <;> omega
theorem weak_at {cs : List Int} {ts : List ByteArray} {n : Nat} : Weak n (ltE fun i => toEd (peAt cs ts i)) := by
  refine ⟨fun x y _ _ h => ?_, fun x y z _ _ _ h => ?_⟩
  · rw [ltE_at] at h ⊢; simp at h ⊢; omega
  · rw [ltE_at] at h; rw [ltE_at, ltE_at]; simp at h ⊢; omega

/-- There is no way to put one number more below a bound than there are, each for itself. -/
theorem no_inj : ∀ (n : Nat) (f : Nat → Nat), (∀ i, i < n + 1 → f i < n) → (∀ i j, i < j → j < n + 1 → f i ≠ f j) → False := by
  intro n
  induction n with
  | zero => intro f h _; exact absurd (h 0 (by omega)) (Nat.not_lt_zero _)
  | succ n ih =>
    intro f h hi
    have hc := h (n + 1) (by omega)
    refine ih (fun i => if f (n + 1) < f i then f i - 1 else f i) (fun i hi' => ?_) (fun i j hij hj => ?_)
    · have h1 := h i (by omega)
      have h2 := hi i (n + 1) (by omega) (by omega)
      split <;> omega
    · have h1 := hi i j hij (by omega)
      have h2 := hi i (n + 1) (by omega) (by omega)
      have h3 := hi j (n + 1) (by omega) (by omega)
      split <;> split <;> omega
/-- A map of the numbers below n to themselves that takes none twice takes each. -/
theorem onto_of {t : Nat → Nat} {n : Nat} (hin : Into t n) (hinj : ∀ i j, i < j → j < n → t i ≠ t j) : ∀ k, k < n → ∃ j, j < n ∧ t j = k := by
  intro k hk
  refine Classical.byContradiction (fun hno => ?_)
  have hne : ∀ j, j < n → t j ≠ k := fun j hj e => hno ⟨j, hj, e⟩
  obtain ⟨m, rfl⟩ : ∃ m, n = m + 1 := ⟨n - 1, by omega⟩
  refine no_inj m (fun i => if k < t i then t i - 1 else t i) (fun i hi => ?_) (fun i j hij hj => ?_)
  · have h1 := hin i hi
    have h2 := hne i hi
    split <;> omega
  · have h1 := hinj i j hij hj
    have h2 := hne i (by omega)
    have h3 := hne j hj
    split <;> split <;> omega

section
variable {n : Nat} {v : Nat → Nat} {t : Nat → Nat}
theorem srt_inj (h : Sorted (fun i j => decide (v i < v j)) t n) : ∀ i j, i < j → j < n → t i ≠ t j := by
  intro i j hij hj e
  rcases h.srt i j (Nat.zero_le _) hij hj with h1 | ⟨_, h2⟩
  · simp [e] at h1
  · omega
theorem srt_le (h : Sorted (fun i j => decide (v i < v j)) t n) {i : Nat} (hi : i + 1 < n) : v (t i) ≤ v (t (i + 1)) := by
  rcases h.srt i (i + 1) (Nat.zero_le _) (by omega) hi with h1 | ⟨h1, _⟩
  · simp at h1; omega
  · simp at h1; omega
/-- What lies ahead of the one at place i, and has its number, was there before. -/
theorem srt_first (h : Sorted (fun i j => decide (v i < v j)) t n) {i k : Nat} (hi : i < n) (hk : k < t i) (he : v k = v (t i)) : ∃ j, j < i ∧ t j = k := by
  have hti := h.into i hi
  obtain ⟨j, hj, rfl⟩ := onto_of h.into (srt_inj h) k (by omega)
  refine ⟨j, ?_, rfl⟩
  rcases Nat.lt_trichotomy j i with c | c | c
  · exact c
  · subst c; omega
  · rcases h.srt i j (Nat.zero_le _) c hj with h1 | ⟨_, h2⟩
    · simp at h1; omega
    · omega
end
/-- Which ones are used behind i rounds. -/
def usedB (t : Nat → Nat) : Nat → Nat → Bool
  | 0, _ => false
  | i + 1, k => usedB t i k || decide (t i = k)
theorem usedB_true {t : Nat → Nat} {i j : Nat} (h : j < i) : usedB t i (t j) = true := by
  induction i with
  | zero => omega
  | succ i ih =>
    rw [usedB]
    by_cases e : j = i
    · subst e; simp
    · rw [ih (by omega)]; rfl
theorem usedB_false {t : Nat → Nat} {n i : Nat} (hinj : ∀ i j, i < j → j < n → t i ≠ t j) (hi : i < n) : ∀ m, m ≤ i → usedB t m (t i) = false := by
  intro m
  induction m with
  | zero => intro _; rfl
  | succ m ih =>
    intro hm
    rw [usedB, ih (by omega)]
    have := hinj m i (by omega) hi
    simp [this]
def UsedAt (w : World) (ub n : Nat) (t : Nat → Nat) (i : Nat) : Prop := ∃ cur, Blk w ub 4 cur ∧ cur.size = n ∧ ∀ k, k < n → cur[k]? = some (.bool (usedB t i k))
theorem UsedAt.cell {w : World} {ub n : Nat} {t : Nat → Nat} {i k : Nat} (h : UsedAt w ub n t i) (hk : k < n) : w.cell? ⟨ub, k, none⟩ = some (.bool (usedB t i k)) ∧ w.frozen? ⟨ub, k, none⟩ = false := by
  obtain ⟨cur, hb, _, hc⟩ := h
  exact ⟨by rw [hb.cell, hc k hk], hb.frozen k⟩
theorem UsedAt.lt {w : World} {ub n : Nat} {t : Nat → Nat} {i : Nat} (h : UsedAt w ub n t i) : ub < w.heap.size := by obtain ⟨cur, hb, _⟩ := h; exact hb.lt
theorem UsedAt.kept {w w1 : World} {ub n : Nat} {t : Nat → Nat} {i : Nat} (h : UsedAt w ub n t i) (hb : Below w.heap.size w w1) : UsedAt w1 ub n t i := by
  obtain ⟨cur, hk, h2⟩ := h
  exact ⟨cur, hk.kept hb, h2⟩
theorem UsedAt.put {w : World} {ub n : Nat} {t : Nat → Nat} {i : Nat} (h : UsedAt w ub n t i) (hk : t i < n) : UsedAt (w.setCell ⟨ub, t i, none⟩ (.bool true)) ub n t (i + 1) := by
  obtain ⟨cur, hb, hz, hc⟩ := h
  refine ⟨_, hb.set_ (t i) (.bool true), by simpa using hz, fun k hk' => ?_⟩
  rw [usedB]
  by_cases e : t i = k
  · subst e
    simp [Array.getElem?_setIfInBounds, hz, hk']
  · rw [Array.getElem?_setIfInBounds, if_neg e, hc k hk']
    simp [e]
end Go.Proofs.Ytgegialfhkgggaa
