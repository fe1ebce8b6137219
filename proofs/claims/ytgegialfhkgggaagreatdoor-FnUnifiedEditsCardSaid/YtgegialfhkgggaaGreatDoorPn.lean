/- Walks: addEqualLines, addEdit, lineEdits; hunks in memory. No condition but sizes. -/
import Derived.Test.YtgegialfhkgggaaGreatDoorPa
import Derived.Deep.RegionHeld3
import Derived.StillTail
import Derived.Test.YtgegialfhkgggaaGreatDoorPg
import Derived.Test.YtgegialfhkgggaaGreatDoorPm
import Derived.Test.YtgegialfhkgggaaGreatDoorPd
import Derived.Deep.RegionLaw
import Derived.Test.YtgegialfhkgggaaGreatDoorPh
import Derived.IntWalk
import Derived.Deep.CutRange
import Derived.Deep.DeepCutAuto
set_option linter.unusedVariables false
set_option linter.unusedSimpArgs false
namespace Go.Proofs.YtgegialfhkgggaaGreatDoor
open Go.RowKit

section
variable {P : Program} {ops : Array Oper} {Q : Exit → Act → World → Prop} {md : Region.Mode} {S : World → Prop} {L : Nat}

/-- Whatever order is picked: S holds behind every operation but number L. -/
def AnyT (P : Program) (md : Region.Mode) (ops : Array Oper) (Q : Exit → Act → World → Prop) (S : World → Prop) (L : Nat) : Nat → Array Bool → Act → World → Prop
  | 0, d, a, w => Region.ready md ops d = [] ∧ Q .normal a w
  | f + 1, d, a, w => (Region.ready md ops d = [] → Q .normal a w) ∧ ∀ i ∈ Region.ready md ops d, wpOp P ops Q i (fun a2 w2 => (i ≠ L → S w2) ∧ AnyT P md ops Q S L f (d.setIfInBounds i true) a2 w2) a w
theorem AnyT.any : ∀ (f : Nat) (d : Array Bool) (a : Act) (w : World), AnyT P md ops Q S L f d a w → wpAny P md ops Q f d a w
  | 0, _, _, _, h => h
  | f + 1, _, _, _, h => ⟨h.1, fun i hi => wpOp_mono (fun a2 w2 h2 => AnyT.any f _ a2 w2 h2.2) (h.2 i hi)⟩
theorem AnyT.first {i : Nat} {oi : Oper} {v : Value} (hi : ops[i]? = some oi) (hsel : ∀ (j : Nat) (o : Oper) cs b, ops[j]? = some o → o.op ≠ .select cs b)
    (hQ : ∀ c a w, Q (.panic c) (a.put oi.dst v) w → Q (.panic c) a w) (hw : Region.waitsFor md ops L i = true) :
    ∀ (f : Nat) (d : Array Bool) (a : Act) (w : World), (∀ j oj, ops[j]? = some oj → j ≠ i → d.getD j true = false → (∀ e ∈ oj.after, Region.binds md e = true → e.on ≠ i) → oi.apart ops oj = true) →
      i ∈ Region.ready md ops d → YieldsIf P ops S oi v a → S w → AnyT P md ops Q S L f (d.setIfInBounds i true) (a.put oi.dst v) w → AnyT P md ops Q S L (f + 1) d a w := by
  intro f
  induction f with
  | zero =>
    intro d a w _ hr hy hS H
    refine ⟨fun h => absurd hr (by rw [h]; simp), fun j hj => ?_⟩
    by_cases e : j = i
    · subst e; exact hy.wpOp hi hS ⟨fun _ => hS, H⟩
    · have h2 := ready_mono hj e
      rw [H.1] at h2
      exact absurd h2 (by simp)
  | succ f ih =>
    intro d a w hfree hr hy hS H
    refine ⟨fun h => absurd hr (by rw [h]; simp), fun j hj => ?_⟩
    by_cases e : j = i
    · subst e; exact hy.wpOp hi hS ⟨fun _ => hS, H⟩
    · have h1 := H.2 j (ready_mono hj e)
      obtain ⟨hju, oj, hoj, hall⟩ := mem_ready.1 hj
      have hd0 := (mem_ready.1 hr).1
      have hno : ∀ x ∈ oj.after, Region.binds md x = true → x.on ≠ i := fun x hx hb hxi => by
        have q1 := hall x hx hb
        rw [hxi] at q1
        rcases Nat.lt_or_ge i d.size with c | c
        · simp only [Array.getD_eq_getD_getElem?, Array.getElem?_eq_getElem c, Option.getD_some] at q1 hd0
          rw [q1] at hd0; cases hd0
        · simp only [Array.getD_eq_getD_getElem?, Array.getElem?_eq_none c, Option.getD_none] at hd0
          cases hd0
      have hjL : j ≠ L := by
        rintro rfl
        obtain ⟨ol, hol, x, hx, hb, hxi⟩ := Region.waitsFor_spec hw
        rw [hoj] at hol
        injection hol with hol
        subst hol
        exact hno x hx hb hxi
      have h2 := wpOp_putIf hoj (hfree j oj hoj e hju hno) (fun cs b => hsel i oi cs b hi) (fun cs b => hsel j oj cs b hoj) hQ hy h1
      refine wpOp_mono (fun a2 w2 h3 => ⟨h3.2.1, ih (d.setIfInBounds j true) a2 w2 (fun k ok hk hki hun hn => ?_) (ready_mono hr (Ne.symm e)) h3.1 (h3.2.1 hjL) ?_⟩) h2
      · refine hfree k ok hk hki ?_ hn
        by_cases c : j = k
        · subst c; exact hju
        · rw [getD_set_ne true c] at hun; exact hun
      · rw [Array.setIfInBounds_comm _ _ e]
        exact h3.2.2
/-- Operation i is taken first. -/
theorem AnyT.take {i : Nat} {oi : Oper} {v : Value} {f : Nat} {d : Array Bool} {a : Act} {w : World} (hi : ops[i]? = some oi) (hs : Region.noSelect ops = true) (hf : Region.free md ops d i = true)
    (hr : (Region.ready md ops d).contains i = true) (hw : Region.waitsFor md ops L i = true) (hQ : ∀ c a w, Q (.panic c) (a.put oi.dst v) w → Q (.panic c) a w) (hy : YieldsIf P ops S oi v a) (hS : S w)
    (h : AnyT P md ops Q S L f (d.setIfInBounds i true) (a.put oi.dst v) w) : AnyT P md ops Q S L (f + 1) d a w :=
  AnyT.first hi (Region.noSelect_spec hs) hQ hw f d a w (Region.free_spec hi hf) (by simpa using hr) hy hS h
/-- There is one operation that may come up. -/
theorem AnyT.one {i : Nat} {o : Oper} {f : Nat} {d : Array Bool} {a : Act} {w : World} (hr : Region.ready md ops d = [i]) (ho : ops[i]? = some o)
    (h : ∀ K2 : Act → World → Prop, Shut (∀ a w, (i ≠ L → S w) → ((i ≠ L → S w) → AnyT P md ops Q S L f (d.setIfInBounds i true) a w) → K2 a w) → if Region.wanted o (yielded ops a.tmps) = true then Oper.wp P o a w K2 Q else K2 (a.put o.dst undef) w) :
    AnyT P md ops Q S L (f + 1) d a w := by
  refine ⟨fun h0 => absurd h0 (by rw [hr]; simp), fun j hj => ?_⟩
  rw [hr] at hj
  obtain rfl := List.mem_singleton.1 hj
  exact wpOp_step ho (fun K2 hK => h K2 (fun a w hS hW => hK a w ⟨hS, hW hS⟩))
theorem AnyT.done {d : Array Bool} {a : Act} {w : World} (hr : Region.ready md ops d = []) (h : Q .normal a w) : ∀ f, AnyT P md ops Q S L f d a w
  | 0 => ⟨hr, h⟩
  | _ + 1 => ⟨fun _ => h, by rw [hr]; simp⟩
theorem AnyT.region {id : Nat} {a : Act} {w : World} (hm : P.follows .mixedOrders = true) (hS : S w.drew) (h : S w.drew → AnyT P .any ops Q S L ops.size (Array.replicate ops.size false) a w.drew) : (Code.region id ops true).wp P Q a w :=
  wp_region_any hm (AnyT.any _ _ _ _ (h hS))
/-- There is one operation that may come up, in a region that only reads and makes memory. -/
theorem anyH_one {i : Nat} {o : Oper} {f : Nat} {d : Array Bool} {a : Act} {w : World} (hr : Region.ready md ops d = [i]) (ho : ops[i]? = some o)
    (h : ∀ K2 : Act → World → Prop, Shut (∀ a w, S w → (S w → wpAnyH P md ops Q S f (d.setIfInBounds i true) a w) → K2 a w) → if Region.wanted o (yielded ops a.tmps) = true then Oper.wp P o a w K2 Q else K2 (a.put o.dst undef) w) :
    wpAnyH P md ops Q S (f + 1) d a w := wpAnyH_ready hr (by simp) (AllReadyH.cons ho h AllReadyH.nil)
end
theorem SB.below0 {g : Nat} {W w1 : World} (hb : Below W.drew.heap.size W.drew w1) (h : SB g W W.drew) : Below g W w1 := (Below.refl g W).drew.trans (hb.mono h.2.1)
end Go.Proofs.YtgegialfhkgggaaGreatDoor
namespace Go.Proofs.YtgegialfhkgggaaGreatDoor
open Go.RowKit Go.Proofs.YtgegialfhkgggaaGreatDoor.Lines
attribute [local go_sem ↓] Go.wp_at_zero Go.wp_at_succ

/-- The cells of a line of a hunk. -/
def lnCells (x : Nat × ByteArray) : List Value := [.int .i64 x.1, .string x.2]
def lnRow (ls : List (Nat × ByteArray)) : List Value := (ls.map lnCells).flatten
theorem lnRow_app (a b : List (Nat × ByteArray)) : lnRow (a ++ b) = lnRow a ++ lnRow b := by simp [lnRow]
/-- A hunk in block q; its lines in the slice v. -/
def HAt (w : World) (q : Nat) (h : Hk.HK ByteArray) (v : Value) : Prop := Blk w q 57 #[.int .i64 h.f, .int .i64 h.g, v] ∧ w.ownsRow (q + 1) 63 2 v h.ls.length (lnRow h.ls)
/-- All is kept but the hunk in block p and its lines. -/
structure HKept (p : Nat) (w w' : World) : Prop where
  below : Below p w w'
  blk : ∀ g t cs, g ≠ p → t ≠ 63 → Blk w g t cs → Blk w' g t cs
  size : w.heap.size ≤ w'.heap.size
theorem HKept.refl (p : Nat) (w : World) : HKept p w w := ⟨Below.refl _ _, fun _ _ _ _ _ h => h, Nat.le_refl _⟩
theorem HKept.trans {p : Nat} {w w1 w2 : World} (h : HKept p w w1) (h2 : HKept p w1 w2) : HKept p w w2 :=
  ⟨h.below.trans h2.below, fun g t cs a b c => h2.blk g t cs a b (h.blk g t cs a b c), Nat.le_trans h.size h2.size⟩
theorem info_ln : (Tryz.prog.info? 63).map (fun i => (i.zero, i.size, i.bytes)) = some (some (.agg #[.int .i64 0, .string ⟨#[]⟩]), 2, 24) := by kernel_rfl

/-- One line is appended, and the slice stored into the hunk. -/
theorem HAt.push {wr wd w1 : World} {p : Nat} {h : Hk.HK ByteArray} {v : Value} {x : Nat × ByteArray} {g cap : Nat} {o : Obj} (H : HAt wr p h v) (hd : wd.heap = wr.heap)
    (hos : wd.os = wr.os) (htp : wd.tape = wr.tape) (hou : wd.output = wr.output)
    (hown : w1.ownsRow (p + 1) 63 2 (.slice (some ⟨g, 0, none⟩) (h.ls.length + 1) cap) (h.ls.length + 1) (lnRow h.ls ++ lnCells x)) (hgr : (wd.alloc o).grownBy w1 v.ownBlock) :
    HAt (w1.setCell ⟨p, 2, none⟩ (.slice (some ⟨g, 0, none⟩) (h.ls.length + 1) cap)) p { h with ls := h.ls ++ [x] } (.slice (some ⟨g, 0, none⟩) (h.ls.length + 1) cap) ∧
    HKept p wr (w1.setCell ⟨p, 2, none⟩ (.slice (some ⟨g, 0, none⟩) (h.ls.length + 1) cap)) := by
  obtain ⟨hb, ho⟩ := H
  have hvge := own_ge ho
  have hpl := hb.lt
  have hz : wd.heap.size = wr.heap.size := by rw [hd]
  have hsz := hgr.size
  simp only [World.size_alloc] at hsz
  have old : ∀ k, k < wr.heap.size → some k ≠ v.ownBlock → w1.heap[k]? = wr.heap[k]? := fun k hk hne => by
    rw [hgr.block k (by simp; omega) hne, Below.heap_alloc wd o k (by omega), hd]
  have hb1 : Blk w1 p 57 #[.int .i64 h.f, .int .i64 h.g, v] := by
    unfold Blk at hb ⊢
    rw [old p hpl (fun e => by have := hvge p e.symm; omega)]
    exact hb
  have hg : p + 1 ≤ g := own_ge hown g rfl
  refine ⟨⟨?_, ?_⟩, ⟨?_, ?_, ?_⟩⟩
  · have := hb1.set_ 2 (.slice (some ⟨g, 0, none⟩) (h.ls.length + 1) cap)
    exact this
  · simp only [List.length_append, List.length_singleton, lnRow_app]
    have e : lnRow [x] = lnCells x := by simp [lnRow]
    rw [e]
    refine hown.kept (row := some p) ⟨rfl, rfl, rfl, by simp [World.setCell], fun k hk hne => Below.heap_setCell w1 _ _ k (fun e => hne (by rw [e]))⟩ (Or.inr ?_)
    simp [Value.ownBlock]; omega
  · refine ⟨hgr.os.trans hos, hgr.tape.trans htp, hgr.output.trans hou, by simp [World.setCell]; omega, fun k hk => ?_⟩
    rw [Below.heap_setCell w1 _ _ k (by simp; omega)]
    exact old k (by omega) (fun e => by have := hvge k e.symm; omega)
  · intro k t cs hne ht hk
    have hkl := hk.lt
    unfold Blk at hk ⊢
    rw [Below.heap_setCell w1 _ _ k (by simpa using hne)]
    rw [old k hkl ?_]
    · exact hk
    · intro e
      rcases ho.2 with ⟨h1, _⟩ | ⟨g', cap', cur, h1, _, h3, _⟩
      · rw [h1] at e; simp [Value.ownBlock] at e
      · rw [h1] at e
        simp [Value.ownBlock] at e
        subst e
        rw [hk] at h3
        injection h3 with h3
        injection h3 with _ h4
        exact ht h4
  · simp [World.setCell]; omega

/-- What addEqualLines leaves. -/
def EqRes (w : World) (p : Nat) (h : Hk.HK ByteArray) (l : List ByteArray) (e : Ending) (w' : World) : Prop := ∃ v, e = .returned (.int .i64 l.length) ∧ HAt w' p (Hk.ext h l) v ∧ HKept p w w'
/-- The relation of its loop. -/
def EqRel (w wr : World) (p : Nat) (h : Hk.HK ByteArray) (l : List ByteArray) : Prop := ∃ v, HAt wr p (Hk.ext h l) v ∧ HKept p w wr
theorem ext_nil (h : Hk.HK ByteArray) : Hk.ext h [] = h := by unfold Hk.ext Hk.mark; simp
theorem ext_snoc (h : Hk.HK ByteArray) (l : List ByteArray) (x : ByteArray) : Hk.ext h (l ++ [x]) = { Hk.ext h l with ls := (Hk.ext h l).ls ++ [(2, x)] } := by unfold Hk.ext Hk.mark; simp
theorem ext_len (h : Hk.HK ByteArray) (l : List ByteArray) : (Hk.ext h l).ls.length = h.ls.length + l.length := by unfold Hk.ext Hk.mark; simp
theorem seg_snoc {α : Type} (A : List α) {i j : Nat} (h : i ≤ j) (h2 : j < A.length) : Hk.seg A i (j + 1) = Hk.seg A i j ++ [A[j]] := by
  rw [← Hk.seg_app A h (Nat.le_succ j), Hk.seg_get A (Nat.lt_succ_self j) h2, Hk.seg_self]

set_option maxHeartbeats 4000000 in
set_option maxRecDepth 100000 in
theorem addEq_any (ls : List ByteArray) (L : Option Addr) (cL p : Nat) (h : Hk.HK ByteArray) (v : Value) (i j : Int) (h1 : -10 ≤ i) (h2 : i ≤ j) (h3 : j ≤ 1000000) (hl : ls.length ≤ 1000000) (hn : h.ls.length ≤ 1000000000) (w : World)
    (hS : ∀ W, Below p w W → Strs W L ls) (hH : HAt w p h v) : Calls Tryz.prog 52 #[.pointer (some ⟨p, 0, none⟩), .slice L ls.length cL, .int .i64 i, .int .i64 j] w (EqRes w p h (Hk.seg ls i.toNat j.toNat)) := by
  obtain ⟨i0, hi0, hz0, hz1, hzb⟩ := info_parts info_ln
  have HS := hide hS
  have H0 : Hid (EqRel w w p h (Hk.seg ls i.toNat i.toNat)) := hide ⟨v, by rw [Hk.seg_self, ext_nil]; exact hH, HKept.refl _ _⟩
  clear hS hH
  go_enter Tryz.func52, Tryz.ntmps52
  go_wp2
  go_loopw [9, 10] (fun dv iv wr => ∃ k : Int, iv = .int .i64 k ∧ i ≤ k ∧ k ≤ j ∧ dv = .int .i64 ((Hk.seg ls i.toNat k.toNat).length : Nat) ∧ Hid (EqRel w wr p h (Hk.seg ls i.toNat k.toNat))) (fun _ iv _ => (j - intOf iv).toNat)
  case atStart => exact ⟨i, rfl, Int.le_refl _, h2, by rw [Hk.seg_self]; rfl, H0⟩
  case round =>
    obtain ⟨k, rfl, hk1, hk2, rfl, hr⟩ := hrel
    clear H0
    have hsl := Hk.seg_len ls i.toNat k.toNat
    by_cases c1 : k < j
    · by_cases c2 : k < 0
      · have e1 : Hk.seg ls i.toNat (k + 1).toNat = Hk.seg ls i.toNat k.toNat := by
          rw [show (k + 1).toNat = 0 by omega, show k.toNat = 0 by omega]
        have HE := hide e1
        have hm : ((Hk.seg ls i.toNat k.toNat).length : Nat) ≤ 1000000 := by omega
        obtain ⟨m, hm2⟩ : ∃ m, (Hk.seg ls i.toNat k.toNat).length = m := ⟨_, rfl⟩
        have HM := hide hm2
        rw [hm2] at hm ⊢
        clear e1 hm2 hsl
        go_wp2
        go_roundw
        case rel => exact ⟨k + 1, by go_num, by omega, by omega, by rw [HE.out, HM.out], by rw [HE.out]; exact hr⟩
        case measure => simp [intOf]; omega
      · obtain ⟨q, rfl⟩ := Int.eq_ofNat_of_zero_le (show 0 ≤ k by omega)
        rw [Int.toNat_natCast] at hr hsl
        rw [Int.toNat_natCast]
        by_cases c3 : q < ls.length
        · obtain ⟨v1, a1, a2⟩ := hr.out
          obtain ⟨b, o, rfl, hc⟩ := HS.out _ a2.below q c3
          have hsn := seg_snoc ls (show i.toNat ≤ q by omega) c3
          have hx : ls.getD q ByteArray.empty = ls[q] := by rw [List.getD_eq_getElem?_getD, List.getElem?_eq_getElem c3]; rfl
          obtain ⟨x, hx2⟩ : ∃ x, ls[q] = x := ⟨_, rfl⟩
          rw [hx, hx2] at hc
          rw [hx2] at hsn
          obtain ⟨l, hl2⟩ : ∃ l, Hk.seg ls i.toNat q = l := ⟨_, rfl⟩
          rw [hl2] at hsn hsl a1 ⊢
          have hpl := a1.1.lt
          have k3 := a1.1.three
          have hel := ext_len h l
          have HX : Hid (∀ (w1 : World) (g cap : Nat) (wd : World) (o : Obj), wd.heap = wr.heap → wd.os = wr.os → wd.tape = wr.tape → wd.output = wr.output → w1.ownsRow (p + 1) 63 2 (.slice (some ⟨g, 0, none⟩) ((Hk.ext h l).ls.length + 1) cap) ((Hk.ext h l).ls.length + 1) (lnRow (Hk.ext h l).ls ++ lnCells (2, x)) → (wd.alloc o).grownBy w1 v1.ownBlock →
              EqRel w (w1.setCell ⟨p, 2, none⟩ (.slice (some ⟨g, 0, none⟩) ((Hk.ext h l).ls.length + 1) cap)) p h (l ++ [x])) := hide (fun w1 g cap wd o e1 e2 e3 e4 h1 h2 => by
            obtain ⟨r1, r2⟩ := HAt.push a1 e1 e2 e3 e4 h1 h2
            exact ⟨_, by rw [ext_snoc]; exact r1, a2.trans r2⟩)
          have HSn := hide hsn
          have hown := a1.2
          have HOwn := hide hown
          have HY : Hid (∀ (w5 : World) (o : Obj), (wr.drew.alloc o).grownBy w5 v1.ownBlock → w5.cell? ⟨p, 2, none⟩ = some v1 ∧ w5.frozen? ⟨p, 2, none⟩ = false) := hide (fun w5 o hg => by
            have hb5 : Blk w5 p 57 #[.int .i64 (Hk.ext h l).f, .int .i64 (Hk.ext h l).g, v1] := (a1.1.drew.alloc o).grown hg (fun e => by have := own_ge hown p e.symm; omega)
            exact ⟨hb5.cell 2, hb5.frozen 2⟩)
          have hm : l.length ≤ 1000000 := by omega
          obtain ⟨m, hm2⟩ : ∃ m, l.length = m := ⟨_, rfl⟩
          have hm3 : (l ++ [x]).length = m + 1 := by rw [List.length_append, hm2]; rfl
          have HM := hide hm3
          rw [hm2] at hel hm ⊢
          generalize Hk.ext h l = h' at *
          have hn' : h'.ls.length ≤ 1001000000 := by omega
          obtain ⟨N, hN⟩ : ∃ N, h'.ls.length = N := ⟨_, rfl⟩
          rw [hN] at HX HOwn hn'
          obtain ⟨X, hX⟩ : ∃ X, lnRow h'.ls = X := ⟨_, rfl⟩
          rw [hX] at HX HOwn
          clear hX hN hsn hx hx2 hl2 a1 a2 hr hown hel hsl hm2 hm3
          go_wp2_with fail
          go_region_law (first
            | (refine step_append_lies _ rfl _ _ 55 rfl (p + 1) 63 i0 _ 2 24 Tryz.underlying55 hi0 hz0 hz1 hzb rfl (by omega) v1 N X (by rfl) ((HOwn.out).alloc _) ⟨wr.heap.size, 0, none⟩ 1 1 (lnCells (2, x)) (by rfl) (by rfl) (World.news_of_block (cs := (lnCells (2, x)).toArray) (t := 63) (fr := (0, 0)) (heap_alloc_new _ _)) (by simp [Value.oneCell', lnCells]) (by omega) (by unfold maxLen; omega) (by omega) (by simp; omega) (wr.heap.size + 1) (by simp) ?_; intro g2 cap2 w5 hown1 hgrow hat hlt2; have hY := HY.out _ _ hgrow))
          all_goals
            have HR := hide (HX.out _ _ _ wr.drew _ rfl rfl rfl rfl hown1 hgrow)
            clear hown1 hgrow hY hat
            go_wp2
            go_roundw
            case rel => exact ⟨((q + 1 : Nat) : Int), by go_num, by omega, by omega, by rw [Int.toNat_natCast, HSn.out, HM.out]; go_num, by rw [Int.toNat_natCast, HSn.out]; exact HR⟩
            case measure => simp [intOf]; omega
        · have e1 : Hk.seg ls i.toNat q = Hk.seg ls i.toNat j.toNat := by
            rw [Hk.seg_clip ls (show ls.length ≤ q by omega), Hk.seg_clip ls (show ls.length ≤ j.toNat by omega)]
          rw [e1] at hr hsl
          have HF : Hid (EqRes w p h (Hk.seg ls i.toNat j.toNat) (.returned (.int .i64 (Hk.seg ls i.toNat j.toNat).length)) wr) := hide (by
            obtain ⟨v1, a1, a2⟩ := hr.out
            exact ⟨v1, rfl, a1, a2⟩)
          rw [e1]
          have hm : ((Hk.seg ls i.toNat j.toNat).length : Nat) ≤ 1000000 := by omega
          generalize (Hk.seg ls i.toNat j.toNat).length = m at *
          clear e1 hr hsl
          go_wp2
          go_ret
          exact HF.out
    · obtain rfl : k = j := by omega
      have HF : Hid (EqRes w p h (Hk.seg ls i.toNat k.toNat) (.returned (.int .i64 (Hk.seg ls i.toNat k.toNat).length)) wr) := hide (by
        obtain ⟨v1, a1, a2⟩ := hr.out
        exact ⟨v1, rfl, a1, a2⟩)
      have hm : ((Hk.seg ls i.toNat k.toNat).length : Nat) ≤ 1000000 := by omega
      generalize (Hk.seg ls i.toNat k.toNat).length = m at *
      clear hr hsl
      go_wp2
      go_ret
      exact HF.out
end Go.Proofs.YtgegialfhkgggaaGreatDoor
namespace Go.Proofs.YtgegialfhkgggaaGreatDoor
open Go.RowKit Go.Proofs.YtgegialfhkgggaaGreatDoor.Lines
attribute [local go_sem ↓] Go.wp_at_zero Go.wp_at_succ

theorem info_ph : (Tryz.prog.info? 54).map (fun i => (i.zero, i.size, i.bytes)) = some (some (.pointer none), 1, 8) := by kernel_rfl
/-- A hunk all of which lies below block B. -/
def HLow (w : World) (B q : Nat) (h : Hk.HK ByteArray) : Prop := ∃ v, HAt w q h v ∧ q < B ∧ ∀ k, v.ownBlock = some k → k < B
theorem HAt.low {w : World} {q : Nat} {h : Hk.HK ByteArray} {v : Value} (H : HAt w q h v) : HLow w w.heap.size q h := ⟨v, H, H.1.lt, fun k hk => (H.2.lt k hk).2⟩
theorem HLow.mono {w : World} {B B' q : Nat} {h : Hk.HK ByteArray} (H : HLow w B q h) (hB : B ≤ B') : HLow w B' q h := by
  obtain ⟨v, h1, h2, h3⟩ := H
  exact ⟨v, h1, by omega, fun k hk => by have := h3 k hk; omega⟩
/-- Hunks are kept where blocks of hunks and of lines are. -/
theorem HLow.carry {w w' : World} {B q : Nat} {h : Hk.HK ByteArray} (H : HLow w B q h) (hk : ∀ g t cs, g < B → (t = 57 ∨ t = 63) → Blk w g t cs → Blk w' g t cs) : HLow w' B q h := by
  obtain ⟨v, ⟨h1, h2, h4⟩, h5, h6⟩ := H
  refine ⟨v, ⟨hk _ _ _ h5 (Or.inl rfl) h1, h2, ?_⟩, h5, h6⟩
  rcases h4 with h4 | ⟨g, cap, cur, rfl, a1, a2, a3⟩
  · exact Or.inl h4
  · exact Or.inr ⟨g, cap, cur, rfl, a1, hk g _ cur (h6 g rfl) (Or.inr rfl) a2, a3⟩
theorem HLow.below {w w' : World} {B q : Nat} {h : Hk.HK ByteArray} (H : HLow w B q h) (hb : Below B w w') : HLow w' B q h := H.carry (fun _ _ _ hg _ hk => hk.below hb hg)
abbrev ptrV (p : Nat) : Value := .pointer (some ⟨p, 0, none⟩)
/-- The unified edits in block u: names, and hunks behind pointers, all below block B. -/
def UHs (w : World) (bs u B : Nat) (nf nt : ByteArray) (hs : List (Hk.HK ByteArray)) : Prop := ∃ (v : Value) (ps : List Nat), Blk w u 52 #[.string nf, .string nt, v] ∧ u < bs ∧ w.ownsRow bs 54 1 v hs.length (ps.map ptrV) ∧ ps.length = hs.length ∧
  (∀ i (h1 : i < ps.length) (h2 : i < hs.length), HLow w B ps[i] hs[i] ∧ u < ps[i]) ∧ u < B ∧ ∀ k, v.ownBlock = some k → k < B
theorem UHs.below {w w' : World} {bs u B : Nat} {nf nt : ByteArray} {hs : List (Hk.HK ByteArray)} (H : UHs w bs u B nf nt hs) (hb : Below B w w') : UHs w' bs u B nf nt hs := by
  obtain ⟨v, ps, h1, hbs, ⟨h2, h2'⟩, h3, h4, h5, h6⟩ := H
  refine ⟨v, ps, h1.below hb h5, hbs, ⟨h2, ?_⟩, h3, fun i a b => ⟨(h4 i a b).1.below hb, (h4 i a b).2⟩, h5, h6⟩
  rcases h2' with h | ⟨g, cap, cur, rfl, a1, a2, a3⟩
  · exact Or.inl h
  · exact Or.inr ⟨g, cap, cur, rfl, a1, Blk.below (t := 54) a2 hb (h6 g rfl), a3⟩
theorem UHs.mono {w : World} {bs u B B' : Nat} {nf nt : ByteArray} {hs : List (Hk.HK ByteArray)} (H : UHs w bs u B nf nt hs) (hB : B ≤ B') : UHs w bs u B' nf nt hs := by
  obtain ⟨v, ps, h1, hbs, h2, h3, h4, h5, h6⟩ := H
  exact ⟨v, ps, h1, hbs, h2, h3, fun i a b => ⟨(h4 i a b).1.mono hB, (h4 i a b).2⟩, by omega, fun k hk => by have := h6 k hk; omega⟩
/-- One hunk more: its pointer is appended, and the slice stored. -/
theorem UHs.push {w w1 : World} {bs u : Nat} {nf nt : ByteArray} {hs : List (Hk.HK ByteArray)} {h : Hk.HK ByteArray} {q g cap : Nat} {v hv : Value} {ps : List Nat} {o : Obj}
    (hu : Blk w u 52 #[.string nf, .string nt, v]) (hbs : u < bs) (hown : w.ownsRow bs 54 1 v hs.length (ps.map ptrV)) (hps : ps.length = hs.length)
    (hl : ∀ i (h1 : i < ps.length) (h2 : i < hs.length), HLow w w.heap.size ps[i] hs[i] ∧ u < ps[i]) (hq : HAt w q h hv) (huq : u < q)
    (hown1 : w1.ownsRow bs 54 1 (.slice (some ⟨g, 0, none⟩) (hs.length + 1) cap) (hs.length + 1) (ps.map ptrV ++ [ptrV q])) (hgr : (w.alloc o).grownBy w1 v.ownBlock) :
    UHs (w1.setCell ⟨u, 2, none⟩ (.slice (some ⟨g, 0, none⟩) (hs.length + 1) cap)) bs u w1.heap.size nf nt (hs ++ [h]) ∧
    (w1.os = w.os ∧ w1.tape = w.tape ∧ w1.output = w.output ∧ w.heap.size ≤ w1.heap.size ∧ ∀ k, k < w.heap.size → k < bs → k ≠ u → (w1.setCell ⟨u, 2, none⟩ (.slice (some ⟨g, 0, none⟩) (hs.length + 1) cap)).heap[k]? = w.heap[k]?) ∧
    (∀ k t cs, k < w.heap.size → k ≠ u → t ≠ 54 → Blk w k t cs → Blk (w1.setCell ⟨u, 2, none⟩ (.slice (some ⟨g, 0, none⟩) (hs.length + 1) cap)) k t cs) := by
  have hge := own_ge hown
  have hul := hu.lt
  have hsz := hgr.size
  simp only [World.size_alloc] at hsz
  have hg : bs ≤ g := own_ge hown1 g rfl
  have old : ∀ k, k < w.heap.size → some k ≠ v.ownBlock → w1.heap[k]? = w.heap[k]? := fun k hk hne => by
    rw [hgr.block k (by simp; omega) hne, Below.heap_alloc w o k hk]
  have keep : ∀ k t cs, k < w.heap.size → k ≠ u → t ≠ 54 → Blk w k t cs → Blk (w1.setCell ⟨u, 2, none⟩ (.slice (some ⟨g, 0, none⟩) (hs.length + 1) cap)) k t cs := by
    intro k t cs hk hku ht hb
    unfold Blk at hb ⊢
    rw [Below.heap_setCell w1 _ _ k (by simpa using hku), old k hk ?_]
    · exact hb
    · intro e
      rcases hown.2 with ⟨e1, _⟩ | ⟨g', cap', cur, e1, _, e3, _⟩
      · rw [e1] at e; simp [Value.ownBlock] at e
      · rw [e1] at e
        simp [Value.ownBlock] at e
        subst e
        rw [hb] at e3
        injection e3 with e3
        injection e3 with _ e4
        exact ht e4
  have hu1 : Blk w1 u 52 #[.string nf, .string nt, v] := by
    unfold Blk at hu ⊢
    rw [old u hul (fun e => by have := hge u e.symm; omega)]
    exact hu
  have carry : ∀ B q h, B ≤ w.heap.size → u < q → HLow w B q h → HLow (w1.setCell ⟨u, 2, none⟩ (.slice (some ⟨g, 0, none⟩) (hs.length + 1) cap)) B q h := by
    intro B q h hB huq H
    obtain ⟨v2, ⟨h1, h2, h4⟩, h5, h6⟩ := H
    refine ⟨v2, ⟨keep _ _ _ (by omega) (by omega) (by decide) h1, h2, ?_⟩, h5, h6⟩
    rcases h4 with h4 | ⟨g2, cap2, cur, rfl, a1, a2, a3⟩
    · exact Or.inl h4
    · have := h6 g2 rfl
      exact Or.inr ⟨g2, cap2, cur, rfl, a1, keep g2 _ cur (by omega) (by omega) (by decide) a2, a3⟩
  refine ⟨⟨_, ps ++ [q], hu1.set_ 2 _, hbs, ?_, by simp [hps], ?_, by omega, ?_⟩, ⟨hgr.os, hgr.tape, hgr.output, by omega, fun k hk hkb hku => ?_⟩, keep⟩
  · simp only [List.length_append, List.length_singleton, List.map_append, List.map_cons, List.map_nil]
    refine hown1.kept (row := some u) ⟨rfl, rfl, rfl, by simp [World.setCell], fun k hk hne => Below.heap_setCell w1 _ _ k (fun e => hne (by rw [e]))⟩ (Or.inr ?_)
    simp [Value.ownBlock]; omega
  · intro i h1 h2
    rw [List.length_append, List.length_singleton] at h1 h2
    by_cases e : i < ps.length
    · obtain ⟨l1, l2⟩ := hl i e (by omega)
      rw [List.getElem_append_left e, List.getElem_append_left (by omega)]
      exact ⟨(carry _ _ _ (Nat.le_refl _) l2 l1).mono (by omega), l2⟩
    · have e1 : i = ps.length := by omega
      subst e1
      rw [List.getElem_append_right (Nat.le_refl _), List.getElem_append_right (by omega)]
      simp only [Nat.sub_self, hps, List.getElem_singleton]
      exact ⟨(carry _ _ _ (Nat.le_refl _) huq hq.low).mono (by omega), huq⟩
  · intro k hk
    simp [Value.ownBlock] at hk
    subst hk
    exact (hown1.lt g rfl).2
  · rw [Below.heap_setCell w1 _ _ k (by simpa using hku)]
    exact old k hk (fun e => by have := hge k e.symm; omega)
/-- A hunk that is read. -/
def HRead (w : World) (q : Nat) (h : Hk.HK ByteArray) : Prop := ∃ A c, Blk w q 57 #[.int .i64 h.f, .int .i64 h.g, .slice A h.ls.length c] ∧ RowsAt w A 2 (h.ls.map lnCells)
/-- What ToUnified leaves. -/
def UniRes (w : World) (nf nt : ByteArray) (hs : List (Hk.HK ByteArray)) (e : Ending) (w' : World) : Prop := ∃ A c, e = .returned (.agg #[.string nf, .string nt, .slice A hs.length c]) ∧
  (∀ i (h : i < hs.length), ∃ b o q, A = some ⟨b, o, none⟩ ∧ w'.cell? ⟨b, o + i, none⟩ = some (ptrV q) ∧ HRead w' q hs[i]) ∧ Below w.heap.size w w'
end Go.Proofs.YtgegialfhkgggaaGreatDoor
namespace Go.Proofs.YtgegialfhkgggaaGreatDoor
open Go.RowKit Go.Proofs.YtgegialfhkgggaaGreatDoor.Lines
attribute [local go_sem ↓] Go.wp_at_zero Go.wp_at_succ

/-- A list of texts, in new memory. -/
def LinesResF (w : World) (ss : List ByteArray) (e : Ending) (w' : World) : Prop := ∃ A c, e = .returned (.slice A ss.length c) ∧ ss.length ≤ c ∧ Strs w' A ss ∧ (∀ a, A = some a → w.heap.size ≤ a.block ∧ ∃ cs, Blk w' a.block 9 cs) ∧ Below w.heap.size w w'
theorem own_blk {w : World} {base sz n c g : Nat} {t : TypeId} {xs : List Value} (h : w.ownsRow base t sz (.slice (some ⟨g, 0, none⟩) n c) n xs) : ∃ cs, Blk w g t cs := by
  rcases h.2 with ⟨h1, _⟩ | ⟨g', cap, cur, h1, _, h3, _⟩
  · cases h1
  · injection h1 with h1
    injection h1 with h1
    injection h1 with h1
    subst h1
    exact ⟨cur, h3⟩
theorem split_endF {w wr w1 : World} {s x : ByteArray} {done : List ByteArray} {A : Option Addr} {c g2 cap2 f : Nat} {o : Obj} (hx : s.extract f s.size = x) (hf : f ≤ s.size) 
    (hsp : splitB s = done ++ (splitL (s.data.toList.drop f)).map toB) (hnl : s.size - f ≤ nlAt (s.data.toList.drop f))
    (hown : wr.ownsRow w.heap.size 9 1 (.slice A done.length c) done.length (done.map Value.string)) (hbl : Below w.heap.size w wr)
    (hown1 : w1.ownsRow w.heap.size 9 1 (.slice (some ⟨g2, 0, none⟩) (done.length + 1) cap2) (done.length + 1) (done.map Value.string ++ [.string x]))
    (hgrow : (wr.alloc o).grownBy w1 (Value.slice A done.length c).ownBlock) :
    LinesResF w (splitB s) (.returned (.slice (some ⟨g2, 0, none⟩) (done.length + 1) cap2)) w1 := by
  subst hx
  have hB := below_grown_alloc hbl hbl.size hgrow (fun k hk => own_ge hown k hk)
  have hl : (s.data.toList.drop f).length = s.size - f := by rw [List.length_drop, size_list]
  have hle := nlAt_le (s.data.toList.drop f)
  have hall : splitB s = done ++ [s.extract f s.size] := by
    rw [hsp, splitL_last _ (by omega), sub_B, List.take_of_length_le (by omega)]; rfl
  have e : (splitB s).length = done.length + 1 := by rw [hall, List.length_append]; rfl
  have e2 : (splitB s).map Value.string = done.map Value.string ++ [.string (s.extract f s.size)] := by rw [hall, List.map_append]; rfl
  rw [← e, ← e2] at hown1
  exact ⟨_, _, by rw [e], own_le hown1, own_strs hown1, fun a ha => by injection ha with ha; subst ha; exact ⟨own_ge hown1 g2 rfl, own_blk hown1⟩, hB⟩

set_option maxHeartbeats 2000000 in
set_option maxRecDepth 100000 in
theorem splitAfterF_any (s : ByteArray) (hs : s.size ≤ 2147483647) (w : World) : Calls Tryz.prog 69 #[.string s] w (LinesResF w (splitB s)) := by
  obtain ⟨i0, hi0, hz0, hz1, hz2⟩ := info_parts info_str
  go_enter Tryz.func69, Tryz.ntmps69
  go_wp2
  go_loopw [3, 4, 5] (fun out fv iv wr => ∃ f i : Nat, fv = .int .i64 f ∧ iv = .int .i64 i ∧ f ≤ i ∧ i ≤ s.size ∧ SplitRel w wr s out f i) (fun _ _ i _ => s.size - (intOf i).toNat)
  case atStart => exact ⟨0, 0, rfl, rfl, Nat.le_refl _, Nat.zero_le _, [], none, 0, rfl, Nat.le_refl _, rfl, Nat.zero_le _, ⟨rfl, Or.inl ⟨rfl, rfl⟩⟩, by go_grown⟩
  case round =>
    obtain ⟨f, i, rfl, rfl, hfi, hi, done, A, cc, rfl, hle, hsp, hnl, hown, hbl⟩ := hrel
    have hsz := hbl.size
    by_cases hlt : i < s.size
    · have hbt := hide (bt_get hlt)
      by_cases h10 : bt s i = 10
      · have hc : (((s[i]'hlt).toNat : Int) == 10) = true := by rw [hbt.out, h10]; rfl
        have E1 := hide (fun (w1 : World) (g2 cap2 : Nat) (o : Obj) => split_step (w1 := w1) (g2 := g2) (cap2 := cap2) (o := o) rfl hlt hfi hle hsp hnl h10 hown hbl)
        clear h10 hsp hnl hbt
        generalize hL : done.length = L at *
        generalize hX : done.map Value.string = X at *
        clear hL hX
        go_wp2_with (first
          | (at_builtin; refine wpList_append_lies _ rfl _ _ 38 rfl w.heap.size 9 i0 _ 1 16 Tryz.underlying38 hi0 hz0 hz1 hz2 rfl (by omega) (.slice A L cc) L X (by rfl) (hown.alloc _) ⟨wr.heap.size, 0, none⟩ 1 1 [.string (s.extract f (i + 1))] (by rfl) (by rfl) (World.news_of_block (cs := #[.string (s.extract f (i + 1))]) (t := 9) (fr := (0, 0)) (heap_alloc_new wr _)) (by simp [Value.oneCell']) (by omega) (by unfold maxLen; omega) (by omega) (by simp; omega) (wr.heap.size + 1) (by simp) ?_; intro g2 cap2 w1 hown1 hgrow hat hlt2))
        go_roundw
        case rel => exact ⟨i + 1, i + 1, by go_num, by go_num, Nat.le_refl _, by omega, E1.out _ _ _ _ hown1 hgrow⟩
        case measure => simp [intOf]; omega
      · have hc : (((s[i]'hlt).toNat : Int) == 10) = false := by rw [hbt.out]; simp; omega
        have hn2 : i + 1 - f ≤ nlAt (s.data.toList.drop f) := by
          have hl : (s.data.toList.drop f).length = s.size - f := by rw [List.length_drop, size_list]
          have := nlAt_step (s.data.toList.drop f) (i - f) (by omega) hnl (by rw [bt_drop, show f + (i - f) = i by omega]; exact fun h => h10 (bt_ten.2 h))
          omega
        have E1 : Hid (SplitRel w wr s (.slice A done.length cc) f (i + 1)) := hide ⟨done, A, cc, rfl, hle, hsp, hn2, hown, hbl⟩
        clear h10 hsp hnl hbt hn2
        go_wp2
        go_roundw
        case rel => exact ⟨f, i + 1, rfl, by go_num, by omega, by omega, E1.out⟩
        case measure => simp [intOf]; omega
    · have : i = s.size := by omega
      subst this
      by_cases hf0 : f = 0
      · subst hf0
        have E1 := hide (fun (w1 : World) (g2 cap2 : Nat) (o : Obj) => split_endF (w1 := w1) (g2 := g2) (cap2 := cap2) (o := o) (f := 0) (x := s) (by simp) (Nat.zero_le _) hsp hnl hown hbl)
        clear hsp hnl
        generalize hL : done.length = L at *
        generalize hX : done.map Value.string = X at *
        clear hL hX
        go_wp2_with (first
          | (at_builtin; refine wpList_append_lies _ rfl _ _ 38 rfl w.heap.size 9 i0 _ 1 16 Tryz.underlying38 hi0 hz0 hz1 hz2 rfl (by omega) (.slice A L cc) L X (by rfl) (hown.alloc _) ⟨wr.heap.size, 0, none⟩ 1 1 [.string s] (by rfl) (by rfl) (World.news_of_block (cs := #[.string s]) (t := 9) (fr := (0, 0)) (heap_alloc_new wr _)) (by simp [Value.oneCell']) (by omega) (by unfold maxLen; omega) (by omega) (by simp; omega) (wr.heap.size + 1) (by simp) ?_; intro g2 cap2 w1 hown1 hgrow hat hlt2))
        go_ret
        exact E1.out _ _ _ _ hown1 hgrow
      · have E1 := hide (fun (w1 : World) (g2 cap2 : Nat) (o : Obj) => split_endF (w1 := w1) (g2 := g2) (cap2 := cap2) (o := o) (f := f) rfl hfi hsp hnl hown hbl)
        clear hsp hnl
        generalize hL : done.length = L at *
        generalize hX : done.map Value.string = X at *
        clear hL hX
        go_wp2_with (first
          | (at_builtin; refine wpList_append_lies _ rfl _ _ 38 rfl w.heap.size 9 i0 _ 1 16 Tryz.underlying38 hi0 hz0 hz1 hz2 rfl (by omega) (.slice A L cc) L X (by rfl) (hown.alloc _) ⟨wr.heap.size, 0, none⟩ 1 1 [.string (s.extract f s.size)] (by rfl) (by rfl) (World.news_of_block (cs := #[.string (s.extract f s.size)]) (t := 9) (fr := (0, 0)) (heap_alloc_new wr _)) (by simp [Value.oneCell']) (by omega) (by unfold maxLen; omega) (by omega) (by simp; omega) (wr.heap.size + 1) (by simp) ?_; intro g2 cap2 w1 hown1 hgrow hat hlt2))
        go_ret
        exact E1.out _ _ _ _ hown1 hgrow

set_option maxHeartbeats 1000000 in
theorem dSplitLinesF_any (s : ByteArray) (hs : s.size ≤ 2147483647) (w : World) : Calls Tryz.prog 50 #[.string s] w (LinesResF w (linesB s)) := by
  have hlen := splitB_length s
  have hbig : (splitB s).length ≤ 2147483648 := by have := splitB_le s; omega
  obtain ⟨m, hm⟩ : ∃ m, (splitB s).length = m + 1 := ⟨(splitB s).length - 1, by omega⟩
  have hmb : m ≤ 2147483648 := by omega
  clear hbig
  go_enter Tryz.func50, Tryz.ntmps50
  go_wp2_with fail
  refine (splitAfterF_any s hs _).mono ?_
  rintro e w1 ⟨A, c, rfl, hcap, hstr, hfresh, hb⟩
  obtain ⟨b, o, rfl, hcell⟩ := hstr m (by omega)
  have HFr := hide hfresh
  clear hfresh
  rw [hm] at hcap ⊢
  rcases split_cases s with ⟨h1, h2⟩ | ⟨h1, h2⟩
  · have hL : (linesB s).length = m := by rw [h1] at hm; simpa using hm
    have hv : (splitB s).getD m ByteArray.empty = ⟨#[]⟩ := by rw [h1, ← hL]; exact getD_last1 _ _ _
    rw [hv] at hcell
    have hS : Hid (Strs w1 (some ⟨b, o, none⟩) (linesB s)) := hide (fun i hi => by
      obtain ⟨b', o', e, hc⟩ := hstr i (by omega)
      refine ⟨b', o', e, ?_⟩
      rw [hc, h1, getD_left _ _ _ hi])
    have HL := hide hL
    clear hstr h1 hv hL hlen hm h2
    go_wp2
    go_ret
    exact ⟨some ⟨b, o, none⟩, c, by rw [HL.out]; rfl, by rw [HL.out]; omega, hS.out, HFr.out, hb⟩
  · have hL : (linesB s).length = m + 1 := by rw [h1] at hm; exact hm
    have hv : ((splitB s).getD m ByteArray.empty).toList.isEmpty = false := by
      apply h2; rw [List.getD_eq_getElem?_getD, List.getElem?_eq_getElem (by omega)]; exact List.getElem_mem _
    have hS : Hid (Strs w1 (some ⟨b, o, none⟩) (linesB s)) := hide (by rw [← h1]; exact hstr)
    have HL := hide hL
    clear hstr h1 hL hlen hm h2
    generalize (splitB s).getD m ByteArray.empty = x at *
    go_wp2
    go_ret
    exact ⟨some ⟨b, o, none⟩, c, by rw [HL.out]; rfl, by rw [HL.out]; omega, hS.out, HFr.out, hb⟩
end Go.Proofs.YtgegialfhkgggaaGreatDoor
namespace Go.Proofs.YtgegialfhkgggaaGreatDoor
open Go.RowKit Go.Proofs.YtgegialfhkgggaaGreatDoor.Lines
attribute [local go_sem ↓] Go.wp_at_zero Go.wp_at_succ

/-- The blocks of the walk: the edit, its start, its end. -/
structure AE (w W : World) (gS gF : Nat) (e : Ed) (l c o l2 c2 o2 : Int) : Prop where
  be : Blk W w.heap.size 89 (edCells e).toArray
  bs : Blk W gS 92 #[.int .i64 l, .int .i64 c, .int .i64 o]
  bf : Blk W gF 92 #[.int .i64 l2, .int .i64 c2, .int .i64 o2]
  bel : Below w.heap.size w W
  ls : w.heap.size < gS
  lf : gS < gF
theorem AE.kept {w W W1 : World} {gS gF : Nat} {e : Ed} {l c o l2 c2 o2 : Int} (h : AE w W gS gF e l c o l2 c2 o2) (hb : Below W.heap.size W W1) : AE w W1 gS gF e l c o l2 c2 o2 :=
  ⟨h.be.kept hb, h.bs.kept hb, h.bf.kept hb, h.bel.trans (hb.mono h.bel.size), h.ls, h.lf⟩
theorem AE.setS {w W W1 : World} {gS gF : Nat} {e : Ed} {l c o l2 c2 o2 l' c' o' : Int} (h : AE w W gS gF e l c o l2 c2 o2) (hg : W.grownBy W1 (some gS)) (hb : Blk W1 gS 92 #[.int .i64 l', .int .i64 c', .int .i64 o']) : AE w W1 gS gF e l' c' o' l2 c2 o2 :=
  ⟨h.be.grown hg (by have := h.ls; simp; omega), hb, h.bf.grown hg (by have := h.lf; simp; omega), h.bel.trans (SX.below hg (by have := h.ls; omega) h.bel.size), h.ls, h.lf⟩
theorem AE.setF {w W W1 : World} {gS gF : Nat} {e : Ed} {l c o l2 c2 o2 l' c' o' : Int} (h : AE w W gS gF e l c o l2 c2 o2) (hg : W.grownBy W1 (some gF)) (hb : Blk W1 gF 92 #[.int .i64 l', .int .i64 c', .int .i64 o']) : AE w W1 gS gF e l c o l' c' o' :=
  ⟨h.be.grown hg (by have := h.ls; have := h.lf; simp; omega), h.bs.grown hg (by have := h.lf; simp; omega), hb, h.bel.trans (SX.below hg (by have := h.ls; have := h.lf; omega) h.bel.size), h.ls, h.lf⟩
theorem AE.setE {w W W1 : World} {gS gF : Nat} {e e' : Ed} {l c o l2 c2 o2 : Int} (h : AE w W gS gF e l c o l2 c2 o2) (hg : W.grownBy W1 (some w.heap.size)) (hb : Blk W1 w.heap.size 89 (edCells e').toArray) : AE w W1 gS gF e' l c o l2 c2 o2 :=
  ⟨hb, h.bs.grown hg (by have := h.ls; simp; omega), h.bf.grown hg (by have := h.ls; have := h.lf; simp; omega), h.bel.trans (SX.below hg (Nat.le_refl _) h.bel.size), h.ls, h.lf⟩
theorem aePut3 {w : World} {g : Nat} {t : TypeId} {a b c x y z : Value} (h : Blk w g t #[a, b, c]) : Blk (((w.setCell ⟨g, 0, none⟩ x).setCell ⟨g, 1, none⟩ y).setCell ⟨g, 2, none⟩ z) g t #[x, y, z] := ((h.set_ 0 x).set_ 1 y).set_ 2 z
theorem aePut7 {w : World} {g : Nat} {t : TypeId} {a b c d e f k m a' b' c' d' e' f' k' : Value} (h : Blk w g t #[a, b, c, d, e, f, k, m]) :
    Blk (((((((w.setCell ⟨g, 0, none⟩ a').setCell ⟨g, 1, none⟩ b').setCell ⟨g, 2, none⟩ c').setCell ⟨g, 3, none⟩ d').setCell ⟨g, 4, none⟩ e').setCell ⟨g, 5, none⟩ f').setCell ⟨g, 6, none⟩ k') g t #[a', b', c', d', e', f', k', m] := by
  have h0 : Blk (w.setCell ⟨g, 0, none⟩ a') g t #[a', b, c, d, e, f, k, m] := h.set_ 0 a'
  have h1 : Blk ((w.setCell ⟨g, 0, none⟩ a').setCell ⟨g, 1, none⟩ b') g t #[a', b', c, d, e, f, k, m] := h0.set_ 1 b'
  have h2 : Blk _ g t #[a', b', c', d, e, f, k, m] := h1.set_ 2 c'
  have h3 : Blk _ g t #[a', b', c', d', e, f, k, m] := h2.set_ 3 d'
  have h4 : Blk _ g t #[a', b', c', d', e', f, k, m] := h3.set_ 4 e'
  have h5 : Blk _ g t #[a', b', c', d', e', f', k, m] := h4.set_ 5 f'
  exact h5.set_ 6 k'
theorem aePut1 {w : World} {g : Nat} {t : TypeId} {a b c d e f k m m' : Value} (h : Blk w g t #[a, b, c, d, e, f, k, m]) : Blk (w.setCell ⟨g, 7, none⟩ m') g t #[a, b, c, d, e, f, k, m'] := h.set_ 7 m'
theorem SX.ofBelow {g : Nat} {W w1 : World} (h : Below W.heap.size W w1) : SX g W w1 := SX.of ⟨h.os, h.tape, h.output, h.size, fun k hk _ => h.block k hk⟩
theorem grown1 {g i : Nat} {W w1 : World} {x : Value} (h : Below W.heap.size W w1) : W.grownBy (w1.setCell ⟨g, i, none⟩ x) (some g) := ((SX.ofBelow h).set (by rfl) x).2.2
theorem grown3 {g : Nat} {W w1 : World} {x y z : Value} (h : Below W.heap.size W w1) : W.grownBy (((w1.setCell ⟨g, 0, none⟩ x).setCell ⟨g, 1, none⟩ y).setCell ⟨g, 2, none⟩ z) (some g) := (((SX.set (SX.ofBelow h) (by rfl) x).set (by rfl) y).set (by rfl) z).2.2
theorem grown7 {g : Nat} {W w1 : World} {a b c d e f k : Value} (h : Below W.heap.size W w1) : W.grownBy (((((((w1.setCell ⟨g, 0, none⟩ a).setCell ⟨g, 1, none⟩ b).setCell ⟨g, 2, none⟩ c).setCell ⟨g, 3, none⟩ d).setCell ⟨g, 4, none⟩ e).setCell ⟨g, 5, none⟩ f).setCell ⟨g, 6, none⟩ k) (some g) :=
  (SX.set (SX.set (SX.set (SX.set (SX.set (SX.set (SX.set (SX.ofBelow h) (by rfl) a) (by rfl) b) (by rfl) c) (by rfl) d) (by rfl) e) (by rfl) f) (by rfl) k).2.2
theorem grown_app {w wc w9 : World} {o : Obj} {row : Option Nat} (h : Below w.heap.size w wc) (hg : (wc.alloc o).grownBy w9 row) : w.grownBy w9 row :=
  ⟨hg.os.trans h.os, hg.tape.trans h.tape, hg.output.trans h.output, Nat.le_trans h.size (Nat.le_trans (by simp) hg.size), fun k hk hne => by
    rw [hg.block k (by simp; have := h.size; omega) hne, Below.heap_alloc wc o k (by have := h.size; omega)]
    exact h.block k hk⟩
theorem told_of {l o : Int} (h : 1 ≤ l) : told l o = true := by unfold told; rw [decide_eq_true (show 0 < l by omega)]; rfl

/-- What addEdit leaves. -/
def AdRes (w : World) (base n : Nat) (v : Value) (X : List Value) (e : Ed) (en : Ending) (w' : World) : Prop := ∃ g c, en = .returned (.slice (some ⟨g, 0, none⟩) (n + 1) c) ∧
  w'.ownsRow base 89 8 (.slice (some ⟨g, 0, none⟩) (n + 1) c) (n + 1) (X ++ edCells e) ∧ w.grownBy w' v.ownBlock ∧ (v.ownBlock = some g ∨ w.heap.size ≤ g)

set_option maxHeartbeats 4000000 in
set_option maxRecDepth 100000 in
theorem addEdit_none (s u t : ByteArray) (A : Option Addr) (n c : Nat) (l2 c2 o2 : Int) (w : World) : Calls Tryz.prog 81 #[.string s, .slice A n c, .agg #[.string u, .int .i64 0, .int .i64 0, .int .i64 (-1), .int .i64 l2, .int .i64 c2, .int .i64 o2, .string t]] w fun e w' => e = .returned (.slice A n c) ∧ Below w.heap.size w w' := by
  go_enter Tryz.func81, Tryz.ntmps81
  go_wp2_with fail
  refine (isValid_any _ _ _ _ _ _ _ _).mono ?_
  rintro e w1 ⟨rfl, hb⟩
  have h : told 0 (-1) = false := by decide
  rw [h]
  have hbl : Below w.heap.size w w1 := Below.trans (by go_grown) (hb.mono (by simp))
  clear hb
  go_wp2
  go_ret
  exact ⟨rfl, hbl⟩

set_option maxHeartbeats 4000000 in
set_option maxRecDepth 100000 in
theorem addEdit_some (s u t : ByteArray) (A : Option Addr) (n cA base : Nat) (X : List Value) (l c l2 c2 lN : Int) (a b sa nb : Nat) (hs : s.size ≤ 2147483647) (ht : t.size ≤ 1000000000) (hn : n ≤ 1000000)
    (p1 : 1 ≤ l) (p2 : 1 ≤ l2) (p3 : 1 ≤ c) (p4 : 1 ≤ c2) (q1 : l ≤ 2147483648) (q2 : l2 ≤ 2147483648) (q3 : c ≤ (a : Int) + 1) (q4 : c2 ≤ (b : Int) + 1) (ha : a ≤ s.size) (hb : b ≤ s.size)
    (hsa : (sa : Int) = a - (c - 1)) (hz : 1 < l → 0 < sa) (hlast : sa < s.size ∨ l ≤ 1 ∨ (0 < s.size ∧ bt s (s.size - 1) = 10))
    (hnb : nb = if 1 < c2 then b + (if nlAt (s.extract b s.size).data.toList < (s.extract b s.size).size then nlAt (s.extract b s.size).data.toList + 1 else (s.extract b s.size).size) else b) (hbl : 1 < c2 → b < s.size) (hlN : lN = if 1 < c2 then l2 + 1 else l2)
    (w : World) (hown : w.ownsRow base 89 8 (.slice A n cA) n X) (hbase : base ≤ w.heap.size) :
    Calls Tryz.prog 81 #[.string s, .slice A n cA, .agg #[.string u, .int .i64 l, .int .i64 c, .int .i64 (a : Nat), .int .i64 l2, .int .i64 c2, .int .i64 (b : Nat), .string t]] w
      (AdRes w base n (.slice A n cA) X ⟨u, l, 1, (sa : Nat), lN, 1, (nb : Nat), s.extract sa a ++ t ++ s.extract b nb⟩) := by
  obtain ⟨i0, hi0, hz0, hz1, hzb⟩ := info_parts info_te
  have ht1 : told l (a : Int) = true := told_of p1
  have HN := hide hnb
  have HLN := hide hlN
  have HLast := hide hlast
  have HSa := hide hsa
  have HZ := hide hz
  clear hnb hlN hlast hsa hz
  go_enter Tryz.func81, Tryz.ntmps81
  go_wp2_with fail
  refine (isValid_any _ _ _ _ _ _ _ _).mono ?_
  rintro e w1 ⟨rfl, hb1⟩
  rw [ht1]
  have k1 := Blk.kept (Blk.new w 89 #[.string u, .int .i64 l, .int .i64 c, .int .i64 (a : Nat), .int .i64 l2, .int .i64 c2, .int .i64 (b : Nat), .string t]) hb1
  have hbl1 : Below w.heap.size w w1 := Below.trans (by go_grown) (hb1.mono (by simp))
  have z1 := k1.lt
  have f1 := k1.eight
  clear hb1
  go_wp2_with fail
  refine (start_any _ _ _ _ _ _ _ _).mono ?_
  rintro e w2 ⟨rfl, hb2⟩
  have k2 := k1.kept hb2
  have hbl2 := hbl1.trans (hb2.mono hbl1.size)
  have z2 := k2.lt
  have f2 := k2.eight
  clear hb2 k1 z1 f1
  go_wp2_with fail
  refine (end_any _ _ _ _ _ _ _ _).mono ?_
  rintro e w3 ⟨rfl, hb3⟩
  have k3 := Blk.kept (k2.alloc (.cells #[.int .i64 l, .int .i64 c, .int .i64 (a : Nat)] 92)) hb3
  have ks := Blk.kept (Blk.newAt (w := w2) (g := w2.heap.size) (t := 92) (cs := #[.int .i64 l, .int .i64 c, .int .i64 (a : Nat)]) rfl) hb3
  have hbl3 : Below w.heap.size w w3 := (hbl2.alloc hbl2.size _).trans (hb3.mono (by simp; omega))
  have z3 := ks.lt
  clear hb3 k2 f2
  have hAE : Hid (∀ wf, wf = w3.alloc (.cells #[.int .i64 l2, .int .i64 c2, .int .i64 (b : Nat)] 92) → AE w wf w2.heap.size w3.heap.size ⟨u, l, c, (a : Nat), l2, c2, (b : Nat), t⟩ l c (a : Nat) l2 c2 (b : Nat)) := hide (by
    rintro wf rfl
    exact ⟨k3.alloc _, ks.alloc _, Blk.new _ _ _, hbl3.alloc hbl3.size _, z2, by omega⟩)
  clear ks k3 hbl3
  go_upto_region 5 with fail
  refine wp_gen ?_
  intro W hW
  have A1 := hAE.out W hW
  clear hAE hW
  have gS_ : w.heap.size < w2.heap.size := z2
  generalize w2.heap.size = gS at *
  have gF_ : gS < w3.heap.size := A1.lf
  generalize w3.heap.size = gF at *
  clear z2 z3 hbl2
  have s3 := A1.bs.three
  have e8 := A1.be.eight
  have x3 := A1.bf.three
  go_wp2_with fail
  refine (pColumn_any _ _ _ (by omega) _).mono ?_
  rintro e w4 ⟨rfl, hb4⟩
  have A2 := A1.kept hb4
  clear hb4 s3 e8 x3 A1
  go_upto_if 27 with fail
  go_cut [9] (fun s9 wx => AE w wx gS gF ⟨u, l, 1, (sa : Nat), l2, c2, (b : Nat), s.extract sa a ++ t⟩ l 1 (sa : Nat) l2 c2 (b : Nat))
  case first =>
    by_cases h1 : 1 < c
    · have s3 := A2.bs.three
      have dl : IntKind.i64.wrap (c - 1) = c - 1 := IntWalk.i64_in _ (by omega)
      go_wp2_with fail
      refine (pColumn_any _ _ _ (by omega) _).mono ?_
      rintro e w5 ⟨rfl, hb5⟩
      have A3 := A2.kept hb5
      clear hb5 s3 A2
      go_upto_region 7 with fail
      go_cut [9] (fun s9 wx => s9 = .int .i64 (c - 1) ∧ AE w wx gS gF ⟨u, l, c, (a : Nat), l2, c2, (b : Nat), t⟩ l 1 (sa : Nat) l2 c2 (b : Nat))
      case first =>
        have kS := A3.bs
        have s3 := kS.three
        have lS := kS.lt
        have d2 : IntKind.i64.wrap ((a : Int) - (c - 1)) = (sa : Int) := by rw [HSa.out]; exact IntWalk.i64_in _ (by omega)
        have hnp : Hid (∀ W, Calls Tryz.prog 43 #[.int .i64 l, .int .i64 1, .int .i64 sa] W fun e w' => e = .returned (.agg #[.int .i64 l, .int .i64 1, .int .i64 (sa : Nat)]) ∧ Below W.heap.size W w') := hide (fun W => by
          have := newPoint_any l 1 (sa : Nat) W
          have e1 : cl l = l := by unfold cl; rw [if_neg (by omega)]
          have e2 : cc l 1 = 1 := by unfold cc; rw [if_neg (by omega)]
          have e3 : co l 1 (sa : Nat) = (sa : Nat) := by
            have := HZ.out
            unfold co; rw [e1, e2]; rw [if_neg (by omega)]
          rw [e1, e2, e3] at this
          exact this)
        have HA := hide A3
        clear A3
        refine AnyT.region (L := 7) (S := fun wS => (∀ b o, b < w5.heap.size → wS.cell? ⟨b, o, none⟩ = w5.cell? ⟨b, o, none⟩) ∧ w5.heap.size ≤ wS.heap.size ∧ Below (w5.heap.size) w5 wS) (by kernel_rfl) (by with_reducible exact SB.start (by omega)) (fun hHeldT10 => ?_)
        refine AnyT.take (i := 0) (oi := ?oT1_0) (v := ?vT1_0) ?hiT1_0 (by kernel_rfl) (by kernel_rfl) (by kernel_rfl) (by kernel_rfl) ?hqT1_0 ?hyT1_0 (by assumption) ?restT1_0
        case hiT1_0 => (simp only [List.getElem?_toArray, List.getElem?_cons_zero, List.getElem?_cons_succ]; rfl)
        case hqT1_0 => exact fun _ _ _ h => h
        case hyT1_0 => (refine Or.inl ⟨rfl, ?_⟩; intro w hSw; (try dsimp only at hSw); go_split_ands; (first | (go_simp; done) | (go_simp; with_reducible rfl)))
        simp only [Act.put, List.setIfInBounds_toArray, List.set_cons_zero, List.set_cons_succ]
        refine AnyT.take (i := 2) (oi := ?oT1_2) (v := ?vT1_2) ?hiT1_2 (by kernel_rfl) (by kernel_rfl) (by kernel_rfl) (by kernel_rfl) ?hqT1_2 ?hyT1_2 (by assumption) ?restT1_2
        case hiT1_2 => (simp only [List.getElem?_toArray, List.getElem?_cons_zero, List.getElem?_cons_succ]; rfl)
        case hqT1_2 => exact fun _ _ _ h => h
        case hyT1_2 => (refine Or.inl ⟨rfl, ?_⟩; intro w hSw; (try dsimp only at hSw); go_split_ands; (first | (go_simp; done) | (go_simp; with_reducible rfl)))
        simp only [Act.put, List.setIfInBounds_toArray, List.set_cons_zero, List.set_cons_succ]
        refine AnyT.take (i := 4) (oi := ?oT1_4) (v := ?vT1_4) ?hiT1_4 (by kernel_rfl) (by kernel_rfl) (by kernel_rfl) (by kernel_rfl) ?hqT1_4 ?hyT1_4 (by assumption) ?restT1_4
        case hiT1_4 => (simp only [List.getElem?_toArray, List.getElem?_cons_zero, List.getElem?_cons_succ]; rfl)
        case hqT1_4 => exact fun _ _ _ h => h
        case hyT1_4 => (refine Or.inl ⟨rfl, ?_⟩; intro w hSw; (try dsimp only at hSw); go_split_ands; (first | (go_simp; done) | (go_simp; with_reducible rfl)))
        simp only [Act.put, List.setIfInBounds_toArray, List.set_cons_zero, List.set_cons_succ]
        refine AnyT.one (i := 1) (o := ?oT1_1) (by kernel_rfl) ?hiT1_1 (fun K hK => ?restT1_1)
        case hiT1_1 => (simp only [List.getElem?_toArray, List.getElem?_cons_zero, List.getElem?_cons_succ]; rfl)
        go_simp
        go_at_call 51; refine (pLine_any _ _ _ (by omega) _).mono ?_; rintro e wT11 ⟨rfl, hb⟩
        have hbwT11 : Below w5.heap.size w5 wT11 := SB.below0 hb hHeldT10
        have hHeldT11 : (∀ b o, b < w5.heap.size → wT11.cell? ⟨b, o, none⟩ = w5.cell? ⟨b, o, none⟩) ∧ w5.heap.size ≤ wT11.heap.size ∧ Below (w5.heap.size) w5 wT11 := SB.of (Nat.le_trans hHeldT10.2.1 hb.size) hbwT11
        clear hb hHeldT10
        go_wp2_with fail
        refine hK.out _ _ (fun _ => hHeldT11) (fun _ => ?_)
        clear hK K
        refine AnyT.one (i := 3) (o := ?oT1_3) (by kernel_rfl) ?hiT1_3 (fun K hK => ?restT1_3)
        case hiT1_3 => (simp only [List.getElem?_toArray, List.getElem?_cons_zero, List.getElem?_cons_succ]; rfl)
        go_simp
        go_at_call 45; refine (pOffset_any _ _ _ (by omega) _).mono ?_; rintro e wT12 ⟨rfl, hb⟩
        have hbwT12 : Below w5.heap.size w5 wT12 := hbwT11.trans (hb.mono hHeldT11.2.1)
        have hHeldT12 : (∀ b o, b < w5.heap.size → wT12.cell? ⟨b, o, none⟩ = w5.cell? ⟨b, o, none⟩) ∧ w5.heap.size ≤ wT12.heap.size ∧ Below (w5.heap.size) w5 wT12 := SB.of (Nat.le_trans hHeldT11.2.1 hb.size) hbwT12
        clear hb hHeldT11
        go_wp2_with fail
        refine hK.out _ _ (fun _ => hHeldT12) (fun _ => ?_)
        clear hK K
        refine AnyT.take (i := 5) (oi := ?oT1_5) (v := ?vT1_5) ?hiT1_5 (by kernel_rfl) (by kernel_rfl) (by kernel_rfl) (by kernel_rfl) ?hqT1_5 ?hyT1_5 (by assumption) ?restT1_5
        case hiT1_5 => (simp only [List.getElem?_toArray, List.getElem?_cons_zero, List.getElem?_cons_succ]; rfl)
        case hqT1_5 => exact fun _ _ _ h => h
        case hyT1_5 => (refine Or.inl ⟨rfl, ?_⟩; intro w hSw; (try dsimp only at hSw); go_split_ands; (first | (go_simp; done) | (go_simp; with_reducible rfl)))
        simp only [Act.put, List.setIfInBounds_toArray, List.set_cons_zero, List.set_cons_succ]
        refine AnyT.one (i := 6) (o := ?oT1_6) (by kernel_rfl) ?hiT1_6 (fun K hK => ?restT1_6)
        case hiT1_6 => (simp only [List.getElem?_toArray, List.getElem?_cons_zero, List.getElem?_cons_succ]; rfl)
        go_simp
        go_at_call 43; (with_reducible refine (hnp.out _).mono ?_); rintro e wT13 ⟨rfl, hb⟩
        have hbwT13 : Below w5.heap.size w5 wT13 := hbwT12.trans (hb.mono hHeldT12.2.1)
        have hHeldT13 : (∀ b o, b < w5.heap.size → wT13.cell? ⟨b, o, none⟩ = w5.cell? ⟨b, o, none⟩) ∧ w5.heap.size ≤ wT13.heap.size ∧ Below (w5.heap.size) w5 wT13 := SB.of (Nat.le_trans hHeldT12.2.1 hb.size) hbwT13
        clear hb hHeldT12
        go_wp2_with fail
        refine hK.out _ _ (fun _ => hHeldT13) (fun _ => ?_)
        clear hK K
        have kZ := kS.kept hbwT13; have z3 := kZ.three
        refine AnyT.one (i := 7) (o := ?oT1_7) (by kernel_rfl) ?hiT1_7 (fun K hK => ?restT1_7)
        case hiT1_7 => (simp only [List.getElem?_toArray, List.getElem?_cons_zero, List.getElem?_cons_succ]; rfl)
        go_wp2_with fail
        refine hK.out _ _ (fun h => absurd rfl h) (fun _ => ?_)
        clear hK K
        refine AnyT.done (by kernel_rfl) ?_ _
        go_wp2_with fail
        go_meet
        exact ⟨rfl, HA.out.setS (grown3 (by assumption)) (aePut3 kZ)⟩
      case rest =>
        obtain ⟨rfl, A4⟩ := hcut
        clear A3
        go_upto_region 8 with fail
        go_cut [9] (fun s9 wx => s9 = .int .i64 (c - 1) ∧ AE w wx gS gF ⟨u, l, 1, (sa : Nat), l2, c2, (b : Nat), t⟩ l 1 (sa : Nat) l2 c2 (b : Nat))
        case first =>
          have kE := A4.be
          have s3 := A4.bs.three
          have x3 := A4.bf.three
          have e8 := kE.eight
          have lE := kE.lt
          have lS := A4.bs.lt
          have lF := A4.bf.lt
          have HA := hide A4
          have hnw : Hid (∀ W, Calls Tryz.prog 42 #[.string u, .agg #[.int .i64 l, .int .i64 1, .int .i64 (sa : Nat)], .agg #[.int .i64 l2, .int .i64 c2, .int .i64 (b : Nat)]] W fun e w' => e = .returned (.agg #[.string u, .int .i64 l, .int .i64 1, .int .i64 (sa : Nat), .int .i64 l2, .int .i64 c2, .int .i64 (b : Nat)]) ∧ Below W.heap.size W w') := hide (fun W => by
            have := new_any u l 1 (sa : Nat) l2 c2 (b : Nat) W
            have e1 : atSt l2 c2 (b : Nat) = false := by unfold atSt; rw [decide_eq_true (show 0 < l2 by omega)]; simp; omega
            rw [eN_keep e1, eN_keep e1, eN_keep e1] at this
            exact this)
          clear A4
          refine AnyT.region (L := 7) (S := fun wS => (∀ b o, b < wc.heap.size → wS.cell? ⟨b, o, none⟩ = wc.cell? ⟨b, o, none⟩) ∧ wc.heap.size ≤ wS.heap.size ∧ Below (wc.heap.size) wc wS) (by kernel_rfl) (by with_reducible exact SB.start (by omega)) (fun hHeldT20 => ?_)
          refine AnyT.take (i := 0) (oi := ?oT2_0) (v := ?vT2_0) ?hiT2_0 (by kernel_rfl) (by kernel_rfl) (by kernel_rfl) (by kernel_rfl) ?hqT2_0 ?hyT2_0 (by assumption) ?restT2_0
          case hiT2_0 => (simp only [List.getElem?_toArray, List.getElem?_cons_zero, List.getElem?_cons_succ]; rfl)
          case hqT2_0 => exact fun _ _ _ h => h
          case hyT2_0 => (refine Or.inl ⟨rfl, ?_⟩; intro w hSw; (try dsimp only at hSw); go_split_ands; (first | (go_simp; done) | (go_simp; with_reducible rfl)))
          simp only [Act.put, List.setIfInBounds_toArray, List.set_cons_zero, List.set_cons_succ]
          refine AnyT.take (i := 1) (oi := ?oT2_1) (v := ?vT2_1) ?hiT2_1 (by kernel_rfl) (by kernel_rfl) (by kernel_rfl) (by kernel_rfl) ?hqT2_1 ?hyT2_1 (by assumption) ?restT2_1
          case hiT2_1 => (simp only [List.getElem?_toArray, List.getElem?_cons_zero, List.getElem?_cons_succ]; rfl)
          case hqT2_1 => exact fun _ _ _ h => h
          case hyT2_1 => (refine Or.inl ⟨rfl, ?_⟩; intro w hSw; (try dsimp only at hSw); go_split_ands; (first | (go_simp; done) | (go_simp; with_reducible rfl)))
          simp only [Act.put, List.setIfInBounds_toArray, List.set_cons_zero, List.set_cons_succ]
          refine AnyT.take (i := 3) (oi := ?oT2_3) (v := ?vT2_3) ?hiT2_3 (by kernel_rfl) (by kernel_rfl) (by kernel_rfl) (by kernel_rfl) ?hqT2_3 ?hyT2_3 (by assumption) ?restT2_3
          case hiT2_3 => (simp only [List.getElem?_toArray, List.getElem?_cons_zero, List.getElem?_cons_succ]; rfl)
          case hqT2_3 => exact fun _ _ _ h => h
          case hyT2_3 => (refine Or.inl ⟨rfl, ?_⟩; intro w hSw; (try dsimp only at hSw); go_split_ands; (first | (go_simp; done) | (go_simp; with_reducible rfl)))
          simp only [Act.put, List.setIfInBounds_toArray, List.set_cons_zero, List.set_cons_succ]
          refine AnyT.take (i := 4) (oi := ?oT2_4) (v := ?vT2_4) ?hiT2_4 (by kernel_rfl) (by kernel_rfl) (by kernel_rfl) (by kernel_rfl) ?hqT2_4 ?hyT2_4 (by assumption) ?restT2_4
          case hiT2_4 => (simp only [List.getElem?_toArray, List.getElem?_cons_zero, List.getElem?_cons_succ]; rfl)
          case hqT2_4 => exact fun _ _ _ h => h
          case hyT2_4 => (refine Or.inl ⟨rfl, ?_⟩; intro w hSw; (try dsimp only at hSw); go_split_ands; (first | (go_simp; done) | (go_simp; with_reducible rfl)))
          simp only [Act.put, List.setIfInBounds_toArray, List.set_cons_zero, List.set_cons_succ]
          refine AnyT.one (i := 2) (o := ?oT2_2) (by kernel_rfl) ?hiT2_2 (fun K hK => ?restT2_2)
          case hiT2_2 => (simp only [List.getElem?_toArray, List.getElem?_cons_zero, List.getElem?_cons_succ]; rfl)
          go_simp
          go_at_call 80; refine (uri_any _ _ _ _ _ _ _ _).mono ?_; rintro e wT21 ⟨rfl, hb⟩
          have hbwT21 : Below wc.heap.size wc wT21 := SB.below0 hb hHeldT20
          have hHeldT21 : (∀ b o, b < wc.heap.size → wT21.cell? ⟨b, o, none⟩ = wc.cell? ⟨b, o, none⟩) ∧ wc.heap.size ≤ wT21.heap.size ∧ Below (wc.heap.size) wc wT21 := SB.of (Nat.le_trans hHeldT20.2.1 hb.size) hbwT21
          clear hb hHeldT20
          go_wp2_with fail
          refine hK.out _ _ (fun _ => hHeldT21) (fun _ => ?_)
          clear hK K
          refine AnyT.one (i := 5) (o := ?oT2_5) (by kernel_rfl) ?hiT2_5 (fun K hK => ?restT2_5)
          case hiT2_5 => (simp only [List.getElem?_toArray, List.getElem?_cons_zero, List.getElem?_cons_succ]; rfl)
          go_simp
          go_at_call 42; (with_reducible refine (hnw.out _).mono ?_); rintro e wT22 ⟨rfl, hb⟩
          have hbwT22 : Below wc.heap.size wc wT22 := hbwT21.trans (hb.mono hHeldT21.2.1)
          have hHeldT22 : (∀ b o, b < wc.heap.size → wT22.cell? ⟨b, o, none⟩ = wc.cell? ⟨b, o, none⟩) ∧ wc.heap.size ≤ wT22.heap.size ∧ Below (wc.heap.size) wc wT22 := SB.of (Nat.le_trans hHeldT21.2.1 hb.size) hbwT22
          clear hb hHeldT21
          go_wp2_with fail
          refine hK.out _ _ (fun _ => hHeldT22) (fun _ => ?_)
          clear hK K
          refine AnyT.take (i := 6) (oi := ?oT2_6) (v := ?vT2_6) ?hiT2_6 (by kernel_rfl) (by kernel_rfl) (by kernel_rfl) (by kernel_rfl) ?hqT2_6 ?hyT2_6 (by assumption) ?restT2_6
          case hiT2_6 => (simp only [List.getElem?_toArray, List.getElem?_cons_zero, List.getElem?_cons_succ]; rfl)
          case hqT2_6 => exact fun _ _ _ h => h
          case hyT2_6 => (refine Or.inl ⟨rfl, ?_⟩; intro w hSw; (try dsimp only at hSw); go_split_ands; (first | (go_simp; done) | (go_simp; with_reducible rfl)))
          simp only [Act.put, List.setIfInBounds_toArray, List.set_cons_zero, List.set_cons_succ]
          have kZ := kE.kept hbwT22; have z8 := kZ.eight; have y0 := kZ.frozen 0; have y1 := kZ.frozen 1; have y2 := kZ.frozen 2; have y3 := kZ.frozen 3; have y4 := kZ.frozen 4; have y5 := kZ.frozen 5; have y6 := kZ.frozen 6
          refine AnyT.one (i := 7) (o := ?oT2_7) (by kernel_rfl) ?hiT2_7 (fun K hK => ?restT2_7)
          case hiT2_7 => (simp only [List.getElem?_toArray, List.getElem?_cons_zero, List.getElem?_cons_succ]; rfl)
          go_wp2_with fail
          refine hK.out _ _ (fun h => absurd rfl h) (fun _ => ?_)
          clear hK K
          refine AnyT.done (by kernel_rfl) ?_ _
          go_wp2_with fail
          go_meet
          exact ⟨rfl, HA.out.setE (grown7 (by assumption)) (aePut7 kZ)⟩
        case rest =>
          obtain ⟨rfl, A5⟩ := hcut
          clear A4
          go_upto_region 9 with fail
          have kE := A5.be
          have s3 := A5.bs.three
          have e8 := kE.eight
          have lE := kE.lt
          have lS := A5.bs.lt
          have HA := hide A5
          have d3 : IntKind.i64.wrap ((sa : Int) + (c - 1)) = (a : Int) := by rw [HSa.out]; rw [IntWalk.i64_in _ (by omega)]; omega
          have g1 : sa ≤ a := by have := HSa.out; omega
          have hcat : ¬ 9223372036854775807 < a - sa + t.size := by omega
          clear A5
          refine AnyT.region (L := 12) (S := fun wS => (∀ b o, b < wc.heap.size → wS.cell? ⟨b, o, none⟩ = wc.cell? ⟨b, o, none⟩) ∧ wc.heap.size ≤ wS.heap.size ∧ Below (wc.heap.size) wc wS) (by kernel_rfl) (by with_reducible exact SB.start (by omega)) (fun hHeldT30 => ?_)
          refine AnyT.take (i := 0) (oi := ?oT3_0) (v := ?vT3_0) ?hiT3_0 (by kernel_rfl) (by kernel_rfl) (by kernel_rfl) (by kernel_rfl) ?hqT3_0 ?hyT3_0 (by assumption) ?restT3_0
          case hiT3_0 => (simp only [List.getElem?_toArray, List.getElem?_cons_zero, List.getElem?_cons_succ]; rfl)
          case hqT3_0 => exact fun _ _ _ h => h
          case hyT3_0 => (refine Or.inl ⟨rfl, ?_⟩; intro w hSw; (try dsimp only at hSw); go_split_ands; (first | (go_simp; done) | (go_simp; with_reducible rfl)))
          simp only [Act.put, List.setIfInBounds_toArray, List.set_cons_zero, List.set_cons_succ]
          refine AnyT.take (i := 1) (oi := ?oT3_1) (v := ?vT3_1) ?hiT3_1 (by kernel_rfl) (by kernel_rfl) (by kernel_rfl) (by kernel_rfl) ?hqT3_1 ?hyT3_1 (by assumption) ?restT3_1
          case hiT3_1 => (simp only [List.getElem?_toArray, List.getElem?_cons_zero, List.getElem?_cons_succ]; rfl)
          case hqT3_1 => exact fun _ _ _ h => h
          case hyT3_1 => (refine Or.inl ⟨rfl, ?_⟩; intro w hSw; (try dsimp only at hSw); go_split_ands; (first | (go_simp; done) | (go_simp; with_reducible rfl)))
          simp only [Act.put, List.setIfInBounds_toArray, List.set_cons_zero, List.set_cons_succ]
          refine AnyT.take (i := 3) (oi := ?oT3_3) (v := ?vT3_3) ?hiT3_3 (by kernel_rfl) (by kernel_rfl) (by kernel_rfl) (by kernel_rfl) ?hqT3_3 ?hyT3_3 (by assumption) ?restT3_3
          case hiT3_3 => (simp only [List.getElem?_toArray, List.getElem?_cons_zero, List.getElem?_cons_succ]; rfl)
          case hqT3_3 => exact fun _ _ _ h => h
          case hyT3_3 => (refine Or.inl ⟨rfl, ?_⟩; intro w hSw; (try dsimp only at hSw); go_split_ands; (first | (go_simp; done) | (go_simp; with_reducible rfl)))
          simp only [Act.put, List.setIfInBounds_toArray, List.set_cons_zero, List.set_cons_succ]
          refine AnyT.take (i := 5) (oi := ?oT3_5) (v := ?vT3_5) ?hiT3_5 (by kernel_rfl) (by kernel_rfl) (by kernel_rfl) (by kernel_rfl) ?hqT3_5 ?hyT3_5 (by assumption) ?restT3_5
          case hiT3_5 => (simp only [List.getElem?_toArray, List.getElem?_cons_zero, List.getElem?_cons_succ]; rfl)
          case hqT3_5 => exact fun _ _ _ h => h
          case hyT3_5 => (refine Or.inl ⟨rfl, ?_⟩; intro w hSw; (try dsimp only at hSw); go_split_ands; (first | (go_simp; done) | (go_simp; with_reducible rfl)))
          simp only [Act.put, List.setIfInBounds_toArray, List.set_cons_zero, List.set_cons_succ]
          refine AnyT.take (i := 8) (oi := ?oT3_8) (v := ?vT3_8) ?hiT3_8 (by kernel_rfl) (by kernel_rfl) (by kernel_rfl) (by kernel_rfl) ?hqT3_8 ?hyT3_8 (by assumption) ?restT3_8
          case hiT3_8 => (simp only [List.getElem?_toArray, List.getElem?_cons_zero, List.getElem?_cons_succ]; rfl)
          case hqT3_8 => exact fun _ _ _ h => h
          case hyT3_8 => (refine Or.inl ⟨rfl, ?_⟩; intro w hSw; (try dsimp only at hSw); go_split_ands; (first | (go_simp; done) | (go_simp; with_reducible rfl)))
          simp only [Act.put, List.setIfInBounds_toArray, List.set_cons_zero, List.set_cons_succ]
          refine AnyT.take (i := 9) (oi := ?oT3_9) (v := ?vT3_9) ?hiT3_9 (by kernel_rfl) (by kernel_rfl) (by kernel_rfl) (by kernel_rfl) ?hqT3_9 ?hyT3_9 (by assumption) ?restT3_9
          case hiT3_9 => (simp only [List.getElem?_toArray, List.getElem?_cons_zero, List.getElem?_cons_succ]; rfl)
          case hqT3_9 => exact fun _ _ _ h => h
          case hyT3_9 => (refine Or.inl ⟨rfl, ?_⟩; intro w hSw; (try dsimp only at hSw); go_split_ands; (first | (go_simp; done) | (go_simp; with_reducible rfl)))
          simp only [Act.put, List.setIfInBounds_toArray, List.set_cons_zero, List.set_cons_succ]
          refine AnyT.one (i := 2) (o := ?oT3_2) (by kernel_rfl) ?hiT3_2 (fun K hK => ?restT3_2)
          case hiT3_2 => (simp only [List.getElem?_toArray, List.getElem?_cons_zero, List.getElem?_cons_succ]; rfl)
          go_simp
          go_at_call 45; refine (pOffset_any _ _ _ (by omega) _).mono ?_; rintro e wT31 ⟨rfl, hb⟩
          have hbwT31 : Below wc.heap.size wc wT31 := SB.below0 hb hHeldT30
          have hHeldT31 : (∀ b o, b < wc.heap.size → wT31.cell? ⟨b, o, none⟩ = wc.cell? ⟨b, o, none⟩) ∧ wc.heap.size ≤ wT31.heap.size ∧ Below (wc.heap.size) wc wT31 := SB.of (Nat.le_trans hHeldT30.2.1 hb.size) hbwT31
          clear hb hHeldT30
          go_wp2_with fail
          refine hK.out _ _ (fun _ => hHeldT31) (fun _ => ?_)
          clear hK K
          refine AnyT.one (i := 4) (o := ?oT3_4) (by kernel_rfl) ?hiT3_4 (fun K hK => ?restT3_4)
          case hiT3_4 => (simp only [List.getElem?_toArray, List.getElem?_cons_zero, List.getElem?_cons_succ]; rfl)
          go_simp
          go_at_call 45; refine (pOffset_any _ _ _ (by omega) _).mono ?_; rintro e wT32 ⟨rfl, hb⟩
          have hbwT32 : Below wc.heap.size wc wT32 := hbwT31.trans (hb.mono hHeldT31.2.1)
          have hHeldT32 : (∀ b o, b < wc.heap.size → wT32.cell? ⟨b, o, none⟩ = wc.cell? ⟨b, o, none⟩) ∧ wc.heap.size ≤ wT32.heap.size ∧ Below (wc.heap.size) wc wT32 := SB.of (Nat.le_trans hHeldT31.2.1 hb.size) hbwT32
          clear hb hHeldT31
          go_wp2_with fail
          refine hK.out _ _ (fun _ => hHeldT32) (fun _ => ?_)
          clear hK K
          refine AnyT.take (i := 6) (oi := ?oT3_6) (v := ?vT3_6) ?hiT3_6 (by kernel_rfl) (by kernel_rfl) (by kernel_rfl) (by kernel_rfl) ?hqT3_6 ?hyT3_6 (by assumption) ?restT3_6
          case hiT3_6 => (simp only [List.getElem?_toArray, List.getElem?_cons_zero, List.getElem?_cons_succ]; rfl)
          case hqT3_6 => exact fun _ _ _ h => h
          case hyT3_6 => (refine Or.inl ⟨rfl, ?_⟩; intro w hSw; (try dsimp only at hSw); go_split_ands; (first | (go_simp; done) | (go_simp; with_reducible rfl)))
          simp only [Act.put, List.setIfInBounds_toArray, List.set_cons_zero, List.set_cons_succ]
          refine AnyT.take (i := 7) (oi := ?oT3_7) (v := ?vT3_7) ?hiT3_7 (by kernel_rfl) (by kernel_rfl) (by kernel_rfl) (by kernel_rfl) ?hqT3_7 ?hyT3_7 (by assumption) ?restT3_7
          case hiT3_7 => (simp only [List.getElem?_toArray, List.getElem?_cons_zero, List.getElem?_cons_succ]; rfl)
          case hqT3_7 => exact fun _ _ _ h => h
          case hyT3_7 => (refine Or.inl ⟨rfl, ?_⟩; intro w hSw; (try dsimp only at hSw); go_split_ands; (first | (go_simp; done) | (go_simp; with_reducible rfl)))
          simp only [Act.put, List.setIfInBounds_toArray, List.set_cons_zero, List.set_cons_succ]
          refine AnyT.take (i := 10) (oi := ?oT3_10) (v := ?vT3_10) ?hiT3_10 (by kernel_rfl) (by kernel_rfl) (by kernel_rfl) (by kernel_rfl) ?hqT3_10 ?hyT3_10 (by assumption) ?restT3_10
          case hiT3_10 => (simp only [List.getElem?_toArray, List.getElem?_cons_zero, List.getElem?_cons_succ]; rfl)
          case hqT3_10 => exact fun _ _ _ h => h
          case hyT3_10 => (refine Or.inl ⟨rfl, ?_⟩; intro w hSw; (try dsimp only at hSw); go_split_ands; (first | (go_simp; done) | (go_simp; with_reducible rfl)))
          simp only [Act.put, List.setIfInBounds_toArray, List.set_cons_zero, List.set_cons_succ]
          refine AnyT.take (i := 11) (oi := ?oT3_11) (v := ?vT3_11) ?hiT3_11 (by kernel_rfl) (by kernel_rfl) (by kernel_rfl) (by kernel_rfl) ?hqT3_11 ?hyT3_11 (by assumption) ?restT3_11
          case hiT3_11 => (simp only [List.getElem?_toArray, List.getElem?_cons_zero, List.getElem?_cons_succ]; rfl)
          case hqT3_11 => exact fun _ _ _ h => h
          case hyT3_11 => (refine Or.inl ⟨rfl, ?_⟩; intro w hSw; (try dsimp only at hSw); go_split_ands; (first | (go_simp; done) | (go_simp; with_reducible rfl)))
          simp only [Act.put, List.setIfInBounds_toArray, List.set_cons_zero, List.set_cons_succ]
          have kZ := kE.kept hbwT32; have z8 := kZ.eight; have y7 := kZ.frozen 7
          refine AnyT.one (i := 12) (o := ?oT3_12) (by kernel_rfl) ?hiT3_12 (fun K hK => ?restT3_12)
          case hiT3_12 => (simp only [List.getElem?_toArray, List.getElem?_cons_zero, List.getElem?_cons_succ]; rfl)
          go_wp2_with fail
          refine hK.out _ _ (fun h => absurd rfl h) (fun _ => ?_)
          clear hK K
          refine AnyT.done (by kernel_rfl) ?_ _
          go_wp2_with fail
          go_meet
          exact HA.out.setE (grown1 (by assumption)) (aePut1 kZ)
    · have hc1 : c = 1 := by omega
      have hsa1 : sa = a := by have := HSa.out; omega
      have e1 : s.extract sa a ++ t = t := by
        rw [hsa1]
        refine eq_of_list ?_
        simp
      have HE := hide e1
      have HA : Hid (AE w w4 gS gF ⟨u, l, 1, (sa : Nat), l2, c2, (b : Nat), t⟩ l 1 (sa : Nat) l2 c2 (b : Nat)) := hide (by rw [hsa1]; rw [hc1] at A2; exact A2)
      clear hc1 hsa1 e1 A2
      go_wp2_with fail
      go_meet
      rw [HE.out]
      exact HA.out
  case rest =>
    have A6 := hcut
    clear A2 hcut
    have hT1 : (s.extract sa a ++ t).size ≤ 3147483647 := by rw [ByteArray.size_append, ByteArray.size_extract]; omega
    generalize s.extract sa a ++ t = t1 at *
    go_upto_region 10 with fail
    go_cut [74] (fun s74 wx => s74 = .bool false ∧ AE w wx gS gF ⟨u, l, 1, (sa : Nat), l2, c2, (b : Nat), t1⟩ l 1 (sa : Nat) l2 c2 (b : Nat))
    case first =>
      have s3 := A6.bs.three
      have hsz : sa ≤ s.size := by have := HSa.out; omega
      by_cases k1 : s.size ≤ sa
      · obtain rfl : sa = s.size := by omega
        by_cases k2 : l ≤ 1
        · have HA := hide A6
          go_wp2_with fail
          refine (pOffset_any _ _ _ (by omega) _).mono ?_
          rintro e w5 ⟨rfl, hb5⟩
          have A7 := A6.kept hb5
          clear hb5 s3 A6 HA
          have s3 := A7.bs.three
          go_wp2_with fail
          refine (pLine_any _ _ _ (by omega) _).mono ?_
          rintro e w6 ⟨rfl, hb6⟩
          have A8 := hide (A7.kept hb6)
          clear hb6 s3 A7
          go_wp2_with fail
          go_meet
          exact ⟨rfl, A8.out⟩
        · obtain ⟨k3, k4⟩ : 0 < s.size ∧ bt s (s.size - 1) = 10 := by
            rcases HLast.out with h | h | h
            · omega
            · omega
            · exact h
          have hlt : s.size - 1 < s.size := by omega
          have hbt := bt_get hlt
          rw [k4] at hbt
          have hby : ((s[s.size - 1]'hlt).toNat : Int) = 10 := by omega
          clear hbt k4
          go_wp2_with fail
          refine (pOffset_any _ _ _ (by omega) _).mono ?_
          rintro e w5 ⟨rfl, hb5⟩
          have A7 := A6.kept hb5
          clear hb5 s3 A6
          have s3 := A7.bs.three
          go_wp2_with fail
          refine (pLine_any _ _ _ (by omega) _).mono ?_
          rintro e w6 ⟨rfl, hb6⟩
          have A8 := hide (A7.kept hb6)
          clear hb6 s3 A7
          go_wp2_with fail
          go_meet
          exact ⟨rfl, A8.out⟩
      · have k1' : ¬ ((s.size : Int) ≤ (sa : Int)) := by omega
        go_wp2_with fail
        refine (pOffset_any _ _ _ (by omega) _).mono ?_
        rintro e w5 ⟨rfl, hb5⟩
        have A7 := hide (A6.kept hb5)
        clear hb5 s3 A6
        go_wp2_with fail
        go_meet
        exact ⟨rfl, A7.out⟩
    case rest =>
      obtain ⟨rfl, A7⟩ := hcut
      clear A6
      have x3 := A7.bf.three
      go_wp2_with fail
      refine (pColumn_any _ _ _ (by omega) _).mono ?_
      rintro e w7 ⟨rfl, hb7⟩
      have A8 := A7.kept hb7
      clear hb7 x3 A7
      go_upto_if 112 with fail
      go_cut [9] (fun s9 wx => AE w wx gS gF ⟨u, l, 1, (sa : Nat), lN, 1, (nb : Nat), t1 ++ s.extract b nb⟩ l 1 (sa : Nat) lN 1 (nb : Nat))
      case first =>
        by_cases h1 : 1 < c2
        · have hbs := hbl h1
          have x3 := A8.bf.three
          have g1 : b ≤ s.size := by omega
          go_wp2_with fail
          refine (pOffset_any _ _ _ (by omega) _).mono ?_
          rintro e w8 ⟨rfl, hb8⟩
          have B1 := A8.kept hb8
          clear hb8 x3 A8
          have hN := HN.out
          rw [if_pos h1] at hN
          obtain ⟨r, hr⟩ : ∃ r, s.extract b s.size = r := ⟨_, rfl⟩
          have hrz : r.size = s.size - b := by rw [← hr, ByteArray.size_extract]; omega
          rw [hr] at hN
          obtain ⟨q, hq⟩ : ∃ q, q = if nlAt r.data.toList < r.size then nlAt r.data.toList + 1 else r.size := ⟨_, rfl⟩
          rw [← hq] at hN
          have hq1 : 1 ≤ q := by rw [hq]; split <;> omega
          have hqr : q ≤ r.size := by rw [hq]; split <;> omega
          have hex : r.extract 0 q = s.extract b nb := by
            rw [← hr, hN]
            refine eq_of_list ?_
            rw [extract_list, extract_list, extract_list, List.drop_zero, List.take_take, Nat.sub_zero, Nat.add_sub_cancel_left]
            congr 1; omega
          have HQ := hide hq
          have HX := hide hex
          have hrz2 : r.size ≤ 2147483647 := by omega
          have HNb := hide hN
          have HRz := hide hrz
          clear hrz hq hex hN
          go_upto_region 20 with fail
          clear hr
          have HIx := hide (indexNl_any r w8)
          have HB1 := hide B1
          clear B1
          go_wp2_with fail
          refine HIx.out.mono ?_
          rintro e w9 ⟨rfl, rfl⟩
          clear HIx
          go_upto_if 120 with fail
          go_cut [13] (fun s13 wx => s13 = .int .i64 (q : Nat) ∧ AE w wx gS gF ⟨u, l, 1, (sa : Nat), l2, c2, (b : Nat), t1⟩ l 1 (sa : Nat) l2 c2 (b : Nat))
          case first =>
            by_cases hnl : nlAt r.data.toList < r.size
            · have HQ2 := HQ.out
              rw [if_pos hnl] at HQ2 ⊢
              generalize nlAt r.data.toList = m at *
              have hm : m + 1 ≤ 2147483648 := by omega
              have HQ3 := hide HQ2
              clear HQ HQ2
              go_wp2_with fail
              go_meet
              exact ⟨by rw [HQ3.out]; go_num, HB1.out⟩
            · have HQ2 := HQ.out
              rw [if_neg hnl] at HQ2 ⊢
              have HQ3 := hide HQ2
              clear HQ HQ2 hnl
              go_wp2_with fail
              go_meet
              exact ⟨by rw [HQ3.out], HB1.out⟩
          case rest =>
            obtain ⟨rfl, B2⟩ := hcut
            clear HB1 HQ
            go_upto_region 24 with fail
            go_cut [13] (fun s13 wx => s13 = .int .i64 (q : Nat) ∧ AE w wx gS gF ⟨u, l, 1, (sa : Nat), l2, c2, (b : Nat), t1⟩ l 1 (sa : Nat) lN 1 (nb : Nat))
            case first =>
              have kS := B2.bf
              have s3 := kS.three
              have lS := kS.lt
              have d2 : IntKind.i64.wrap ((b : Int) + (q : Int)) = (nb : Int) := by rw [HNb.out, IntWalk.i64_in _ (by omega)]; omega
              have d1 : IntKind.i64.wrap (l2 + 1) = lN := by rw [HLN.out, if_pos h1]; exact IntWalk.i64_in _ (by omega)
              have hnp : Hid (∀ W, Calls Tryz.prog 43 #[.int .i64 lN, .int .i64 1, .int .i64 nb] W fun e w' => e = .returned (.agg #[.int .i64 lN, .int .i64 1, .int .i64 (nb : Nat)]) ∧ Below W.heap.size W w') := hide (fun W => by
                have := newPoint_any lN 1 (nb : Nat) W
                have hlN1 : lN = l2 + 1 := by rw [HLN.out, if_pos h1]
                have e1 : cl lN = lN := by unfold cl; rw [if_neg (by omega)]
                have e2 : cc lN 1 = 1 := by unfold cc; rw [if_neg (by omega)]
                have e3 : co lN 1 (nb : Nat) = (nb : Nat) := by
                  have := HNb.out
                  unfold co; rw [e1, e2]; rw [if_neg (by omega)]
                rw [e1, e2, e3] at this
                exact this)
              have HA := hide B2
              clear B2
              refine AnyT.region (L := 8) (S := fun wS => (∀ b o, b < wc.heap.size → wS.cell? ⟨b, o, none⟩ = wc.cell? ⟨b, o, none⟩) ∧ wc.heap.size ≤ wS.heap.size ∧ Below (wc.heap.size) wc wS) (by kernel_rfl) (by with_reducible exact SB.start (by omega)) (fun hHeldT40 => ?_)
              refine AnyT.take (i := 0) (oi := ?oT4_0) (v := ?vT4_0) ?hiT4_0 (by kernel_rfl) (by kernel_rfl) (by kernel_rfl) (by kernel_rfl) ?hqT4_0 ?hyT4_0 (by assumption) ?restT4_0
              case hiT4_0 => (simp only [List.getElem?_toArray, List.getElem?_cons_zero, List.getElem?_cons_succ]; rfl)
              case hqT4_0 => exact fun _ _ _ h => h
              case hyT4_0 => (refine Or.inl ⟨rfl, ?_⟩; intro w hSw; (try dsimp only at hSw); go_split_ands; (first | (go_simp; done) | (go_simp; with_reducible rfl)))
              simp only [Act.put, List.setIfInBounds_toArray, List.set_cons_zero, List.set_cons_succ]
              refine AnyT.take (i := 3) (oi := ?oT4_3) (v := ?vT4_3) ?hiT4_3 (by kernel_rfl) (by kernel_rfl) (by kernel_rfl) (by kernel_rfl) ?hqT4_3 ?hyT4_3 (by assumption) ?restT4_3
              case hiT4_3 => (simp only [List.getElem?_toArray, List.getElem?_cons_zero, List.getElem?_cons_succ]; rfl)
              case hqT4_3 => exact fun _ _ _ h => h
              case hyT4_3 => (refine Or.inl ⟨rfl, ?_⟩; intro w hSw; (try dsimp only at hSw); go_split_ands; (first | (go_simp; done) | (go_simp; with_reducible rfl)))
              simp only [Act.put, List.setIfInBounds_toArray, List.set_cons_zero, List.set_cons_succ]
              refine AnyT.take (i := 5) (oi := ?oT4_5) (v := ?vT4_5) ?hiT4_5 (by kernel_rfl) (by kernel_rfl) (by kernel_rfl) (by kernel_rfl) ?hqT4_5 ?hyT4_5 (by assumption) ?restT4_5
              case hiT4_5 => (simp only [List.getElem?_toArray, List.getElem?_cons_zero, List.getElem?_cons_succ]; rfl)
              case hqT4_5 => exact fun _ _ _ h => h
              case hyT4_5 => (refine Or.inl ⟨rfl, ?_⟩; intro w hSw; (try dsimp only at hSw); go_split_ands; (first | (go_simp; done) | (go_simp; with_reducible rfl)))
              simp only [Act.put, List.setIfInBounds_toArray, List.set_cons_zero, List.set_cons_succ]
              refine AnyT.one (i := 1) (o := ?oT4_1) (by kernel_rfl) ?hiT4_1 (fun K hK => ?restT4_1)
              case hiT4_1 => (simp only [List.getElem?_toArray, List.getElem?_cons_zero, List.getElem?_cons_succ]; rfl)
              go_simp
              go_at_call 51; refine (pLine_any _ _ _ (by omega) _).mono ?_; rintro e wT41 ⟨rfl, hb⟩
              have hbwT41 : Below wc.heap.size wc wT41 := SB.below0 hb hHeldT40
              have hHeldT41 : (∀ b o, b < wc.heap.size → wT41.cell? ⟨b, o, none⟩ = wc.cell? ⟨b, o, none⟩) ∧ wc.heap.size ≤ wT41.heap.size ∧ Below (wc.heap.size) wc wT41 := SB.of (Nat.le_trans hHeldT40.2.1 hb.size) hbwT41
              clear hb hHeldT40
              go_wp2_with fail
              refine hK.out _ _ (fun _ => hHeldT41) (fun _ => ?_)
              clear hK K
              refine AnyT.take (i := 2) (oi := ?oT4_2) (v := ?vT4_2) ?hiT4_2 (by kernel_rfl) (by kernel_rfl) (by kernel_rfl) (by kernel_rfl) ?hqT4_2 ?hyT4_2 (by assumption) ?restT4_2
              case hiT4_2 => (simp only [List.getElem?_toArray, List.getElem?_cons_zero, List.getElem?_cons_succ]; rfl)
              case hqT4_2 => exact fun _ _ _ h => h
              case hyT4_2 => (refine Or.inl ⟨rfl, ?_⟩; intro w hSw; (try dsimp only at hSw); go_split_ands; (first | (go_simp; done) | (go_simp; with_reducible rfl)))
              simp only [Act.put, List.setIfInBounds_toArray, List.set_cons_zero, List.set_cons_succ]
              refine AnyT.one (i := 4) (o := ?oT4_4) (by kernel_rfl) ?hiT4_4 (fun K hK => ?restT4_4)
              case hiT4_4 => (simp only [List.getElem?_toArray, List.getElem?_cons_zero, List.getElem?_cons_succ]; rfl)
              go_simp
              go_at_call 45; refine (pOffset_any _ _ _ (by omega) _).mono ?_; rintro e wT42 ⟨rfl, hb⟩
              have hbwT42 : Below wc.heap.size wc wT42 := hbwT41.trans (hb.mono hHeldT41.2.1)
              have hHeldT42 : (∀ b o, b < wc.heap.size → wT42.cell? ⟨b, o, none⟩ = wc.cell? ⟨b, o, none⟩) ∧ wc.heap.size ≤ wT42.heap.size ∧ Below (wc.heap.size) wc wT42 := SB.of (Nat.le_trans hHeldT41.2.1 hb.size) hbwT42
              clear hb hHeldT41
              go_wp2_with fail
              refine hK.out _ _ (fun _ => hHeldT42) (fun _ => ?_)
              clear hK K
              refine AnyT.take (i := 6) (oi := ?oT4_6) (v := ?vT4_6) ?hiT4_6 (by kernel_rfl) (by kernel_rfl) (by kernel_rfl) (by kernel_rfl) ?hqT4_6 ?hyT4_6 (by assumption) ?restT4_6
              case hiT4_6 => (simp only [List.getElem?_toArray, List.getElem?_cons_zero, List.getElem?_cons_succ]; rfl)
              case hqT4_6 => exact fun _ _ _ h => h
              case hyT4_6 => (refine Or.inl ⟨rfl, ?_⟩; intro w hSw; (try dsimp only at hSw); go_split_ands; (first | (go_simp; done) | (go_simp; with_reducible rfl)))
              simp only [Act.put, List.setIfInBounds_toArray, List.set_cons_zero, List.set_cons_succ]
              refine AnyT.one (i := 7) (o := ?oT4_7) (by kernel_rfl) ?hiT4_7 (fun K hK => ?restT4_7)
              case hiT4_7 => (simp only [List.getElem?_toArray, List.getElem?_cons_zero, List.getElem?_cons_succ]; rfl)
              go_simp
              go_at_call 43; (with_reducible refine (hnp.out _).mono ?_); rintro e wT43 ⟨rfl, hb⟩
              have hbwT43 : Below wc.heap.size wc wT43 := hbwT42.trans (hb.mono hHeldT42.2.1)
              have hHeldT43 : (∀ b o, b < wc.heap.size → wT43.cell? ⟨b, o, none⟩ = wc.cell? ⟨b, o, none⟩) ∧ wc.heap.size ≤ wT43.heap.size ∧ Below (wc.heap.size) wc wT43 := SB.of (Nat.le_trans hHeldT42.2.1 hb.size) hbwT43
              clear hb hHeldT42
              go_wp2_with fail
              refine hK.out _ _ (fun _ => hHeldT43) (fun _ => ?_)
              clear hK K
              have kZ := kS.kept hbwT43; have z3 := kZ.three
              refine AnyT.one (i := 8) (o := ?oT4_8) (by kernel_rfl) ?hiT4_8 (fun K hK => ?restT4_8)
              case hiT4_8 => (simp only [List.getElem?_toArray, List.getElem?_cons_zero, List.getElem?_cons_succ]; rfl)
              go_wp2_with fail
              refine hK.out _ _ (fun h => absurd rfl h) (fun _ => ?_)
              clear hK K
              refine AnyT.done (by kernel_rfl) ?_ _
              go_wp2_with fail
              go_meet
              exact ⟨rfl, HA.out.setF (grown3 (by assumption)) (aePut3 kZ)⟩
            case rest =>
              obtain ⟨rfl, B3⟩ := hcut
              clear B2
              go_upto_region 25 with fail
              go_cut [13] (fun s13 wx => s13 = .int .i64 (q : Nat) ∧ AE w wx gS gF ⟨u, l, 1, (sa : Nat), lN, 1, (nb : Nat), t1⟩ l 1 (sa : Nat) lN 1 (nb : Nat))
              case first =>
                have kE := B3.be
                have s3 := B3.bs.three
                have x3 := B3.bf.three
                have e8 := kE.eight
                have lE := kE.lt
                have lS := B3.bs.lt
                have lF := B3.bf.lt
                have HA := hide B3
                have hnw : Hid (∀ W, Calls Tryz.prog 42 #[.string u, .agg #[.int .i64 l, .int .i64 1, .int .i64 (sa : Nat)], .agg #[.int .i64 lN, .int .i64 1, .int .i64 (nb : Nat)]] W fun e w' => e = .returned (.agg #[.string u, .int .i64 l, .int .i64 1, .int .i64 (sa : Nat), .int .i64 lN, .int .i64 1, .int .i64 (nb : Nat)]) ∧ Below W.heap.size W w') := hide (fun W => by
                  have := new_any u l 1 (sa : Nat) lN 1 (nb : Nat) W
                  have hlN1 : lN = l2 + 1 := by rw [HLN.out, if_pos h1]
                  have e1 : atSt lN 1 (nb : Nat) = false := by unfold atSt; rw [decide_eq_true (show 0 < lN by omega)]; simp
                  rw [eN_keep e1, eN_keep e1, eN_keep e1] at this
                  exact this)
                clear B3
                refine AnyT.region (L := 7) (S := fun wS => (∀ b o, b < wc.heap.size → wS.cell? ⟨b, o, none⟩ = wc.cell? ⟨b, o, none⟩) ∧ wc.heap.size ≤ wS.heap.size ∧ Below (wc.heap.size) wc wS) (by kernel_rfl) (by with_reducible exact SB.start (by omega)) (fun hHeldT50 => ?_)
                refine AnyT.take (i := 0) (oi := ?oT5_0) (v := ?vT5_0) ?hiT5_0 (by kernel_rfl) (by kernel_rfl) (by kernel_rfl) (by kernel_rfl) ?hqT5_0 ?hyT5_0 (by assumption) ?restT5_0
                case hiT5_0 => (simp only [List.getElem?_toArray, List.getElem?_cons_zero, List.getElem?_cons_succ]; rfl)
                case hqT5_0 => exact fun _ _ _ h => h
                case hyT5_0 => (refine Or.inl ⟨rfl, ?_⟩; intro w hSw; (try dsimp only at hSw); go_split_ands; (first | (go_simp; done) | (go_simp; with_reducible rfl)))
                simp only [Act.put, List.setIfInBounds_toArray, List.set_cons_zero, List.set_cons_succ]
                refine AnyT.take (i := 1) (oi := ?oT5_1) (v := ?vT5_1) ?hiT5_1 (by kernel_rfl) (by kernel_rfl) (by kernel_rfl) (by kernel_rfl) ?hqT5_1 ?hyT5_1 (by assumption) ?restT5_1
                case hiT5_1 => (simp only [List.getElem?_toArray, List.getElem?_cons_zero, List.getElem?_cons_succ]; rfl)
                case hqT5_1 => exact fun _ _ _ h => h
                case hyT5_1 => (refine Or.inl ⟨rfl, ?_⟩; intro w hSw; (try dsimp only at hSw); go_split_ands; (first | (go_simp; done) | (go_simp; with_reducible rfl)))
                simp only [Act.put, List.setIfInBounds_toArray, List.set_cons_zero, List.set_cons_succ]
                refine AnyT.take (i := 3) (oi := ?oT5_3) (v := ?vT5_3) ?hiT5_3 (by kernel_rfl) (by kernel_rfl) (by kernel_rfl) (by kernel_rfl) ?hqT5_3 ?hyT5_3 (by assumption) ?restT5_3
                case hiT5_3 => (simp only [List.getElem?_toArray, List.getElem?_cons_zero, List.getElem?_cons_succ]; rfl)
                case hqT5_3 => exact fun _ _ _ h => h
                case hyT5_3 => (refine Or.inl ⟨rfl, ?_⟩; intro w hSw; (try dsimp only at hSw); go_split_ands; (first | (go_simp; done) | (go_simp; with_reducible rfl)))
                simp only [Act.put, List.setIfInBounds_toArray, List.set_cons_zero, List.set_cons_succ]
                refine AnyT.take (i := 4) (oi := ?oT5_4) (v := ?vT5_4) ?hiT5_4 (by kernel_rfl) (by kernel_rfl) (by kernel_rfl) (by kernel_rfl) ?hqT5_4 ?hyT5_4 (by assumption) ?restT5_4
                case hiT5_4 => (simp only [List.getElem?_toArray, List.getElem?_cons_zero, List.getElem?_cons_succ]; rfl)
                case hqT5_4 => exact fun _ _ _ h => h
                case hyT5_4 => (refine Or.inl ⟨rfl, ?_⟩; intro w hSw; (try dsimp only at hSw); go_split_ands; (first | (go_simp; done) | (go_simp; with_reducible rfl)))
                simp only [Act.put, List.setIfInBounds_toArray, List.set_cons_zero, List.set_cons_succ]
                refine AnyT.one (i := 2) (o := ?oT5_2) (by kernel_rfl) ?hiT5_2 (fun K hK => ?restT5_2)
                case hiT5_2 => (simp only [List.getElem?_toArray, List.getElem?_cons_zero, List.getElem?_cons_succ]; rfl)
                go_simp
                go_at_call 80; refine (uri_any _ _ _ _ _ _ _ _).mono ?_; rintro e wT51 ⟨rfl, hb⟩
                have hbwT51 : Below wc.heap.size wc wT51 := SB.below0 hb hHeldT50
                have hHeldT51 : (∀ b o, b < wc.heap.size → wT51.cell? ⟨b, o, none⟩ = wc.cell? ⟨b, o, none⟩) ∧ wc.heap.size ≤ wT51.heap.size ∧ Below (wc.heap.size) wc wT51 := SB.of (Nat.le_trans hHeldT50.2.1 hb.size) hbwT51
                clear hb hHeldT50
                go_wp2_with fail
                refine hK.out _ _ (fun _ => hHeldT51) (fun _ => ?_)
                clear hK K
                refine AnyT.one (i := 5) (o := ?oT5_5) (by kernel_rfl) ?hiT5_5 (fun K hK => ?restT5_5)
                case hiT5_5 => (simp only [List.getElem?_toArray, List.getElem?_cons_zero, List.getElem?_cons_succ]; rfl)
                go_simp
                go_at_call 42; (with_reducible refine (hnw.out _).mono ?_); rintro e wT52 ⟨rfl, hb⟩
                have hbwT52 : Below wc.heap.size wc wT52 := hbwT51.trans (hb.mono hHeldT51.2.1)
                have hHeldT52 : (∀ b o, b < wc.heap.size → wT52.cell? ⟨b, o, none⟩ = wc.cell? ⟨b, o, none⟩) ∧ wc.heap.size ≤ wT52.heap.size ∧ Below (wc.heap.size) wc wT52 := SB.of (Nat.le_trans hHeldT51.2.1 hb.size) hbwT52
                clear hb hHeldT51
                go_wp2_with fail
                refine hK.out _ _ (fun _ => hHeldT52) (fun _ => ?_)
                clear hK K
                refine AnyT.take (i := 6) (oi := ?oT5_6) (v := ?vT5_6) ?hiT5_6 (by kernel_rfl) (by kernel_rfl) (by kernel_rfl) (by kernel_rfl) ?hqT5_6 ?hyT5_6 (by assumption) ?restT5_6
                case hiT5_6 => (simp only [List.getElem?_toArray, List.getElem?_cons_zero, List.getElem?_cons_succ]; rfl)
                case hqT5_6 => exact fun _ _ _ h => h
                case hyT5_6 => (refine Or.inl ⟨rfl, ?_⟩; intro w hSw; (try dsimp only at hSw); go_split_ands; (first | (go_simp; done) | (go_simp; with_reducible rfl)))
                simp only [Act.put, List.setIfInBounds_toArray, List.set_cons_zero, List.set_cons_succ]
                have kZ := kE.kept hbwT52; have z8 := kZ.eight; have y0 := kZ.frozen 0; have y1 := kZ.frozen 1; have y2 := kZ.frozen 2; have y3 := kZ.frozen 3; have y4 := kZ.frozen 4; have y5 := kZ.frozen 5; have y6 := kZ.frozen 6
                refine AnyT.one (i := 7) (o := ?oT5_7) (by kernel_rfl) ?hiT5_7 (fun K hK => ?restT5_7)
                case hiT5_7 => (simp only [List.getElem?_toArray, List.getElem?_cons_zero, List.getElem?_cons_succ]; rfl)
                go_wp2_with fail
                refine hK.out _ _ (fun h => absurd rfl h) (fun _ => ?_)
                clear hK K
                refine AnyT.done (by kernel_rfl) ?_ _
                go_wp2_with fail
                go_meet
                exact ⟨rfl, HA.out.setE (grown7 (by assumption)) (aePut7 kZ)⟩
              case rest =>
                obtain ⟨rfl, B4⟩ := hcut
                clear B3
                go_upto_region 26 with fail
                have kE := B4.be
                have e8 := kE.eight
                have lE := kE.lt
                have y7 := kE.frozen 7
                have HA := hide B4
                have g1 : q ≤ r.size := hqr
                have hcat : ¬ 9223372036854775807 < t1.size + q := by omega
                clear B4
                have bb := Below.refl wc.heap.size wc
                refine AnyT.region (L := 7) (S := fun wS => (∀ b o, b < wc.heap.size → wS.cell? ⟨b, o, none⟩ = wc.cell? ⟨b, o, none⟩) ∧ wc.heap.size ≤ wS.heap.size ∧ Below (wc.heap.size) wc wS) (by kernel_rfl) (by with_reducible exact SB.start (by omega)) (fun hHeldT60 => ?_)
                refine AnyT.take (i := 0) (oi := ?oT6_0) (v := ?vT6_0) ?hiT6_0 (by kernel_rfl) (by kernel_rfl) (by kernel_rfl) (by kernel_rfl) ?hqT6_0 ?hyT6_0 (by assumption) ?restT6_0
                case hiT6_0 => (simp only [List.getElem?_toArray, List.getElem?_cons_zero, List.getElem?_cons_succ]; rfl)
                case hqT6_0 => exact fun _ _ _ h => h
                case hyT6_0 => (refine Or.inl ⟨rfl, ?_⟩; intro w hSw; (try dsimp only at hSw); go_split_ands; (first | (go_simp; done) | (go_simp; with_reducible rfl)))
                simp only [Act.put, List.setIfInBounds_toArray, List.set_cons_zero, List.set_cons_succ]
                refine AnyT.take (i := 1) (oi := ?oT6_1) (v := ?vT6_1) ?hiT6_1 (by kernel_rfl) (by kernel_rfl) (by kernel_rfl) (by kernel_rfl) ?hqT6_1 ?hyT6_1 (by assumption) ?restT6_1
                case hiT6_1 => (simp only [List.getElem?_toArray, List.getElem?_cons_zero, List.getElem?_cons_succ]; rfl)
                case hqT6_1 => exact fun _ _ _ h => h
                case hyT6_1 => (refine Or.inl ⟨rfl, ?_⟩; intro w hSw; (try dsimp only at hSw); go_split_ands; (first | (go_simp; done) | (go_simp; with_reducible rfl)))
                simp only [Act.put, List.setIfInBounds_toArray, List.set_cons_zero, List.set_cons_succ]
                refine AnyT.take (i := 2) (oi := ?oT6_2) (v := ?vT6_2) ?hiT6_2 (by kernel_rfl) (by kernel_rfl) (by kernel_rfl) (by kernel_rfl) ?hqT6_2 ?hyT6_2 (by assumption) ?restT6_2
                case hiT6_2 => (simp only [List.getElem?_toArray, List.getElem?_cons_zero, List.getElem?_cons_succ]; rfl)
                case hqT6_2 => exact fun _ _ _ h => h
                case hyT6_2 => (refine Or.inl ⟨rfl, ?_⟩; intro w hSw; (try dsimp only at hSw); go_split_ands; (first | (go_simp; done) | (go_simp; with_reducible rfl)))
                simp only [Act.put, List.setIfInBounds_toArray, List.set_cons_zero, List.set_cons_succ]
                refine AnyT.take (i := 3) (oi := ?oT6_3) (v := ?vT6_3) ?hiT6_3 (by kernel_rfl) (by kernel_rfl) (by kernel_rfl) (by kernel_rfl) ?hqT6_3 ?hyT6_3 (by assumption) ?restT6_3
                case hiT6_3 => (simp only [List.getElem?_toArray, List.getElem?_cons_zero, List.getElem?_cons_succ]; rfl)
                case hqT6_3 => exact fun _ _ _ h => h
                case hyT6_3 => (refine Or.inl ⟨rfl, ?_⟩; intro w hSw; (try dsimp only at hSw); go_split_ands; (first | (go_simp; done) | (go_simp; with_reducible rfl)))
                simp only [Act.put, List.setIfInBounds_toArray, List.set_cons_zero, List.set_cons_succ]
                refine AnyT.take (i := 4) (oi := ?oT6_4) (v := ?vT6_4) ?hiT6_4 (by kernel_rfl) (by kernel_rfl) (by kernel_rfl) (by kernel_rfl) ?hqT6_4 ?hyT6_4 (by assumption) ?restT6_4
                case hiT6_4 => (simp only [List.getElem?_toArray, List.getElem?_cons_zero, List.getElem?_cons_succ]; rfl)
                case hqT6_4 => exact fun _ _ _ h => h
                case hyT6_4 => (refine Or.inl ⟨rfl, ?_⟩; intro w hSw; (try dsimp only at hSw); go_split_ands; (first | (go_simp; done) | (go_simp; with_reducible rfl)))
                simp only [Act.put, List.setIfInBounds_toArray, List.set_cons_zero, List.set_cons_succ]
                refine AnyT.take (i := 5) (oi := ?oT6_5) (v := ?vT6_5) ?hiT6_5 (by kernel_rfl) (by kernel_rfl) (by kernel_rfl) (by kernel_rfl) ?hqT6_5 ?hyT6_5 (by assumption) ?restT6_5
                case hiT6_5 => (simp only [List.getElem?_toArray, List.getElem?_cons_zero, List.getElem?_cons_succ]; rfl)
                case hqT6_5 => exact fun _ _ _ h => h
                case hyT6_5 => (refine Or.inl ⟨rfl, ?_⟩; intro w hSw; (try dsimp only at hSw); go_split_ands; (first | (go_simp; done) | (go_simp; with_reducible rfl)))
                simp only [Act.put, List.setIfInBounds_toArray, List.set_cons_zero, List.set_cons_succ]
                refine AnyT.take (i := 6) (oi := ?oT6_6) (v := ?vT6_6) ?hiT6_6 (by kernel_rfl) (by kernel_rfl) (by kernel_rfl) (by kernel_rfl) ?hqT6_6 ?hyT6_6 (by assumption) ?restT6_6
                case hiT6_6 => (simp only [List.getElem?_toArray, List.getElem?_cons_zero, List.getElem?_cons_succ]; rfl)
                case hqT6_6 => exact fun _ _ _ h => h
                case hyT6_6 => (refine Or.inl ⟨rfl, ?_⟩; intro w hSw; (try dsimp only at hSw); go_split_ands; (first | (go_simp; done) | (go_simp; with_reducible rfl)))
                simp only [Act.put, List.setIfInBounds_toArray, List.set_cons_zero, List.set_cons_succ]
                refine AnyT.one (i := 7) (o := ?oT6_7) (by kernel_rfl) ?hiT6_7 (fun K hK => ?restT6_7)
                case hiT6_7 => (simp only [List.getElem?_toArray, List.getElem?_cons_zero, List.getElem?_cons_succ]; rfl)
                go_wp2_with fail
                refine hK.out _ _ (fun h => absurd rfl h) (fun _ => ?_)
                clear hK K
                refine AnyT.done (by kernel_rfl) ?_ _
                go_wp2_with fail
                go_meet
                rw [← HX.out]
                exact HA.out.setE (grown1 (Below.refl _ _).drew) (aePut1 kE.drew)
        · have hc1 : c2 = 1 := by omega
          have hlN1 : lN = l2 := by rw [HLN.out, if_neg h1]
          have hnb1 : nb = b := by rw [HN.out, if_neg h1]
          have e1 : t1 ++ s.extract b nb = t1 := by
            rw [hnb1]
            refine eq_of_list ?_
            simp
          have HE := hide e1
          have HA : Hid (AE w w7 gS gF ⟨u, l, 1, (sa : Nat), lN, 1, (nb : Nat), t1⟩ l 1 (sa : Nat) lN 1 (nb : Nat)) := hide (by rw [hlN1, hnb1]; rw [hc1] at A8; exact A8)
          clear hc1 hlN1 hnb1 e1 A8
          go_wp2_with fail
          go_meet
          rw [HE.out]
          exact HA.out
      case rest =>
        have A9 := hcut
        clear A8 hcut
        have e8 := A9.be.eight
        have lE := A9.be.lt
        have hb9 := A9.bel
        have hown9 := own_kept hown hb9
        have zz := hb9.size
        have HA := hide A9
        clear A9
        generalize t1 ++ s.extract b nb = t2 at *
        go_wp2_with (first
          | (at_builtin; refine wpList_append_lies _ rfl _ _ 45 rfl base 89 i0 _ 8 80 Tryz.underlying45 hi0 hz0 hz1 hzb rfl (by omega) (.slice A n cA) n X (by rfl) (hown9.alloc _) ⟨wc.heap.size, 0, none⟩ 1 1 (edCells ⟨u, l, 1, (sa : Nat), lN, 1, (nb : Nat), t2⟩) (by rfl) (by rfl) (World.news_of_block (cs := (edCells ⟨u, l, 1, (sa : Nat), lN, 1, (nb : Nat), t2⟩).toArray) (t := 89) (fr := (0, 0)) (heap_alloc_new wc _)) (by simp [Value.oneCell', edCells]) (by omega) (by unfold maxLen; omega) (by omega) (by simp; omega) (wc.heap.size + 1) (by simp) ?_; intro g2 cap2 w9 hown10 hgrow hat hlt2))
        have hF : Hid (AdRes w base n (.slice A n cA) X ⟨u, l, 1, (sa : Nat), lN, 1, (nb : Nat), t2⟩ (.returned (.slice (some ⟨g2, 0, none⟩) (n + 1) cap2)) w9) := hide ⟨g2, cap2, rfl, hown10, grown_app hb9 hgrow, by
          rcases hat with h | h
          · exact Or.inl h
          · exact Or.inr (by omega)⟩
        clear hown10 hgrow hat hown9 hb9
        go_ret
        exact hF.out
end Go.Proofs.YtgegialfhkgggaaGreatDoor
namespace Go.Proofs.YtgegialfhkgggaaGreatDoor
open Go.RowKit Go.Proofs.YtgegialfhkgggaaGreatDoor.Lines
attribute [local go_sem ↓] Go.wp_at_zero Go.wp_at_succ

/-- No edit yet. -/
def edNone : Ed := ⟨⟨#[]⟩, 0, 0, -1, 0, 0, -1, ⟨#[]⟩⟩
def rowsC (s : ByteArray) (l : List Ct) : List Value := (l.map (fun c => edCells (edC s c))).flatten
theorem rowsC_snoc (s : ByteArray) (l : List Ct) (c : Ct) : rowsC s (l ++ [c]) = rowsC s l ++ edCells (edC s c) := by simp [rowsC]
/-- The relation of the loop: what is done, and the edit at hand in block cb. -/
def LRel (w wr : World) (s : ByteArray) (cb : Nat) (done : List Ct) (e : Ed) (av : Value) : Prop := ∃ A c, av = .slice A done.length c ∧ wr.ownsRow w.heap.size 89 8 av done.length (rowsC s done) ∧
  av.ownBlock ≠ some cb ∧ Blk wr cb 89 (edCells e).toArray ∧ w.heap.size ≤ cb ∧ Below w.heap.size w wr
theorem LRel.kept {w wr w1 : World} {s : ByteArray} {cb : Nat} {done : List Ct} {e : Ed} {av : Value} (h : LRel w wr s cb done e av) (hb : Below wr.heap.size wr w1) : LRel w w1 s cb done e av := by
  obtain ⟨A, c, h1, h2, h3, h4, h5, h6⟩ := h
  exact ⟨A, c, h1, own_kept h2 hb, h3, h4.kept hb, h5, h6.trans (hb.mono h6.size)⟩
/-- The edit at hand is another one. -/
theorem LRel.cur {w wr w1 : World} {s : ByteArray} {cb : Nat} {done : List Ct} {e e' : Ed} {av : Value} (h : LRel w wr s cb done e av) (hg : wr.grownBy w1 (some cb)) (hb : Blk w1 cb 89 (edCells e').toArray) : LRel w w1 s cb done e' av := by
  obtain ⟨A, c, h1, h2, h3, h4, h5, h6⟩ := h
  exact ⟨A, c, h1, h2.kept hg (Or.inr h3), h3, hb, h5, h6.trans (SX.below hg h5 h6.size)⟩
/-- One edit is done. -/
theorem LRel.add {w wr w1 : World} {s : ByteArray} {cb : Nat} {done : List Ct} {e : Ed} {c : Ct} {av : Value} {en : Ending} (h : LRel w wr s cb done e av) (hr : AdRes wr w.heap.size done.length av (rowsC s done) (edC s c) en w1) :
    ∃ av', en = .returned av' ∧ LRel w w1 s cb (done ++ [c]) e av' := by
  obtain ⟨A, cc, h1, h2, h3, h4, h5, h6⟩ := h
  obtain ⟨g, c', rfl, r1, r2, r3⟩ := hr
  refine ⟨_, rfl, some ⟨g, 0, none⟩, c', by rw [List.length_append]; rfl, ?_, ?_, h4.grown r2 (fun e => h3 e.symm), h5, ?_⟩
  · rw [rowsC_snoc, List.length_append]
    exact r1
  · simp [Value.ownBlock]
    rcases r3 with r3 | r3
    · rw [r3] at h3; simpa using h3
    · have := h4.lt; omega
  · exact h6.grown r2 h6.size (fun k hk => own_ge h2 k hk)

/-- addEdit of an edit at offsets. -/
theorem addEdit_ct (s : ByteArray) (c : Ct) (A : Option Addr) (n cA base : Nat) (X : List Value) (hs : s.size ≤ 2147483647) (ht : c.t.size ≤ 1000000000) (hn : n ≤ 1000000) (hab : c.a ≤ c.b) (hb : c.b ≤ s.size)
    (hlast : c.a < s.size ∨ PL s c.a ≤ 1 ∨ s.data.toList.getLast? = some 10) (w : World) (hown : w.ownsRow base 89 8 (.slice A n cA) n X) (hbase : base ≤ w.heap.size) :
    Calls Tryz.prog 81 #[.string s, .slice A n cA, .agg (edCells (edC s c)).toArray] w (AdRes w base n (.slice A n cA) X (edC s (closeC s c))) := by
  have pa := PC_pos s c.a (by omega)
  have pb := PC_pos s c.b hb
  have la := PL_pos s c.a (by omega)
  have lb := PL_pos s c.b hb
  have ma := PL_le s c.a (by omega)
  have mb := PL_le s c.b hb
  have hlen := lnL_len s
  have hst := stTo_len s s.size
  obtain ⟨sa1, sa2⟩ := SL_at s c.a (by omega)
  obtain ⟨n1, n2, n3, n4⟩ := NL_at s c.b hb
  have hsl := SL_le s c.a
  have hz0 : PL s 0 = 1 := by have := PL_off s 0 (Nat.zero_le _); rw [off_zero] at this; simpa using this.1
  have key := addEdit_some s ⟨#[97]⟩ c.t A n cA base X (PL s c.a) (PC s c.a) (PL s c.b) (PC s c.b) (PL s (NL s c.b)) c.a c.b (SL s c.a) (NL s c.b) hs ht hn la lb pa.1 pb.1 (by omega) (by omega) pa.2 pb.2 (by omega) hb
    (by unfold SL; omega)
    (fun h => by
      rcases Nat.eq_zero_or_pos (SL s c.a) with e | e
      · rw [e, hz0] at sa1; omega
      · exact e)
    (by
      rcases hlast with h | h | h
      · exact Or.inl (by omega)
      · exact Or.inr (Or.inl h)
      · right; right
        have hne : s.data.toList ≠ [] := fun e => by rw [e] at h; cases h
        have hpos : 0 < s.size := by
          have := size_list s
          rcases Nat.eq_zero_or_pos s.size with e | e
          · exact absurd (List.length_eq_zero_iff.1 (by omega)) hne
          · exact e
        refine ⟨hpos, bt_ten.2 ?_⟩
        rw [List.getLast?_eq_getElem?, size_list] at h
        rw [List.getD_eq_getElem?_getD, h]; rfl)
    (by unfold NL eolN; rfl) (fun h => lt_of_PC s hb h) n2 w hown hbase
  have e : edC s (closeC s c) = ⟨⟨#[97]⟩, PL s c.a, 1, (SL s c.a : Nat), PL s (NL s c.b), 1, (NL s c.b : Nat), s.extract (SL s c.a) c.a ++ c.t ++ s.extract c.b (NL s c.b)⟩ := by
    unfold edC closeC
    simp only [sa1, sa2, n1]
  rw [e]
  exact key

theorem sets8 {W w1 : World} {g : Nat} {t : TypeId} {a b c d e f k m a' b' c' d' e' f' k' m' : Value} (hb : Below W.heap.size W w1) (h : Blk w1 g t #[a, b, c, d, e, f, k, m]) :
    Blk ((((((((w1.setCell ⟨g, 0, none⟩ a').setCell ⟨g, 1, none⟩ b').setCell ⟨g, 2, none⟩ c').setCell ⟨g, 3, none⟩ d').setCell ⟨g, 4, none⟩ e').setCell ⟨g, 5, none⟩ f').setCell ⟨g, 6, none⟩ k').setCell ⟨g, 7, none⟩ m') g t #[a', b', c', d', e', f', k', m'] ∧
    W.grownBy ((((((((w1.setCell ⟨g, 0, none⟩ a').setCell ⟨g, 1, none⟩ b').setCell ⟨g, 2, none⟩ c').setCell ⟨g, 3, none⟩ d').setCell ⟨g, 4, none⟩ e').setCell ⟨g, 5, none⟩ f').setCell ⟨g, 6, none⟩ k').setCell ⟨g, 7, none⟩ m') (some g) := by
  have h0 := aePut7 (a' := a') (b' := b') (c' := c') (d' := d') (e' := e') (f' := f') (k' := k') h
  exact ⟨h0.set_ 7 m', (SX.set (SX.of (grown7 hb)) (by rfl) m').2.2⟩
/-- What lineEdits leaves. -/
def LinRes (w : World) (s : ByteArray) (fs : List Ct) (e : Ending) (w' : World) : Prop := ∃ A c, e = .returned (.slice A fs.length c) ∧ RowsAt w' A 8 ((fs.map (edC s)).map edCells) ∧ Below w.heap.size w w'
theorem LRel.fin {w wr : World} {s : ByteArray} {cb : Nat} {done : List Ct} {e : Ed} {av : Value} (h : LRel w wr s cb done e av) : LinRes w s done (.returned av) wr := by
  obtain ⟨A, c, rfl, h2, h3, h4, h5, h6⟩ := h
  have he : ((done.map (edC s)).map edCells).length = done.length := by simp
  refine ⟨A, c, rfl, own_rows (base := w.heap.size) (c := c) (t := 89) ?_ (fun r hr => ?_), h6⟩
  · rw [he, List.map_map]; exact h2
  · obtain ⟨x, _, rfl⟩ := List.mem_map.1 hr; rfl
theorem take_ne {α : Type} {l : List α} {k : Nat} (h : 0 < k) (h2 : k ≤ l.length) : l.take k ≠ [] := fun e => by
  have := congrArg List.length e
  rw [List.length_take, List.length_nil] at this
  omega
set_option maxHeartbeats 1000000 in
set_option maxRecDepth 100000 in
theorem invalidP_any (w : World) : Calls Tryz.prog 97 #[] w fun e w' => e = .returned (.agg #[.int .i64 0, .int .i64 0, .int .i64 (-1)]) ∧ Below w.heap.size w w' := by
  go_enter Tryz.func97, Tryz.ntmps97
  go_wp2
  go_returns
  exact ⟨rfl, by go_grown⟩
set_option maxHeartbeats 1000000 in
set_option maxRecDepth 100000 in
theorem invalid_any (w : World) : Calls Tryz.prog 78 #[] w fun e w' => e = .returned (.agg #[.string ⟨#[]⟩, .int .i64 0, .int .i64 0, .int .i64 (-1), .int .i64 0, .int .i64 0, .int .i64 (-1)]) ∧ Below w.heap.size w w' := by
  have hfd : ∀ w : World, (Instr.field 92 (.agg #[.int .i64 0, .int .i64 0, .int .i64 (-1)]) 0).run Tryz.prog w = .ok (.agg #[.int .i64 0, .int .i64 0, .int .i64 (-1)]) w := fun _ => by kernel_rfl
  go_enter Tryz.func78, Tryz.ntmps78
  go_wp2_with fail
  refine (invalidP_any _).mono ?_
  rintro e w1 ⟨rfl, hb1⟩
  have k1 := (Blk.new w 87 #[.string ⟨#[]⟩, .int .i64 0, .int .i64 0, .int .i64 0, .int .i64 0, .int .i64 0, .int .i64 0]).kept hb1
  have hbl1 : Below w.heap.size w w1 := Below.trans (by go_grown) (hb1.mono (by simp))
  clear hb1
  go_wp2_with fail
  refine (invalidP_any _).mono ?_
  rintro e w2 ⟨rfl, hb2⟩
  have k2 := k1.kept hb2
  have hbl2 := hbl1.trans (hb2.mono hbl1.size)
  have hz := hbl2.size
  have f2 := k2.seven
  have f3 : (((((((w2.setCell ⟨w.heap.size, 0, none⟩ (.string ⟨#[]⟩)).setCell ⟨w.heap.size, 1, none⟩ (.int .i64 0)).setCell ⟨w.heap.size, 2, none⟩ (.int .i64 0)).setCell ⟨w.heap.size, 3, none⟩ (.int .i64 (-1))).setCell ⟨w.heap.size, 4, none⟩ (.int .i64 0)).setCell ⟨w.heap.size, 5, none⟩ (.int .i64 0)).setCell ⟨w.heap.size, 6, none⟩ (.int .i64 (-1))).heap.size = w2.heap.size := by simp [World.setCell]
  clear hb2 k1 k2
  go_wp2
  exact bodyPost_ret (v := .agg #[.string ⟨#[]⟩, .int .i64 0, .int .i64 0, .int .i64 (-1), .int .i64 0, .int .i64 0, .int .i64 (-1)]) (by simp [results, Tryz.results78, go_sem, f2]) rfl ⟨rfl, by go_grown⟩
theorem runC_take (s : ByteArray) {es : List Ct} {k : Nat} (h0 : 0 < k) (h : k < es.length) : runC s (es.take (k + 1)) = stepC s (runC s (es.take k)) es[k] := by
  rw [List.take_succ_eq_append_getElem h, runC_snoc s (take_ne h0 (by omega))]
theorem runC_one (s : ByteArray) {es : List Ct} (h : 0 < es.length) : runC s (es.take 1) = ([], es[0]) := by
  cases es with
  | nil => simp at h
  | cons x r => rfl
theorem ascC_take {n : Nat} {es : List Ct} {p : Nat} (h : AscC n es p) : ∀ k, k ≤ es.length → ∃ q, AscC n (es.take k) q ∧ (∀ hk : k < es.length, q ≤ es[k].a ∧ es[k].a ≤ es[k].b ∧ es[k].b ≤ n) := by
  induction h with
  | nil => intro k hk; exact ⟨0, by simp; exact AscC.nil, fun h => absurd h (by simp)⟩
  | @snoc es p e h1 h2 h3 h4 ih =>
    intro k hk
    rw [List.length_append, List.length_singleton] at hk
    by_cases c : k < es.length
    · obtain ⟨q, q1, q2⟩ := ih k (by omega)
      refine ⟨q, by rw [List.take_append_of_le_length (by omega)]; exact q1, fun _ => ?_⟩
      rw [List.getElem_append_left c]
      exact q2 c
    · by_cases c2 : k = es.length
      · subst c2
        refine ⟨p, by rw [List.take_left]; exact h1, fun _ => ?_⟩
        rw [List.getElem_append_right (Nat.le_refl _)]
        simp only [Nat.sub_self, List.getElem_singleton]
        exact ⟨h2, h3, h4⟩
      · have : k = (es ++ [e]).length := by simp; omega
        subst this
        exact ⟨e.b, by rw [List.take_length]; exact AscC.snoc h1 h2 h3 h4, fun h => absurd h (Nat.lt_irrefl _)⟩
theorem joined_take {s : ByteArray} {es : List Ct} {p : Nat} (h : Joined s es p) : ∀ k, k ≤ es.length → ∃ q, Joined s (es.take k) q := by
  induction h with
  | nil => intro k _; exact ⟨0, by simp; exact Joined.nil⟩
  | @snoc es p e h1 h2 ih =>
    intro k hk
    rw [List.length_append, List.length_singleton] at hk
    by_cases c : k ≤ es.length
    · obtain ⟨q, hq⟩ := ih k c
      exact ⟨q, by rw [List.take_append_of_le_length c]; exact hq⟩
    · have : k = (es ++ [e]).length := by simp; omega
      subst this
      exact ⟨e.b, by rw [List.take_length]; exact Joined.snoc h1 h2⟩
theorem sumT_take (es : List Ct) (k : Nat) : sumT (es.take k) ≤ sumT es := by
  unfold sumT
  have : es.map (fun c => c.t.size) = (es.take k).map (fun c => c.t.size) ++ (es.drop k).map (fun c => c.t.size) := by rw [← List.map_append, List.take_append_drop]
  rw [this, List.sum_append]; omega

set_option maxHeartbeats 16000000 in
set_option maxRecDepth 100000 in
theorem lineEdits_any (s : ByteArray) (es : List Ct) (p : Nat) (cv : Value) (A : Option Addr) (cA : Nat) (hs : s.size ≤ 100000) (hasc : AscC s.size es p) (hj : Joined s es p) (hn0 : 1 ≤ es.length) (hn : es.length ≤ 2000) (hsum : sumT es ≤ 100000000) (w : World)
    (hA : RowsF w A es.length (edAt (es.map (edC s)))) : Calls Tryz.prog 49 #[.string s, cv, .slice A es.length cA] w (LinRes w s (fullC s es)) := by
  obtain ⟨i0, hi0, hz0, hz1, hzb⟩ := info_parts info_te
  have HA := hide hA
  have HAsc := hide hasc
  have HJ := hide hj
  clear hA hasc hj
  obtain ⟨n, hn2⟩ : ∃ n, es.length = n := ⟨_, rfl⟩
  have HN := hide hn2
  rw [hn2] at HA hn0 hn ⊢
  clear hn2
  go_enter Tryz.func49, Tryz.ntmps49
  go_wp2_with (first
    | (refine wpList_make_own _ rfl _ _ 45 rfl w.heap.size 89 i0 _ 8 Tryz.underlying45 hi0 hz0 hz1 .i64 .i64 _ n (by rfl) (by rfl) (by omega) (by rw [hzb]; omega) (by unfold maxLen; omega) (Nat.le_refl _) ?_; intro w1 hown1 hg1))
  refine (invalid_any _).mono ?_
  rintro e w2 ⟨rfl, hb2⟩
  have hz2 := hb2.size
  have hbw1 := hide (grown_none hg1)
  have hzz := hbw1.out.size
  have H0 : Hid (∀ wc, wc = w2.alloc (.cells #[.string ⟨#[]⟩, .int .i64 0, .int .i64 0, .int .i64 (-1), .int .i64 0, .int .i64 0, .int .i64 (-1), .string ⟨#[]⟩] 89) → LRel w wc s w2.heap.size [] edNone (.slice (some ⟨w.heap.size, 0, none⟩) 0 n)) := hide (by
    rintro wc rfl
    have hlt := hown1.lt w.heap.size rfl
    refine ⟨_, _, rfl, (own_kept hown1 hb2).alloc _, by simp [Value.ownBlock]; omega, Blk.new _ _ _, by omega, ?_⟩
    exact (hbw1.out.trans (hb2.mono hbw1.out.size)).alloc (by omega) _)
  clear hown1 hg1 hb2 hbw1
  go_wp2_with fail
  have hcb : w.heap.size ≤ w2.heap.size := by omega
  clear hz2 hzz
  generalize w2.heap.size = cb at *
  go_loopw [7, 19] (fun av jv wr => ∃ k : Nat, jv = .int .i64 k ∧ k ≤ n ∧ Hid (if k = 0 then LRel w wr s cb [] edNone av else LRel w wr s cb (runC s (es.take k)).1 (edC s (runC s (es.take k)).2) av)) (fun _ jv _ => n - (intOf jv).toNat)
  case atStart => exact ⟨0, rfl, Nat.zero_le _, hide (by rw [if_pos rfl]; exact H0.out _ rfl)⟩
  case round =>
    obtain ⟨k, rfl, hk, hr⟩ := hrel
    clear H0
    by_cases hlt : k < n
    · have hlt2 : k < es.length := by have := HN.out; omega
      obtain ⟨q, hq1, hq2⟩ := ascC_take HAsc.out k (by omega)
      obtain ⟨x1, x2, x3⟩ := hq2 hlt2
      obtain ⟨q', hq3⟩ := joined_take HJ.out k (by omega)
      obtain ⟨q'', hq4⟩ := joined_take HJ.out (k + 1) (by omega)
      have hbl : Below w.heap.size w wr := by
        have := hr.out
        split at this <;> (obtain ⟨_, _, _, _, _, _, _, h⟩ := this; exact h)
      have hrows := HA.out.kept hbl
      obtain ⟨b, o, rfl, h0⟩ := hrows k 0 hlt (by omega)
      have hc : ∀ i, i < 8 → wr.cell? ⟨b, o + k * 8 + i, none⟩ = some ((edCells (edC s es[k])).getD i undef) := by
        intro i hi
        obtain ⟨b', o', e, h⟩ := hrows k i hlt hi
        injection e with e
        injection e with e1 e2
        subst e1; subst e2
        rw [edAt_get (by simpa using hlt2)] at h
        simpa using h
      obtain ⟨e, he⟩ : ∃ e, es[k] = e := ⟨_, rfl⟩
      rw [he] at hc x1 x2 x3
      have het : e.t.size ≤ 100000000 := by
        have h1 := sumT_take es (k + 1)
        rw [List.take_succ_eq_append_getElem hlt2, sumT_snoc, he] at h1
        omega
      have d0 := hc 0 (by omega)
      have d1 := hc 1 (by omega)
      have d2 := hc 2 (by omega)
      have d3 := hc 3 (by omega)
      have d4 := hc 4 (by omega)
      have d5 := hc 5 (by omega)
      have d6 := hc 6 (by omega)
      have d7 := hc 7 (by omega)
      simp only [edCells, edC, List.getD_cons_zero, List.getD_cons_succ, Nat.add_zero] at d0 d1 d2 d3 d4 d5 d6 d7
      have HE := hide he
      have HB := hide hbl
      clear hc h0 hrows he hbl
      go_upto_region 6 with fail
      refine wp_gen ?_
      intro W hW
      have hR : if k = 0 then LRel w W s cb [] edNone u7 else LRel w W s cb (runC s (es.take k)).1 (edC s (runC s (es.take k)).2) u7 := by
        have hbW : Below wr.heap.size wr W := by rw [hW]; go_grown
        have := hr.out
        split at this
        · rename_i c; rw [if_pos c]; exact this.kept hbW
        · rename_i c; rw [if_neg c]; exact this.kept hbW
      have hcE : cb < wr.heap.size := by
        have := hr.out
        split at this <;> (obtain ⟨_, _, _, _, _, h, _⟩ := this; exact h.lt)
      have hE0 : ∀ j, u7.ownBlock = some j → j < wr.heap.size := by
        have := hr.out
        split at this <;> (obtain ⟨_, _, _, h, _⟩ := this; exact fun j hj => (h.lt j hj).2)
      have bE : Blk W wr.heap.size 89 #[.string ⟨#[97]⟩, .int .i64 (PL s e.a), .int .i64 (PC s e.a), .int .i64 (e.a : Nat), .int .i64 (PL s e.b), .int .i64 (PC s e.b), .int .i64 (e.b : Nat), .string e.t] := by rw [hW]; exact Blk.new _ _ _
      have lE := bE.lt
      have fE := bE.eight
      clear hW d0 d1 d2 d3 d4 d5 d6 d7
      generalize wr.heap.size = gE at *
      by_cases hk0 : k = 0
      · subst hk0
        rw [if_pos rfl] at hR
        clear hr
        obtain ⟨A1, c1, rfl, r2, r3, r4, r5, r6⟩ := hR
        have HR : Hid (LRel w W s cb [] edNone (.slice A1 0 c1)) := hide ⟨A1, c1, rfl, r2, r3, r4, r5, r6⟩
        have kC : Blk W cb 89 #[.string ⟨#[]⟩, .int .i64 0, .int .i64 0, .int .i64 (-1), .int .i64 0, .int .i64 0, .int .i64 (-1), .string ⟨#[]⟩] := r4
        have lC := kC.lt
        have fC := kC.eight
        have ht0 : told 0 (-1) = false := by decide
        clear r2 r3 r4 r5 r6
        simp only [List.length_nil]
        go_cut [36] (fun s36 wx => s36 = .bool false ∧ Below W.heap.size W wx)
        case first =>
          refine wp_region_held_drew (S := fun wS => (∀ b o, b < W.heap.size → wS.cell? ⟨b, o, none⟩ = W.cell? ⟨b, o, none⟩) ∧ W.heap.size ≤ wS.heap.size ∧ Below (W.heap.size) W wS) (by kernel_rfl) (by with_reducible exact SB.start (by omega)) (fun hHeldH70 => ?_)
          refine wpAnyH_take (i := 0) (oi := ?oH7_0) (v := ?vH7_0) ?hiH7_0 (by kernel_rfl) (by kernel_rfl) (by kernel_rfl) ?hqH7_0 ?hyH7_0 (by assumption) ?restH7_0
          case hiH7_0 => (simp only [List.getElem?_toArray, List.getElem?_cons_zero, List.getElem?_cons_succ]; rfl)
          case hqH7_0 => exact fun _ _ _ h => h
          case hyH7_0 => (refine Or.inl ⟨rfl, ?_⟩; intro w hSw; (try dsimp only at hSw); go_split_ands; (first | (go_simp; done) | (go_simp; with_reducible rfl)))
          simp only [Act.put, List.setIfInBounds_toArray, List.set_cons_zero, List.set_cons_succ]
          refine wpAnyH_take (i := 1) (oi := ?oH7_1) (v := ?vH7_1) ?hiH7_1 (by kernel_rfl) (by kernel_rfl) (by kernel_rfl) ?hqH7_1 ?hyH7_1 (by assumption) ?restH7_1
          case hiH7_1 => (simp only [List.getElem?_toArray, List.getElem?_cons_zero, List.getElem?_cons_succ]; rfl)
          case hqH7_1 => exact fun _ _ _ h => h
          case hyH7_1 => (refine Or.inl ⟨rfl, ?_⟩; intro w hSw; (try dsimp only at hSw); go_split_ands; (first | (go_simp; done) | (go_simp; with_reducible rfl)))
          simp only [Act.put, List.setIfInBounds_toArray, List.set_cons_zero, List.set_cons_succ]
          refine anyH_one (i := 2) (o := ?oH7_2) (by kernel_rfl) ?hiH7_2 (fun K hK => ?restH7_2)
          case hiH7_2 => (simp only [List.getElem?_toArray, List.getElem?_cons_zero, List.getElem?_cons_succ]; rfl)
          go_simp
          go_at_call 79; refine (isValid_any _ _ _ _ _ _ _ _).mono ?_; rintro e wH71 ⟨rfl, hb⟩; rw [ht0]
          have hbwH71 : Below W.heap.size W wH71 := SB.below0 hb hHeldH70
          have hHeldH71 : (∀ b o, b < W.heap.size → wH71.cell? ⟨b, o, none⟩ = W.cell? ⟨b, o, none⟩) ∧ W.heap.size ≤ wH71.heap.size ∧ Below (W.heap.size) W wH71 := SB.of (Nat.le_trans hHeldH70.2.1 hb.size) hbwH71
          clear hb hHeldH70
          go_wp2_with fail
          refine hK.out _ _ hHeldH71 (fun _ => ?_)
          clear hK K
          refine wpAnyH_take (i := 3) (oi := ?oH7_3) (v := ?vH7_3) ?hiH7_3 (by kernel_rfl) (by kernel_rfl) (by kernel_rfl) ?hqH7_3 ?hyH7_3 (by assumption) ?restH7_3
          case hiH7_3 => (simp only [List.getElem?_toArray, List.getElem?_cons_zero, List.getElem?_cons_succ]; rfl)
          case hqH7_3 => exact fun _ _ _ h => h
          case hyH7_3 => (refine Or.inl ⟨rfl, ?_⟩; intro w hSw; (try dsimp only at hSw); go_split_ands; (first | (go_simp; done) | (go_simp; with_reducible rfl)))
          simp only [Act.put, List.setIfInBounds_toArray, List.set_cons_zero, List.set_cons_succ]
          refine wpAnyH_take (i := 4) (oi := ?oH7_4) (v := undef) ?hiH7_4 (by kernel_rfl) (by kernel_rfl) (by kernel_rfl) ?hqH7_4 ?hyH7_4 (by assumption) ?restH7_4
          case hiH7_4 => (simp only [List.getElem?_toArray, List.getElem?_cons_zero, List.getElem?_cons_succ]; rfl)
          case hqH7_4 => exact fun _ _ _ h => h
          case hyH7_4 => exact Or.inr ⟨rfl, rfl⟩
          simp only [Act.put, List.setIfInBounds_toArray, List.set_cons_zero, List.set_cons_succ]
          refine wpAnyH_take (i := 5) (oi := ?oH7_5) (v := undef) ?hiH7_5 (by kernel_rfl) (by kernel_rfl) (by kernel_rfl) ?hqH7_5 ?hyH7_5 (by assumption) ?restH7_5
          case hiH7_5 => (simp only [List.getElem?_toArray, List.getElem?_cons_zero, List.getElem?_cons_succ]; rfl)
          case hqH7_5 => exact fun _ _ _ h => h
          case hyH7_5 => exact Or.inr ⟨rfl, rfl⟩
          simp only [Act.put, List.setIfInBounds_toArray, List.set_cons_zero, List.set_cons_succ]
          refine wpAnyH_take (i := 6) (oi := ?oH7_6) (v := undef) ?hiH7_6 (by kernel_rfl) (by kernel_rfl) (by kernel_rfl) ?hqH7_6 ?hyH7_6 (by assumption) ?restH7_6
          case hiH7_6 => (simp only [List.getElem?_toArray, List.getElem?_cons_zero, List.getElem?_cons_succ]; rfl)
          case hqH7_6 => exact fun _ _ _ h => h
          case hyH7_6 => exact Or.inr ⟨rfl, rfl⟩
          simp only [Act.put, List.setIfInBounds_toArray, List.set_cons_zero, List.set_cons_succ]
          refine wpAnyH_take (i := 7) (oi := ?oH7_7) (v := undef) ?hiH7_7 (by kernel_rfl) (by kernel_rfl) (by kernel_rfl) ?hqH7_7 ?hyH7_7 (by assumption) ?restH7_7
          case hiH7_7 => (simp only [List.getElem?_toArray, List.getElem?_cons_zero, List.getElem?_cons_succ]; rfl)
          case hqH7_7 => exact fun _ _ _ h => h
          case hyH7_7 => exact Or.inr ⟨rfl, rfl⟩
          simp only [Act.put, List.setIfInBounds_toArray, List.set_cons_zero, List.set_cons_succ]
          refine wpAnyH_take (i := 8) (oi := ?oH7_8) (v := undef) ?hiH7_8 (by kernel_rfl) (by kernel_rfl) (by kernel_rfl) ?hqH7_8 ?hyH7_8 (by assumption) ?restH7_8
          case hiH7_8 => (simp only [List.getElem?_toArray, List.getElem?_cons_zero, List.getElem?_cons_succ]; rfl)
          case hqH7_8 => exact fun _ _ _ h => h
          case hyH7_8 => exact Or.inr ⟨rfl, rfl⟩
          simp only [Act.put, List.setIfInBounds_toArray, List.set_cons_zero, List.set_cons_succ]
          refine wpAnyH_take (i := 9) (oi := ?oH7_9) (v := undef) ?hiH7_9 (by kernel_rfl) (by kernel_rfl) (by kernel_rfl) ?hqH7_9 ?hyH7_9 (by assumption) ?restH7_9
          case hiH7_9 => (simp only [List.getElem?_toArray, List.getElem?_cons_zero, List.getElem?_cons_succ]; rfl)
          case hqH7_9 => exact fun _ _ _ h => h
          case hyH7_9 => exact Or.inr ⟨rfl, rfl⟩
          simp only [Act.put, List.setIfInBounds_toArray, List.set_cons_zero, List.set_cons_succ]
          refine wpAnyH_take (i := 10) (oi := ?oH7_10) (v := undef) ?hiH7_10 (by kernel_rfl) (by kernel_rfl) (by kernel_rfl) ?hqH7_10 ?hyH7_10 (by assumption) ?restH7_10
          case hiH7_10 => (simp only [List.getElem?_toArray, List.getElem?_cons_zero, List.getElem?_cons_succ]; rfl)
          case hqH7_10 => exact fun _ _ _ h => h
          case hyH7_10 => exact Or.inr ⟨rfl, rfl⟩
          simp only [Act.put, List.setIfInBounds_toArray, List.set_cons_zero, List.set_cons_succ]
          refine wpAnyH_take (i := 11) (oi := ?oH7_11) (v := undef) ?hiH7_11 (by kernel_rfl) (by kernel_rfl) (by kernel_rfl) ?hqH7_11 ?hyH7_11 (by assumption) ?restH7_11
          case hiH7_11 => (simp only [List.getElem?_toArray, List.getElem?_cons_zero, List.getElem?_cons_succ]; rfl)
          case hqH7_11 => exact fun _ _ _ h => h
          case hyH7_11 => exact Or.inr ⟨rfl, rfl⟩
          simp only [Act.put, List.setIfInBounds_toArray, List.set_cons_zero, List.set_cons_succ]
          refine wpAnyH_take (i := 12) (oi := ?oH7_12) (v := undef) ?hiH7_12 (by kernel_rfl) (by kernel_rfl) (by kernel_rfl) ?hqH7_12 ?hyH7_12 (by assumption) ?restH7_12
          case hiH7_12 => (simp only [List.getElem?_toArray, List.getElem?_cons_zero, List.getElem?_cons_succ]; rfl)
          case hqH7_12 => exact fun _ _ _ h => h
          case hyH7_12 => exact Or.inr ⟨rfl, rfl⟩
          simp only [Act.put, List.setIfInBounds_toArray, List.set_cons_zero, List.set_cons_succ]
          refine wpAnyH_take (i := 13) (oi := ?oH7_13) (v := ?vH7_13) ?hiH7_13 (by kernel_rfl) (by kernel_rfl) (by kernel_rfl) ?hqH7_13 ?hyH7_13 (by assumption) ?restH7_13
          case hiH7_13 => (simp only [List.getElem?_toArray, List.getElem?_cons_zero, List.getElem?_cons_succ]; rfl)
          case hqH7_13 => exact fun _ _ _ h => h
          case hyH7_13 => (refine Or.inl ⟨rfl, ?_⟩; intro w hSw; (try dsimp only at hSw); go_split_ands; (first | (go_simp; done) | (go_simp; with_reducible rfl)))
          simp only [Act.put, List.setIfInBounds_toArray, List.set_cons_zero, List.set_cons_succ]
          refine wpAnyH_done (by kernel_rfl) ?_ _
          have hbZ : Below W.heap.size W wH71 := hbwH71
          clear hHeldH71 hbwH71
          go_wp2_with fail
          go_meet
          exact ⟨rfl, by assumption⟩
        case rest =>
          obtain ⟨rfl, hbx⟩ := hcut
          have HR2 := hide (HR.out.kept hbx)
          have kC2 := kC.kept hbx
          have bE2 := bE.kept hbx
          have fC2 := kC2.eight
          clear kC bE HR fC fE
          go_wp2_with fail
          refine (addEdit_none _ _ _ _ _ _ _ _ _ _).mono ?_
          rintro en w5 ⟨rfl, hb5⟩
          have HR3 := hide (HR2.out.kept hb5)
          have kC3 := kC2.kept hb5
          have bE3 := bE2.kept hb5
          have fE3 := bE3.eight
          have lC3 := kC3.lt
          have y0 := kC3.frozen 0
          have y1 := kC3.frozen 1
          have y2 := kC3.frozen 2
          have y3 := kC3.frozen 3
          have y4 := kC3.frozen 4
          have y5 := kC3.frozen 5
          have y6 := kC3.frozen 6
          have y7 := kC3.frozen 7
          have fC3 := kC3.eight
          clear hb5 hbx HR2 kC2 bE2 fC2
          go_upto_region 12 with fail
          refine wp_gen ?_
          intro W2 hW2
          have hR4 : Hid (if 0 + 1 = 0 then LRel w W2 s cb [] edNone (.slice A1 0 c1) else LRel w W2 s cb (runC s (es.take (0 + 1))).1 (edC s (runC s (es.take (0 + 1))).2) (.slice A1 0 c1)) := hide (by
            rw [if_neg (by omega), Nat.zero_add, runC_one s (by omega), HE.out, hW2]
            obtain ⟨q1, q2⟩ := sets8 (a' := .string ⟨#[97]⟩) (b' := .int .i64 (PL s e.a)) (c' := .int .i64 (PC s e.a)) (d' := .int .i64 (e.a : Nat)) (e' := .int .i64 (PL s e.b)) (f' := .int .i64 (PC s e.b)) (k' := .int .i64 (e.b : Nat)) (m' := .string e.t) (Below.refl _ w5) kC3
            exact HR3.out.cur q2 q1)
          clear hW2 HR3 kC3 bE3 fE3 fC3 y0 y1 y2 y3 y4 y5 y6 y7
          go_wp2
          go_roundw
          case rel => exact ⟨0 + 1, by go_num, by omega, hR4⟩
          case measure => simp [intOf]; omega
      · rw [if_neg hk0] at hR
        clear hr
        have HI := invC_all hq1 (take_ne (by omega) (by omega))
        have hst := runC_take s (show 0 < k by omega) hlt2
        rw [HE.out] at hst
        generalize runC s (es.take k) = st at *
        obtain ⟨done, c⟩ := st
        dsimp only at hR hst
        obtain ⟨i1, i1e, i1s⟩ := HI.ab
        have i2 := HI.size
        have i3 := HI.len
        have i4 := sumT_take es k
        have i5 := HI.last (by rw [← joined_end hq1 hq3] at hq3; exact hq3)
        rw [List.length_take] at i3
        dsimp only at i1 i1e i2 i3 i5
        have hdn : done.length ≤ 2000 := by omega
        have hmul := Nat.mul_le_mul hdn (show 2 * s.size ≤ 200000 by omega)
        have hct : c.t.size ≤ 1000000000 := by omega
        have hcs : c.b ≤ s.size := by omega
        have hce : c.b ≤ e.a := by omega
        obtain ⟨A1, c1, rfl, r2, r3, r4, r5, r6⟩ := hR
        have HR : Hid (LRel w W s cb done (edC s c) (.slice A1 done.length c1)) := hide ⟨A1, c1, rfl, r2, r3, r4, r5, r6⟩
        have kC : Blk W cb 89 #[.string ⟨#[97]⟩, .int .i64 (PL s c.a), .int .i64 (PC s c.a), .int .i64 (c.a : Nat), .int .i64 (PL s c.b), .int .i64 (PC s c.b), .int .i64 (c.b : Nat), .string c.t] := r4
        have lC := kC.lt
        have fC := kC.eight
        have pa := PL_pos s c.a (by omega)
        have pb := PL_pos s c.b (by omega)
        have pe := PL_pos s e.a (by omega)
        have ht0 : told (PL s c.a) (c.a : Int) = true := told_of pa
        clear r2 r3 r4 r5 r6 i2 i3 i4 i1e i1s x1 hmul HI hq1 hq2 hq3 hq4
        by_cases hm : PL s e.a ≤ PL s c.b
        · obtain ⟨t2, ht2⟩ : ∃ t2, t2 = c.t ++ (s.extract c.b e.a ++ e.t) := ⟨_, rfl⟩
          have HSt : Hid (runC s (es.take (k + 1)) = (done, ⟨c.a, e.b, t2⟩)) := hide (by rw [hst, ht2]; unfold stepC; rw [if_pos hm])
          have HT2 := hide ht2
          clear hst ht2
          have hdec : decide (PL s e.a ≤ PL s c.b) = true := by simpa using hm
          go_cut [36] (fun s36 wx => s36 = .bool true ∧ Below W.heap.size W wx)
          case first =>
            refine wp_region_held_drew (S := fun wS => (∀ b o, b < W.heap.size → wS.cell? ⟨b, o, none⟩ = W.cell? ⟨b, o, none⟩) ∧ W.heap.size ≤ wS.heap.size ∧ Below (W.heap.size) W wS) (by kernel_rfl) (by with_reducible exact SB.start (by omega)) (fun hHeldH80 => ?_)
            refine wpAnyH_take (i := 0) (oi := ?oH8_0) (v := ?vH8_0) ?hiH8_0 (by kernel_rfl) (by kernel_rfl) (by kernel_rfl) ?hqH8_0 ?hyH8_0 (by assumption) ?restH8_0
            case hiH8_0 => (simp only [List.getElem?_toArray, List.getElem?_cons_zero, List.getElem?_cons_succ]; rfl)
            case hqH8_0 => exact fun _ _ _ h => h
            case hyH8_0 => (refine Or.inl ⟨rfl, ?_⟩; intro w hSw; (try dsimp only at hSw); go_split_ands; (first | (go_simp; done) | (go_simp; with_reducible rfl)))
            simp only [Act.put, List.setIfInBounds_toArray, List.set_cons_zero, List.set_cons_succ]
            refine wpAnyH_take (i := 1) (oi := ?oH8_1) (v := ?vH8_1) ?hiH8_1 (by kernel_rfl) (by kernel_rfl) (by kernel_rfl) ?hqH8_1 ?hyH8_1 (by assumption) ?restH8_1
            case hiH8_1 => (simp only [List.getElem?_toArray, List.getElem?_cons_zero, List.getElem?_cons_succ]; rfl)
            case hqH8_1 => exact fun _ _ _ h => h
            case hyH8_1 => (refine Or.inl ⟨rfl, ?_⟩; intro w hSw; (try dsimp only at hSw); go_split_ands; (first | (go_simp; done) | (go_simp; with_reducible rfl)))
            simp only [Act.put, List.setIfInBounds_toArray, List.set_cons_zero, List.set_cons_succ]
            refine anyH_one (i := 2) (o := ?oH8_2) (by kernel_rfl) ?hiH8_2 (fun K hK => ?restH8_2)
            case hiH8_2 => (simp only [List.getElem?_toArray, List.getElem?_cons_zero, List.getElem?_cons_succ]; rfl)
            go_simp
            go_at_call 79; refine (isValid_any _ _ _ _ _ _ _ _).mono ?_; rintro e wH81 ⟨rfl, hb⟩; rw [ht0]
            have hbwH81 : Below W.heap.size W wH81 := SB.below0 hb hHeldH80
            have hHeldH81 : (∀ b o, b < W.heap.size → wH81.cell? ⟨b, o, none⟩ = W.cell? ⟨b, o, none⟩) ∧ W.heap.size ≤ wH81.heap.size ∧ Below (W.heap.size) W wH81 := SB.of (Nat.le_trans hHeldH80.2.1 hb.size) hbwH81
            clear hb hHeldH80
            go_wp2_with fail
            refine hK.out _ _ hHeldH81 (fun _ => ?_)
            clear hK K
            refine wpAnyH_take (i := 3) (oi := ?oH8_3) (v := ?vH8_3) ?hiH8_3 (by kernel_rfl) (by kernel_rfl) (by kernel_rfl) ?hqH8_3 ?hyH8_3 (by assumption) ?restH8_3
            case hiH8_3 => (simp only [List.getElem?_toArray, List.getElem?_cons_zero, List.getElem?_cons_succ]; rfl)
            case hqH8_3 => exact fun _ _ _ h => h
            case hyH8_3 => (refine Or.inl ⟨rfl, ?_⟩; intro w hSw; (try dsimp only at hSw); go_split_ands; (first | (go_simp; done) | (go_simp; with_reducible rfl)))
            simp only [Act.put, List.setIfInBounds_toArray, List.set_cons_zero, List.set_cons_succ]
            refine wpAnyH_take (i := 4) (oi := ?oH8_4) (v := ?vH8_4) ?hiH8_4 (by kernel_rfl) (by kernel_rfl) (by kernel_rfl) ?hqH8_4 ?hyH8_4 (by assumption) ?restH8_4
            case hiH8_4 => (simp only [List.getElem?_toArray, List.getElem?_cons_zero, List.getElem?_cons_succ]; rfl)
            case hqH8_4 => exact fun _ _ _ h => h
            case hyH8_4 => (refine Or.inl ⟨rfl, ?_⟩; intro w hSw; (try dsimp only at hSw); go_split_ands; (first | (go_simp; done) | (go_simp; with_reducible rfl)))
            simp only [Act.put, List.setIfInBounds_toArray, List.set_cons_zero, List.set_cons_succ]
            refine wpAnyH_take (i := 5) (oi := ?oH8_5) (v := ?vH8_5) ?hiH8_5 (by kernel_rfl) (by kernel_rfl) (by kernel_rfl) ?hqH8_5 ?hyH8_5 (by assumption) ?restH8_5
            case hiH8_5 => (simp only [List.getElem?_toArray, List.getElem?_cons_zero, List.getElem?_cons_succ]; rfl)
            case hqH8_5 => exact fun _ _ _ h => h
            case hyH8_5 => (refine Or.inl ⟨rfl, ?_⟩; intro w hSw; (try dsimp only at hSw); go_split_ands; (first | (go_simp; done) | (go_simp; with_reducible rfl)))
            simp only [Act.put, List.setIfInBounds_toArray, List.set_cons_zero, List.set_cons_succ]
            refine wpAnyH_take (i := 8) (oi := ?oH8_8) (v := ?vH8_8) ?hiH8_8 (by kernel_rfl) (by kernel_rfl) (by kernel_rfl) ?hqH8_8 ?hyH8_8 (by assumption) ?restH8_8
            case hiH8_8 => (simp only [List.getElem?_toArray, List.getElem?_cons_zero, List.getElem?_cons_succ]; rfl)
            case hqH8_8 => exact fun _ _ _ h => h
            case hyH8_8 => (refine Or.inl ⟨rfl, ?_⟩; intro w hSw; (try dsimp only at hSw); go_split_ands; (first | (go_simp; done) | (go_simp; with_reducible rfl)))
            simp only [Act.put, List.setIfInBounds_toArray, List.set_cons_zero, List.set_cons_succ]
            refine wpAnyH_take (i := 9) (oi := ?oH8_9) (v := ?vH8_9) ?hiH8_9 (by kernel_rfl) (by kernel_rfl) (by kernel_rfl) ?hqH8_9 ?hyH8_9 (by assumption) ?restH8_9
            case hiH8_9 => (simp only [List.getElem?_toArray, List.getElem?_cons_zero, List.getElem?_cons_succ]; rfl)
            case hqH8_9 => exact fun _ _ _ h => h
            case hyH8_9 => (refine Or.inl ⟨rfl, ?_⟩; intro w hSw; (try dsimp only at hSw); go_split_ands; (first | (go_simp; done) | (go_simp; with_reducible rfl)))
            simp only [Act.put, List.setIfInBounds_toArray, List.set_cons_zero, List.set_cons_succ]
            refine anyH_one (i := 6) (o := ?oH8_6) (by kernel_rfl) ?hiH8_6 (fun K hK => ?restH8_6)
            case hiH8_6 => (simp only [List.getElem?_toArray, List.getElem?_cons_zero, List.getElem?_cons_succ]; rfl)
            go_simp
            go_at_call 38; refine (start_any _ _ _ _ _ _ _ _).mono ?_; rintro e wH82 ⟨rfl, hb⟩
            have hbwH82 : Below W.heap.size W wH82 := hbwH81.trans (hb.mono hHeldH81.2.1)
            have hHeldH82 : (∀ b o, b < W.heap.size → wH82.cell? ⟨b, o, none⟩ = W.cell? ⟨b, o, none⟩) ∧ W.heap.size ≤ wH82.heap.size ∧ Below (W.heap.size) W wH82 := SB.of (Nat.le_trans hHeldH81.2.1 hb.size) hbwH82
            clear hb hHeldH81
            go_wp2_with fail
            refine hK.out _ _ hHeldH82 (fun _ => ?_)
            clear hK K
            refine anyH_one (i := 7) (o := ?oH8_7) (by kernel_rfl) ?hiH8_7 (fun K hK => ?restH8_7)
            case hiH8_7 => (simp only [List.getElem?_toArray, List.getElem?_cons_zero, List.getElem?_cons_succ]; rfl)
            go_simp
            go_at_call 51; refine (pLine_any _ _ _ (by omega) _).mono ?_; rintro e wH83 ⟨rfl, hb⟩
            have hbwH83 : Below W.heap.size W wH83 := hbwH82.trans (hb.mono hHeldH82.2.1)
            have hHeldH83 : (∀ b o, b < W.heap.size → wH83.cell? ⟨b, o, none⟩ = W.cell? ⟨b, o, none⟩) ∧ W.heap.size ≤ wH83.heap.size ∧ Below (W.heap.size) W wH83 := SB.of (Nat.le_trans hHeldH82.2.1 hb.size) hbwH83
            clear hb hHeldH82
            go_wp2_with fail
            refine hK.out _ _ hHeldH83 (fun _ => ?_)
            clear hK K
            refine anyH_one (i := 10) (o := ?oH8_10) (by kernel_rfl) ?hiH8_10 (fun K hK => ?restH8_10)
            case hiH8_10 => (simp only [List.getElem?_toArray, List.getElem?_cons_zero, List.getElem?_cons_succ]; rfl)
            go_simp
            go_at_call 39; refine (end_any _ _ _ _ _ _ _ _).mono ?_; rintro e wH84 ⟨rfl, hb⟩
            have hbwH84 : Below W.heap.size W wH84 := hbwH83.trans (hb.mono hHeldH83.2.1)
            have hHeldH84 : (∀ b o, b < W.heap.size → wH84.cell? ⟨b, o, none⟩ = W.cell? ⟨b, o, none⟩) ∧ W.heap.size ≤ wH84.heap.size ∧ Below (W.heap.size) W wH84 := SB.of (Nat.le_trans hHeldH83.2.1 hb.size) hbwH84
            clear hb hHeldH83
            go_wp2_with fail
            refine hK.out _ _ hHeldH84 (fun _ => ?_)
            clear hK K
            refine anyH_one (i := 11) (o := ?oH8_11) (by kernel_rfl) ?hiH8_11 (fun K hK => ?restH8_11)
            case hiH8_11 => (simp only [List.getElem?_toArray, List.getElem?_cons_zero, List.getElem?_cons_succ]; rfl)
            go_simp
            go_at_call 51; refine (pLine_any _ _ _ (by omega) _).mono ?_; rintro e wH85 ⟨rfl, hb⟩
            have hbwH85 : Below W.heap.size W wH85 := hbwH84.trans (hb.mono hHeldH84.2.1)
            have hHeldH85 : (∀ b o, b < W.heap.size → wH85.cell? ⟨b, o, none⟩ = W.cell? ⟨b, o, none⟩) ∧ W.heap.size ≤ wH85.heap.size ∧ Below (W.heap.size) W wH85 := SB.of (Nat.le_trans hHeldH84.2.1 hb.size) hbwH85
            clear hb hHeldH84
            go_wp2_with fail
            refine hK.out _ _ hHeldH85 (fun _ => ?_)
            clear hK K
            refine wpAnyH_take (i := 12) (oi := ?oH8_12) (v := ?vH8_12) ?hiH8_12 (by kernel_rfl) (by kernel_rfl) (by kernel_rfl) ?hqH8_12 ?hyH8_12 (by assumption) ?restH8_12
            case hiH8_12 => (simp only [List.getElem?_toArray, List.getElem?_cons_zero, List.getElem?_cons_succ]; rfl)
            case hqH8_12 => exact fun _ _ _ h => h
            case hyH8_12 => (refine Or.inl ⟨rfl, ?_⟩; intro w hSw; (try dsimp only at hSw); go_split_ands; (first | (go_simp; done) | (go_simp; with_reducible rfl)))
            simp only [Act.put, List.setIfInBounds_toArray, List.set_cons_zero, List.set_cons_succ]
            refine wpAnyH_take (i := 13) (oi := ?oH8_13) (v := ?vH8_13) ?hiH8_13 (by kernel_rfl) (by kernel_rfl) (by kernel_rfl) ?hqH8_13 ?hyH8_13 (by assumption) ?restH8_13
            case hiH8_13 => (simp only [List.getElem?_toArray, List.getElem?_cons_zero, List.getElem?_cons_succ]; rfl)
            case hqH8_13 => exact fun _ _ _ h => h
            case hyH8_13 => (refine Or.inl ⟨rfl, ?_⟩; intro w hSw; (try dsimp only at hSw); go_split_ands; (first | (go_simp; done) | (go_simp; with_reducible rfl)))
            simp only [Act.put, List.setIfInBounds_toArray, List.set_cons_zero, List.set_cons_succ]
            refine wpAnyH_done (by kernel_rfl) ?_ _
            have hbZ : Below W.heap.size W wH85 := hbwH85
            clear hHeldH85 hbwH85
            go_wp2_with fail
            go_meet
            exact ⟨rfl, by assumption⟩
          case rest =>
            obtain ⟨rfl, hbx⟩ := hcut
            have HR2 := hide (HR.out.kept hbx)
            have kC2 := kC.kept hbx
            have bE2 := bE.kept hbx
            clear kC bE HR fC fE lC lE
            go_upto_region 7 with fail
            go_cut [11] (fun s11 wx => s11 = .string (s.extract c.b e.a) ∧ Below wc.heap.size wc wx)
            case first =>
              have fC2 := kC2.eight
              have fE2 := bE2.eight
              have lC2 := kC2.lt
              have lE2 := bE2.lt
              have g1 : e.a ≤ s.size := by omega
              refine wp_region_held_drew (S := fun wS => (∀ b o, b < wc.heap.size → wS.cell? ⟨b, o, none⟩ = wc.cell? ⟨b, o, none⟩) ∧ wc.heap.size ≤ wS.heap.size ∧ Below (wc.heap.size) wc wS) (by kernel_rfl) (by with_reducible exact SB.start (by omega)) (fun hHeldH90 => ?_)
              refine wpAnyH_take (i := 0) (oi := ?oH9_0) (v := ?vH9_0) ?hiH9_0 (by kernel_rfl) (by kernel_rfl) (by kernel_rfl) ?hqH9_0 ?hyH9_0 (by assumption) ?restH9_0
              case hiH9_0 => (simp only [List.getElem?_toArray, List.getElem?_cons_zero, List.getElem?_cons_succ]; rfl)
              case hqH9_0 => exact fun _ _ _ h => h
              case hyH9_0 => (refine Or.inl ⟨rfl, ?_⟩; intro w hSw; (try dsimp only at hSw); go_split_ands; (first | (go_simp; done) | (go_simp; with_reducible rfl)))
              simp only [Act.put, List.setIfInBounds_toArray, List.set_cons_zero, List.set_cons_succ]
              refine wpAnyH_take (i := 1) (oi := ?oH9_1) (v := ?vH9_1) ?hiH9_1 (by kernel_rfl) (by kernel_rfl) (by kernel_rfl) ?hqH9_1 ?hyH9_1 (by assumption) ?restH9_1
              case hiH9_1 => (simp only [List.getElem?_toArray, List.getElem?_cons_zero, List.getElem?_cons_succ]; rfl)
              case hqH9_1 => exact fun _ _ _ h => h
              case hyH9_1 => (refine Or.inl ⟨rfl, ?_⟩; intro w hSw; (try dsimp only at hSw); go_split_ands; (first | (go_simp; done) | (go_simp; with_reducible rfl)))
              simp only [Act.put, List.setIfInBounds_toArray, List.set_cons_zero, List.set_cons_succ]
              refine wpAnyH_take (i := 2) (oi := ?oH9_2) (v := ?vH9_2) ?hiH9_2 (by kernel_rfl) (by kernel_rfl) (by kernel_rfl) ?hqH9_2 ?hyH9_2 (by assumption) ?restH9_2
              case hiH9_2 => (simp only [List.getElem?_toArray, List.getElem?_cons_zero, List.getElem?_cons_succ]; rfl)
              case hqH9_2 => exact fun _ _ _ h => h
              case hyH9_2 => (refine Or.inl ⟨rfl, ?_⟩; intro w hSw; (try dsimp only at hSw); go_split_ands; (first | (go_simp; done) | (go_simp; with_reducible rfl)))
              simp only [Act.put, List.setIfInBounds_toArray, List.set_cons_zero, List.set_cons_succ]
              refine wpAnyH_take (i := 5) (oi := ?oH9_5) (v := ?vH9_5) ?hiH9_5 (by kernel_rfl) (by kernel_rfl) (by kernel_rfl) ?hqH9_5 ?hyH9_5 (by assumption) ?restH9_5
              case hiH9_5 => (simp only [List.getElem?_toArray, List.getElem?_cons_zero, List.getElem?_cons_succ]; rfl)
              case hqH9_5 => exact fun _ _ _ h => h
              case hyH9_5 => (refine Or.inl ⟨rfl, ?_⟩; intro w hSw; (try dsimp only at hSw); go_split_ands; (first | (go_simp; done) | (go_simp; with_reducible rfl)))
              simp only [Act.put, List.setIfInBounds_toArray, List.set_cons_zero, List.set_cons_succ]
              refine wpAnyH_take (i := 6) (oi := ?oH9_6) (v := ?vH9_6) ?hiH9_6 (by kernel_rfl) (by kernel_rfl) (by kernel_rfl) ?hqH9_6 ?hyH9_6 (by assumption) ?restH9_6
              case hiH9_6 => (simp only [List.getElem?_toArray, List.getElem?_cons_zero, List.getElem?_cons_succ]; rfl)
              case hqH9_6 => exact fun _ _ _ h => h
              case hyH9_6 => (refine Or.inl ⟨rfl, ?_⟩; intro w hSw; (try dsimp only at hSw); go_split_ands; (first | (go_simp; done) | (go_simp; with_reducible rfl)))
              simp only [Act.put, List.setIfInBounds_toArray, List.set_cons_zero, List.set_cons_succ]
              refine anyH_one (i := 3) (o := ?oH9_3) (by kernel_rfl) ?hiH9_3 (fun K hK => ?restH9_3)
              case hiH9_3 => (simp only [List.getElem?_toArray, List.getElem?_cons_zero, List.getElem?_cons_succ]; rfl)
              go_simp
              go_at_call 39; refine (end_any _ _ _ _ _ _ _ _).mono ?_; rintro e wH91 ⟨rfl, hb⟩
              have hbwH91 : Below wc.heap.size wc wH91 := SB.below0 hb hHeldH90
              have hHeldH91 : (∀ b o, b < wc.heap.size → wH91.cell? ⟨b, o, none⟩ = wc.cell? ⟨b, o, none⟩) ∧ wc.heap.size ≤ wH91.heap.size ∧ Below (wc.heap.size) wc wH91 := SB.of (Nat.le_trans hHeldH90.2.1 hb.size) hbwH91
              clear hb hHeldH90
              go_wp2_with fail
              refine hK.out _ _ hHeldH91 (fun _ => ?_)
              clear hK K
              refine anyH_one (i := 4) (o := ?oH9_4) (by kernel_rfl) ?hiH9_4 (fun K hK => ?restH9_4)
              case hiH9_4 => (simp only [List.getElem?_toArray, List.getElem?_cons_zero, List.getElem?_cons_succ]; rfl)
              go_simp
              go_at_call 45; refine (pOffset_any _ _ _ (by omega) _).mono ?_; rintro e wH92 ⟨rfl, hb⟩
              have hbwH92 : Below wc.heap.size wc wH92 := hbwH91.trans (hb.mono hHeldH91.2.1)
              have hHeldH92 : (∀ b o, b < wc.heap.size → wH92.cell? ⟨b, o, none⟩ = wc.cell? ⟨b, o, none⟩) ∧ wc.heap.size ≤ wH92.heap.size ∧ Below (wc.heap.size) wc wH92 := SB.of (Nat.le_trans hHeldH91.2.1 hb.size) hbwH92
              clear hb hHeldH91
              go_wp2_with fail
              refine hK.out _ _ hHeldH92 (fun _ => ?_)
              clear hK K
              refine anyH_one (i := 7) (o := ?oH9_7) (by kernel_rfl) ?hiH9_7 (fun K hK => ?restH9_7)
              case hiH9_7 => (simp only [List.getElem?_toArray, List.getElem?_cons_zero, List.getElem?_cons_succ]; rfl)
              go_simp
              go_at_call 38; refine (start_any _ _ _ _ _ _ _ _).mono ?_; rintro e wH93 ⟨rfl, hb⟩
              have hbwH93 : Below wc.heap.size wc wH93 := hbwH92.trans (hb.mono hHeldH92.2.1)
              have hHeldH93 : (∀ b o, b < wc.heap.size → wH93.cell? ⟨b, o, none⟩ = wc.cell? ⟨b, o, none⟩) ∧ wc.heap.size ≤ wH93.heap.size ∧ Below (wc.heap.size) wc wH93 := SB.of (Nat.le_trans hHeldH92.2.1 hb.size) hbwH93
              clear hb hHeldH92
              go_wp2_with fail
              refine hK.out _ _ hHeldH93 (fun _ => ?_)
              clear hK K
              refine anyH_one (i := 8) (o := ?oH9_8) (by kernel_rfl) ?hiH9_8 (fun K hK => ?restH9_8)
              case hiH9_8 => (simp only [List.getElem?_toArray, List.getElem?_cons_zero, List.getElem?_cons_succ]; rfl)
              go_simp
              go_at_call 45; refine (pOffset_any _ _ _ (by omega) _).mono ?_; rintro e wH94 ⟨rfl, hb⟩
              have hbwH94 : Below wc.heap.size wc wH94 := hbwH93.trans (hb.mono hHeldH93.2.1)
              have hHeldH94 : (∀ b o, b < wc.heap.size → wH94.cell? ⟨b, o, none⟩ = wc.cell? ⟨b, o, none⟩) ∧ wc.heap.size ≤ wH94.heap.size ∧ Below (wc.heap.size) wc wH94 := SB.of (Nat.le_trans hHeldH93.2.1 hb.size) hbwH94
              clear hb hHeldH93
              go_wp2_with fail
              refine hK.out _ _ hHeldH94 (fun _ => ?_)
              clear hK K
              refine wpAnyH_take (i := 9) (oi := ?oH9_9) (v := ?vH9_9) ?hiH9_9 (by kernel_rfl) (by kernel_rfl) (by kernel_rfl) ?hqH9_9 ?hyH9_9 (by assumption) ?restH9_9
              case hiH9_9 => (simp only [List.getElem?_toArray, List.getElem?_cons_zero, List.getElem?_cons_succ]; rfl)
              case hqH9_9 => exact fun _ _ _ h => h
              case hyH9_9 => (refine Or.inl ⟨rfl, ?_⟩; intro w hSw; (try dsimp only at hSw); go_split_ands; (first | (go_simp; done) | (go_simp; with_reducible rfl)))
              simp only [Act.put, List.setIfInBounds_toArray, List.set_cons_zero, List.set_cons_succ]
              refine wpAnyH_take (i := 10) (oi := ?oH9_10) (v := ?vH9_10) ?hiH9_10 (by kernel_rfl) (by kernel_rfl) (by kernel_rfl) ?hqH9_10 ?hyH9_10 (by assumption) ?restH9_10
              case hiH9_10 => (simp only [List.getElem?_toArray, List.getElem?_cons_zero, List.getElem?_cons_succ]; rfl)
              case hqH9_10 => exact fun _ _ _ h => h
              case hyH9_10 => (refine Or.inl ⟨rfl, ?_⟩; intro w hSw; (try dsimp only at hSw); go_split_ands; (first | (go_simp; done) | (go_simp; with_reducible rfl)))
              simp only [Act.put, List.setIfInBounds_toArray, List.set_cons_zero, List.set_cons_succ]
              refine wpAnyH_done (by kernel_rfl) ?_ _
              have hbZ : Below wc.heap.size wc wH94 := hbwH94
              clear hHeldH94 hbwH94
              go_wp2_with fail
              go_meet
              exact ⟨rfl, by assumption⟩
            case rest =>
              obtain ⟨rfl, hby⟩ := hcut
              have HR3 := hide (HR2.out.kept hby)
              have kC3 := kC2.kept hby
              have bE3 := bE2.kept hby
              have fC3 := kC3.eight
              have fE3 := bE3.eight
              have lC3 := kC3.lt
              have lE3 := bE3.lt
              have y7 := kC3.frozen 7
              have hc1 : ¬ 9223372036854775807 < e.a - c.b + e.t.size := by omega
              have hc2 : ¬ 9223372036854775807 < c.t.size + (e.a - c.b + e.t.size) := by omega
              have hneE : ¬ gE = cb := by omega
              clear HR2 kC2 bE2
              go_upto_region 9 with fail
              refine wp_gen ?_
              intro W3 hW3
              have kC4 : Blk W3 cb 89 #[.string ⟨#[97]⟩, .int .i64 (PL s c.a), .int .i64 (PC s c.a), .int .i64 (c.a : Nat), .int .i64 (PL s c.b), .int .i64 (PC s c.b), .int .i64 (c.b : Nat), .string t2] := by rw [hW3, HT2.out]; exact aePut1 kC3
              have bE4 := bE3.far hneE (p := ⟨cb, 7, none⟩) (.string (c.t ++ (s.extract c.b e.a ++ e.t)))
              rw [← hW3] at bE4
              have HR4 : Hid (LRel w W3 s cb done ⟨⟨#[97]⟩, PL s c.a, PC s c.a, (c.a : Nat), PL s c.b, PC s c.b, (c.b : Nat), t2⟩ (.slice A1 done.length c1)) := hide (HR3.out.cur (by rw [hW3]; exact grown1 (Below.refl _ _)) kC4)
              clear hW3 kC3 bE3 fC3 fE3 lC3 lE3 y7 HR3 hbx hby
              have fC4 := kC4.eight
              have fE4 := bE4.eight
              have lC4 := kC4.lt
              have lE4 := bE4.lt
              have hnw : Hid (∀ W, Calls Tryz.prog 42 #[.string ⟨#[97]⟩, .agg #[.int .i64 (PL s c.a), .int .i64 (PC s c.a), .int .i64 (c.a : Nat)], .agg #[.int .i64 (PL s e.b), .int .i64 (PC s e.b), .int .i64 (e.b : Nat)]] W fun en w' => en = .returned (.agg #[.string ⟨#[97]⟩, .int .i64 (PL s c.a), .int .i64 (PC s c.a), .int .i64 (c.a : Nat), .int .i64 (PL s e.b), .int .i64 (PC s e.b), .int .i64 (e.b : Nat)]) ∧ Below W.heap.size W w') := hide (fun W => by
                have := new_any ⟨#[97]⟩ (PL s c.a) (PC s c.a) (c.a : Nat) (PL s e.b) (PC s e.b) (e.b : Nat) W
                have q1 := PL_pos s e.b x3
                have e1 : atSt (PL s e.b) (PC s e.b) (e.b : Nat) = false := by unfold atSt; rw [decide_eq_true (show 0 < PL s e.b by omega)]; simp; omega
                rw [eN_keep e1, eN_keep e1, eN_keep e1] at this
                exact this)
              refine AnyT.region (L := 11) (S := fun wS => (∀ b o, b < W3.heap.size → wS.cell? ⟨b, o, none⟩ = W3.cell? ⟨b, o, none⟩) ∧ W3.heap.size ≤ wS.heap.size ∧ Below (W3.heap.size) W3 wS) (by kernel_rfl) (by with_reducible exact SB.start (by omega)) (fun hHeldT100 => ?_)
              refine AnyT.take (i := 0) (oi := ?oT10_0) (v := ?vT10_0) ?hiT10_0 (by kernel_rfl) (by kernel_rfl) (by kernel_rfl) (by kernel_rfl) ?hqT10_0 ?hyT10_0 (by assumption) ?restT10_0
              case hiT10_0 => (simp only [List.getElem?_toArray, List.getElem?_cons_zero, List.getElem?_cons_succ]; rfl)
              case hqT10_0 => exact fun _ _ _ h => h
              case hyT10_0 => (refine Or.inl ⟨rfl, ?_⟩; intro w hSw; (try dsimp only at hSw); go_split_ands; (first | (go_simp; done) | (go_simp; with_reducible rfl)))
              simp only [Act.put, List.setIfInBounds_toArray, List.set_cons_zero, List.set_cons_succ]
              refine AnyT.take (i := 1) (oi := ?oT10_1) (v := ?vT10_1) ?hiT10_1 (by kernel_rfl) (by kernel_rfl) (by kernel_rfl) (by kernel_rfl) ?hqT10_1 ?hyT10_1 (by assumption) ?restT10_1
              case hiT10_1 => (simp only [List.getElem?_toArray, List.getElem?_cons_zero, List.getElem?_cons_succ]; rfl)
              case hqT10_1 => exact fun _ _ _ h => h
              case hyT10_1 => (refine Or.inl ⟨rfl, ?_⟩; intro w hSw; (try dsimp only at hSw); go_split_ands; (first | (go_simp; done) | (go_simp; with_reducible rfl)))
              simp only [Act.put, List.setIfInBounds_toArray, List.set_cons_zero, List.set_cons_succ]
              refine AnyT.take (i := 3) (oi := ?oT10_3) (v := ?vT10_3) ?hiT10_3 (by kernel_rfl) (by kernel_rfl) (by kernel_rfl) (by kernel_rfl) ?hqT10_3 ?hyT10_3 (by assumption) ?restT10_3
              case hiT10_3 => (simp only [List.getElem?_toArray, List.getElem?_cons_zero, List.getElem?_cons_succ]; rfl)
              case hqT10_3 => exact fun _ _ _ h => h
              case hyT10_3 => (refine Or.inl ⟨rfl, ?_⟩; intro w hSw; (try dsimp only at hSw); go_split_ands; (first | (go_simp; done) | (go_simp; with_reducible rfl)))
              simp only [Act.put, List.setIfInBounds_toArray, List.set_cons_zero, List.set_cons_succ]
              refine AnyT.take (i := 4) (oi := ?oT10_4) (v := ?vT10_4) ?hiT10_4 (by kernel_rfl) (by kernel_rfl) (by kernel_rfl) (by kernel_rfl) ?hqT10_4 ?hyT10_4 (by assumption) ?restT10_4
              case hiT10_4 => (simp only [List.getElem?_toArray, List.getElem?_cons_zero, List.getElem?_cons_succ]; rfl)
              case hqT10_4 => exact fun _ _ _ h => h
              case hyT10_4 => (refine Or.inl ⟨rfl, ?_⟩; intro w hSw; (try dsimp only at hSw); go_split_ands; (first | (go_simp; done) | (go_simp; with_reducible rfl)))
              simp only [Act.put, List.setIfInBounds_toArray, List.set_cons_zero, List.set_cons_succ]
              refine AnyT.take (i := 6) (oi := ?oT10_6) (v := ?vT10_6) ?hiT10_6 (by kernel_rfl) (by kernel_rfl) (by kernel_rfl) (by kernel_rfl) ?hqT10_6 ?hyT10_6 (by assumption) ?restT10_6
              case hiT10_6 => (simp only [List.getElem?_toArray, List.getElem?_cons_zero, List.getElem?_cons_succ]; rfl)
              case hqT10_6 => exact fun _ _ _ h => h
              case hyT10_6 => (refine Or.inl ⟨rfl, ?_⟩; intro w hSw; (try dsimp only at hSw); go_split_ands; (first | (go_simp; done) | (go_simp; with_reducible rfl)))
              simp only [Act.put, List.setIfInBounds_toArray, List.set_cons_zero, List.set_cons_succ]
              refine AnyT.take (i := 7) (oi := ?oT10_7) (v := ?vT10_7) ?hiT10_7 (by kernel_rfl) (by kernel_rfl) (by kernel_rfl) (by kernel_rfl) ?hqT10_7 ?hyT10_7 (by assumption) ?restT10_7
              case hiT10_7 => (simp only [List.getElem?_toArray, List.getElem?_cons_zero, List.getElem?_cons_succ]; rfl)
              case hqT10_7 => exact fun _ _ _ h => h
              case hyT10_7 => (refine Or.inl ⟨rfl, ?_⟩; intro w hSw; (try dsimp only at hSw); go_split_ands; (first | (go_simp; done) | (go_simp; with_reducible rfl)))
              simp only [Act.put, List.setIfInBounds_toArray, List.set_cons_zero, List.set_cons_succ]
              refine AnyT.one (i := 2) (o := ?oT10_2) (by kernel_rfl) ?hiT10_2 (fun K hK => ?restT10_2)
              case hiT10_2 => (simp only [List.getElem?_toArray, List.getElem?_cons_zero, List.getElem?_cons_succ]; rfl)
              go_simp
              go_at_call 80; refine (uri_any _ _ _ _ _ _ _ _).mono ?_; rintro e wT101 ⟨rfl, hb⟩
              have hbwT101 : Below W3.heap.size W3 wT101 := SB.below0 hb hHeldT100
              have hHeldT101 : (∀ b o, b < W3.heap.size → wT101.cell? ⟨b, o, none⟩ = W3.cell? ⟨b, o, none⟩) ∧ W3.heap.size ≤ wT101.heap.size ∧ Below (W3.heap.size) W3 wT101 := SB.of (Nat.le_trans hHeldT100.2.1 hb.size) hbwT101
              clear hb hHeldT100
              go_wp2_with fail
              refine hK.out _ _ (fun _ => hHeldT101) (fun _ => ?_)
              clear hK K
              refine AnyT.one (i := 5) (o := ?oT10_5) (by kernel_rfl) ?hiT10_5 (fun K hK => ?restT10_5)
              case hiT10_5 => (simp only [List.getElem?_toArray, List.getElem?_cons_zero, List.getElem?_cons_succ]; rfl)
              go_simp
              go_at_call 38; refine (start_any _ _ _ _ _ _ _ _).mono ?_; rintro e wT102 ⟨rfl, hb⟩
              have hbwT102 : Below W3.heap.size W3 wT102 := hbwT101.trans (hb.mono hHeldT101.2.1)
              have hHeldT102 : (∀ b o, b < W3.heap.size → wT102.cell? ⟨b, o, none⟩ = W3.cell? ⟨b, o, none⟩) ∧ W3.heap.size ≤ wT102.heap.size ∧ Below (W3.heap.size) W3 wT102 := SB.of (Nat.le_trans hHeldT101.2.1 hb.size) hbwT102
              clear hb hHeldT101
              go_wp2_with fail
              refine hK.out _ _ (fun _ => hHeldT102) (fun _ => ?_)
              clear hK K
              refine AnyT.one (i := 8) (o := ?oT10_8) (by kernel_rfl) ?hiT10_8 (fun K hK => ?restT10_8)
              case hiT10_8 => (simp only [List.getElem?_toArray, List.getElem?_cons_zero, List.getElem?_cons_succ]; rfl)
              go_simp
              go_at_call 39; refine (end_any _ _ _ _ _ _ _ _).mono ?_; rintro e wT103 ⟨rfl, hb⟩
              have hbwT103 : Below W3.heap.size W3 wT103 := hbwT102.trans (hb.mono hHeldT102.2.1)
              have hHeldT103 : (∀ b o, b < W3.heap.size → wT103.cell? ⟨b, o, none⟩ = W3.cell? ⟨b, o, none⟩) ∧ W3.heap.size ≤ wT103.heap.size ∧ Below (W3.heap.size) W3 wT103 := SB.of (Nat.le_trans hHeldT102.2.1 hb.size) hbwT103
              clear hb hHeldT102
              go_wp2_with fail
              refine hK.out _ _ (fun _ => hHeldT103) (fun _ => ?_)
              clear hK K
              refine AnyT.one (i := 9) (o := ?oT10_9) (by kernel_rfl) ?hiT10_9 (fun K hK => ?restT10_9)
              case hiT10_9 => (simp only [List.getElem?_toArray, List.getElem?_cons_zero, List.getElem?_cons_succ]; rfl)
              go_simp
              go_at_call 42; (with_reducible refine (hnw.out _).mono ?_); rintro e wT104 ⟨rfl, hb⟩
              have hbwT104 : Below W3.heap.size W3 wT104 := hbwT103.trans (hb.mono hHeldT103.2.1)
              have hHeldT104 : (∀ b o, b < W3.heap.size → wT104.cell? ⟨b, o, none⟩ = W3.cell? ⟨b, o, none⟩) ∧ W3.heap.size ≤ wT104.heap.size ∧ Below (W3.heap.size) W3 wT104 := SB.of (Nat.le_trans hHeldT103.2.1 hb.size) hbwT104
              clear hb hHeldT103
              go_wp2_with fail
              refine hK.out _ _ (fun _ => hHeldT104) (fun _ => ?_)
              clear hK K
              refine AnyT.take (i := 10) (oi := ?oT10_10) (v := ?vT10_10) ?hiT10_10 (by kernel_rfl) (by kernel_rfl) (by kernel_rfl) (by kernel_rfl) ?hqT10_10 ?hyT10_10 (by assumption) ?restT10_10
              case hiT10_10 => (simp only [List.getElem?_toArray, List.getElem?_cons_zero, List.getElem?_cons_succ]; rfl)
              case hqT10_10 => exact fun _ _ _ h => h
              case hyT10_10 => (refine Or.inl ⟨rfl, ?_⟩; intro w hSw; (try dsimp only at hSw); go_split_ands; (first | (go_simp; done) | (go_simp; with_reducible rfl)))
              simp only [Act.put, List.setIfInBounds_toArray, List.set_cons_zero, List.set_cons_succ]
              have kZ := kC4.kept hbwT104; have z8 := kZ.eight; have y0 := kZ.frozen 0; have y1 := kZ.frozen 1; have y2 := kZ.frozen 2; have y3 := kZ.frozen 3; have y4 := kZ.frozen 4; have y5 := kZ.frozen 5; have y6 := kZ.frozen 6
              refine AnyT.one (i := 11) (o := ?oT10_11) (by kernel_rfl) ?hiT10_11 (fun K hK => ?restT10_11)
              case hiT10_11 => (simp only [List.getElem?_toArray, List.getElem?_cons_zero, List.getElem?_cons_succ]; rfl)
              go_wp2_with fail
              refine hK.out _ _ (fun h => absurd rfl h) (fun _ => ?_)
              clear hK K
              refine AnyT.done (by kernel_rfl) ?_ _
              go_upto_region 12 with fail
              refine wp_gen ?_
              intro W4 hW4
              have hR5 : Hid (if k + 1 = 0 then LRel w W4 s cb [] edNone (.slice A1 done.length c1) else LRel w W4 s cb (runC s (es.take (k + 1))).1 (edC s (runC s (es.take (k + 1))).2) (.slice A1 done.length c1)) := hide (by
                rw [if_neg (by omega), HSt.out, hW4]
                exact HR4.out.cur (grown7 (by assumption)) (aePut7 kZ))
              clear hW4 HR4 kC4 bE4 fC4 fE4 kZ z8 y0 y1 y2 y3 y4 y5 y6
              go_wp2
              go_roundw
              case rel => exact ⟨k + 1, by go_num, by omega, hR5⟩
              case measure => simp [intOf]; omega
        · have HSt : Hid (runC s (es.take (k + 1)) = (done ++ [closeC s c], e)) := hide (by rw [hst]; unfold stepC; rw [if_neg hm])
          clear hst
          have hdec : decide (PL s e.a ≤ PL s c.b) = false := by simpa using hm
          go_cut [36] (fun s36 wx => s36 = .bool false ∧ Below W.heap.size W wx)
          case first =>
            refine wp_region_held_drew (S := fun wS => (∀ b o, b < W.heap.size → wS.cell? ⟨b, o, none⟩ = W.cell? ⟨b, o, none⟩) ∧ W.heap.size ≤ wS.heap.size ∧ Below (W.heap.size) W wS) (by kernel_rfl) (by with_reducible exact SB.start (by omega)) (fun hHeldH110 => ?_)
            refine wpAnyH_take (i := 0) (oi := ?oH11_0) (v := ?vH11_0) ?hiH11_0 (by kernel_rfl) (by kernel_rfl) (by kernel_rfl) ?hqH11_0 ?hyH11_0 (by assumption) ?restH11_0
            case hiH11_0 => (simp only [List.getElem?_toArray, List.getElem?_cons_zero, List.getElem?_cons_succ]; rfl)
            case hqH11_0 => exact fun _ _ _ h => h
            case hyH11_0 => (refine Or.inl ⟨rfl, ?_⟩; intro w hSw; (try dsimp only at hSw); go_split_ands; (first | (go_simp; done) | (go_simp; with_reducible rfl)))
            simp only [Act.put, List.setIfInBounds_toArray, List.set_cons_zero, List.set_cons_succ]
            refine wpAnyH_take (i := 1) (oi := ?oH11_1) (v := ?vH11_1) ?hiH11_1 (by kernel_rfl) (by kernel_rfl) (by kernel_rfl) ?hqH11_1 ?hyH11_1 (by assumption) ?restH11_1
            case hiH11_1 => (simp only [List.getElem?_toArray, List.getElem?_cons_zero, List.getElem?_cons_succ]; rfl)
            case hqH11_1 => exact fun _ _ _ h => h
            case hyH11_1 => (refine Or.inl ⟨rfl, ?_⟩; intro w hSw; (try dsimp only at hSw); go_split_ands; (first | (go_simp; done) | (go_simp; with_reducible rfl)))
            simp only [Act.put, List.setIfInBounds_toArray, List.set_cons_zero, List.set_cons_succ]
            refine anyH_one (i := 2) (o := ?oH11_2) (by kernel_rfl) ?hiH11_2 (fun K hK => ?restH11_2)
            case hiH11_2 => (simp only [List.getElem?_toArray, List.getElem?_cons_zero, List.getElem?_cons_succ]; rfl)
            go_simp
            go_at_call 79; refine (isValid_any _ _ _ _ _ _ _ _).mono ?_; rintro e wH111 ⟨rfl, hb⟩; rw [ht0]
            have hbwH111 : Below W.heap.size W wH111 := SB.below0 hb hHeldH110
            have hHeldH111 : (∀ b o, b < W.heap.size → wH111.cell? ⟨b, o, none⟩ = W.cell? ⟨b, o, none⟩) ∧ W.heap.size ≤ wH111.heap.size ∧ Below (W.heap.size) W wH111 := SB.of (Nat.le_trans hHeldH110.2.1 hb.size) hbwH111
            clear hb hHeldH110
            go_wp2_with fail
            refine hK.out _ _ hHeldH111 (fun _ => ?_)
            clear hK K
            refine wpAnyH_take (i := 3) (oi := ?oH11_3) (v := ?vH11_3) ?hiH11_3 (by kernel_rfl) (by kernel_rfl) (by kernel_rfl) ?hqH11_3 ?hyH11_3 (by assumption) ?restH11_3
            case hiH11_3 => (simp only [List.getElem?_toArray, List.getElem?_cons_zero, List.getElem?_cons_succ]; rfl)
            case hqH11_3 => exact fun _ _ _ h => h
            case hyH11_3 => (refine Or.inl ⟨rfl, ?_⟩; intro w hSw; (try dsimp only at hSw); go_split_ands; (first | (go_simp; done) | (go_simp; with_reducible rfl)))
            simp only [Act.put, List.setIfInBounds_toArray, List.set_cons_zero, List.set_cons_succ]
            refine wpAnyH_take (i := 4) (oi := ?oH11_4) (v := ?vH11_4) ?hiH11_4 (by kernel_rfl) (by kernel_rfl) (by kernel_rfl) ?hqH11_4 ?hyH11_4 (by assumption) ?restH11_4
            case hiH11_4 => (simp only [List.getElem?_toArray, List.getElem?_cons_zero, List.getElem?_cons_succ]; rfl)
            case hqH11_4 => exact fun _ _ _ h => h
            case hyH11_4 => (refine Or.inl ⟨rfl, ?_⟩; intro w hSw; (try dsimp only at hSw); go_split_ands; (first | (go_simp; done) | (go_simp; with_reducible rfl)))
            simp only [Act.put, List.setIfInBounds_toArray, List.set_cons_zero, List.set_cons_succ]
            refine wpAnyH_take (i := 5) (oi := ?oH11_5) (v := ?vH11_5) ?hiH11_5 (by kernel_rfl) (by kernel_rfl) (by kernel_rfl) ?hqH11_5 ?hyH11_5 (by assumption) ?restH11_5
            case hiH11_5 => (simp only [List.getElem?_toArray, List.getElem?_cons_zero, List.getElem?_cons_succ]; rfl)
            case hqH11_5 => exact fun _ _ _ h => h
            case hyH11_5 => (refine Or.inl ⟨rfl, ?_⟩; intro w hSw; (try dsimp only at hSw); go_split_ands; (first | (go_simp; done) | (go_simp; with_reducible rfl)))
            simp only [Act.put, List.setIfInBounds_toArray, List.set_cons_zero, List.set_cons_succ]
            refine wpAnyH_take (i := 8) (oi := ?oH11_8) (v := ?vH11_8) ?hiH11_8 (by kernel_rfl) (by kernel_rfl) (by kernel_rfl) ?hqH11_8 ?hyH11_8 (by assumption) ?restH11_8
            case hiH11_8 => (simp only [List.getElem?_toArray, List.getElem?_cons_zero, List.getElem?_cons_succ]; rfl)
            case hqH11_8 => exact fun _ _ _ h => h
            case hyH11_8 => (refine Or.inl ⟨rfl, ?_⟩; intro w hSw; (try dsimp only at hSw); go_split_ands; (first | (go_simp; done) | (go_simp; with_reducible rfl)))
            simp only [Act.put, List.setIfInBounds_toArray, List.set_cons_zero, List.set_cons_succ]
            refine wpAnyH_take (i := 9) (oi := ?oH11_9) (v := ?vH11_9) ?hiH11_9 (by kernel_rfl) (by kernel_rfl) (by kernel_rfl) ?hqH11_9 ?hyH11_9 (by assumption) ?restH11_9
            case hiH11_9 => (simp only [List.getElem?_toArray, List.getElem?_cons_zero, List.getElem?_cons_succ]; rfl)
            case hqH11_9 => exact fun _ _ _ h => h
            case hyH11_9 => (refine Or.inl ⟨rfl, ?_⟩; intro w hSw; (try dsimp only at hSw); go_split_ands; (first | (go_simp; done) | (go_simp; with_reducible rfl)))
            simp only [Act.put, List.setIfInBounds_toArray, List.set_cons_zero, List.set_cons_succ]
            refine anyH_one (i := 6) (o := ?oH11_6) (by kernel_rfl) ?hiH11_6 (fun K hK => ?restH11_6)
            case hiH11_6 => (simp only [List.getElem?_toArray, List.getElem?_cons_zero, List.getElem?_cons_succ]; rfl)
            go_simp
            go_at_call 38; refine (start_any _ _ _ _ _ _ _ _).mono ?_; rintro e wH112 ⟨rfl, hb⟩
            have hbwH112 : Below W.heap.size W wH112 := hbwH111.trans (hb.mono hHeldH111.2.1)
            have hHeldH112 : (∀ b o, b < W.heap.size → wH112.cell? ⟨b, o, none⟩ = W.cell? ⟨b, o, none⟩) ∧ W.heap.size ≤ wH112.heap.size ∧ Below (W.heap.size) W wH112 := SB.of (Nat.le_trans hHeldH111.2.1 hb.size) hbwH112
            clear hb hHeldH111
            go_wp2_with fail
            refine hK.out _ _ hHeldH112 (fun _ => ?_)
            clear hK K
            refine anyH_one (i := 7) (o := ?oH11_7) (by kernel_rfl) ?hiH11_7 (fun K hK => ?restH11_7)
            case hiH11_7 => (simp only [List.getElem?_toArray, List.getElem?_cons_zero, List.getElem?_cons_succ]; rfl)
            go_simp
            go_at_call 51; refine (pLine_any _ _ _ (by omega) _).mono ?_; rintro e wH113 ⟨rfl, hb⟩
            have hbwH113 : Below W.heap.size W wH113 := hbwH112.trans (hb.mono hHeldH112.2.1)
            have hHeldH113 : (∀ b o, b < W.heap.size → wH113.cell? ⟨b, o, none⟩ = W.cell? ⟨b, o, none⟩) ∧ W.heap.size ≤ wH113.heap.size ∧ Below (W.heap.size) W wH113 := SB.of (Nat.le_trans hHeldH112.2.1 hb.size) hbwH113
            clear hb hHeldH112
            go_wp2_with fail
            refine hK.out _ _ hHeldH113 (fun _ => ?_)
            clear hK K
            refine anyH_one (i := 10) (o := ?oH11_10) (by kernel_rfl) ?hiH11_10 (fun K hK => ?restH11_10)
            case hiH11_10 => (simp only [List.getElem?_toArray, List.getElem?_cons_zero, List.getElem?_cons_succ]; rfl)
            go_simp
            go_at_call 39; refine (end_any _ _ _ _ _ _ _ _).mono ?_; rintro e wH114 ⟨rfl, hb⟩
            have hbwH114 : Below W.heap.size W wH114 := hbwH113.trans (hb.mono hHeldH113.2.1)
            have hHeldH114 : (∀ b o, b < W.heap.size → wH114.cell? ⟨b, o, none⟩ = W.cell? ⟨b, o, none⟩) ∧ W.heap.size ≤ wH114.heap.size ∧ Below (W.heap.size) W wH114 := SB.of (Nat.le_trans hHeldH113.2.1 hb.size) hbwH114
            clear hb hHeldH113
            go_wp2_with fail
            refine hK.out _ _ hHeldH114 (fun _ => ?_)
            clear hK K
            refine anyH_one (i := 11) (o := ?oH11_11) (by kernel_rfl) ?hiH11_11 (fun K hK => ?restH11_11)
            case hiH11_11 => (simp only [List.getElem?_toArray, List.getElem?_cons_zero, List.getElem?_cons_succ]; rfl)
            go_simp
            go_at_call 51; refine (pLine_any _ _ _ (by omega) _).mono ?_; rintro e wH115 ⟨rfl, hb⟩
            have hbwH115 : Below W.heap.size W wH115 := hbwH114.trans (hb.mono hHeldH114.2.1)
            have hHeldH115 : (∀ b o, b < W.heap.size → wH115.cell? ⟨b, o, none⟩ = W.cell? ⟨b, o, none⟩) ∧ W.heap.size ≤ wH115.heap.size ∧ Below (W.heap.size) W wH115 := SB.of (Nat.le_trans hHeldH114.2.1 hb.size) hbwH115
            clear hb hHeldH114
            go_wp2_with fail
            refine hK.out _ _ hHeldH115 (fun _ => ?_)
            clear hK K
            refine wpAnyH_take (i := 12) (oi := ?oH11_12) (v := ?vH11_12) ?hiH11_12 (by kernel_rfl) (by kernel_rfl) (by kernel_rfl) ?hqH11_12 ?hyH11_12 (by assumption) ?restH11_12
            case hiH11_12 => (simp only [List.getElem?_toArray, List.getElem?_cons_zero, List.getElem?_cons_succ]; rfl)
            case hqH11_12 => exact fun _ _ _ h => h
            case hyH11_12 => (refine Or.inl ⟨rfl, ?_⟩; intro w hSw; (try dsimp only at hSw); go_split_ands; (first | (go_simp; done) | (go_simp; with_reducible rfl)))
            simp only [Act.put, List.setIfInBounds_toArray, List.set_cons_zero, List.set_cons_succ]
            refine wpAnyH_take (i := 13) (oi := ?oH11_13) (v := ?vH11_13) ?hiH11_13 (by kernel_rfl) (by kernel_rfl) (by kernel_rfl) ?hqH11_13 ?hyH11_13 (by assumption) ?restH11_13
            case hiH11_13 => (simp only [List.getElem?_toArray, List.getElem?_cons_zero, List.getElem?_cons_succ]; rfl)
            case hqH11_13 => exact fun _ _ _ h => h
            case hyH11_13 => (refine Or.inl ⟨rfl, ?_⟩; intro w hSw; (try dsimp only at hSw); go_split_ands; (first | (go_simp; done) | (go_simp; with_reducible rfl)))
            simp only [Act.put, List.setIfInBounds_toArray, List.set_cons_zero, List.set_cons_succ]
            refine wpAnyH_done (by kernel_rfl) ?_ _
            have hbZ : Below W.heap.size W wH115 := hbwH115
            clear hHeldH115 hbwH115
            go_wp2_with fail
            go_meet
            exact ⟨rfl, by assumption⟩
          case rest =>
            obtain ⟨rfl, hbx⟩ := hcut
            have HR2 := hide (HR.out.kept hbx)
            have kC2 := kC.kept hbx
            have bE2 := bE.kept hbx
            have fC2 := kC2.eight
            clear kC bE HR fC fE
            have hAdd : Hid (Calls Tryz.prog 81 #[.string s, .slice A1 done.length c1, .agg #[.string ⟨#[97]⟩, .int .i64 (PL s c.a), .int .i64 (PC s c.a), .int .i64 (c.a : Nat), .int .i64 (PL s c.b), .int .i64 (PC s c.b), .int .i64 (c.b : Nat), .string c.t]] wc (AdRes wc w.heap.size done.length (.slice A1 done.length c1) (rowsC s done) (edC s (closeC s c)))) := hide (by
              obtain ⟨A2, c2, e2, r2, r3, r4, r5, r6⟩ := HR2.out
              exact addEdit_ct s c A1 done.length c1 w.heap.size (rowsC s done) (by omega) hct (by omega) i1 hcs i5 wc r2 r6.size)
            go_wp2_with fail
            refine hAdd.out.mono ?_
            intro en w5 hres
            obtain ⟨g2, cp2, rfl, z1, z2, z3⟩ := hres
            have HR3 : Hid (LRel w w5 s cb (done ++ [closeC s c]) (edC s c) (.slice (some ⟨g2, 0, none⟩) (done.length + 1) cp2)) := hide (by
              obtain ⟨av', e1, e2⟩ := HR2.out.add ⟨g2, cp2, rfl, z1, z2, z3⟩
              injection e1 with e1
              subst e1
              exact e2)
            have hgne : (Value.slice A1 done.length c1).ownBlock ≠ some cb := by obtain ⟨_, _, _, _, r3, _⟩ := HR2.out; exact r3
            have hgE : some gE ≠ (Value.slice A1 done.length c1).ownBlock := fun h => by have := hE0 gE h.symm; omega
            have kC3 := kC2.grown z2 (fun h => hgne h.symm)
            have bE3 := bE2.grown z2 hgE
            have fE3 := bE3.eight
            have lC3 := kC3.lt
            have y0 := kC3.frozen 0
            have y1 := kC3.frozen 1
            have y2 := kC3.frozen 2
            have y3 := kC3.frozen 3
            have y4 := kC3.frozen 4
            have y5 := kC3.frozen 5
            have y6 := kC3.frozen 6
            have y7 := kC3.frozen 7
            have fC3 := kC3.eight
            have HGE := hide hE0
            clear hbx HR2 kC2 bE2 fC2 z1 z2 z3 hgne hgE hAdd
            go_upto_region 12 with fail
            refine wp_gen ?_
            intro W2 hW2
            have hR4 : Hid (if k + 1 = 0 then LRel w W2 s cb [] edNone (.slice (some ⟨g2, 0, none⟩) (done.length + 1) cp2) else LRel w W2 s cb (runC s (es.take (k + 1))).1 (edC s (runC s (es.take (k + 1))).2) (.slice (some ⟨g2, 0, none⟩) (done.length + 1) cp2)) := hide (by
              rw [if_neg (by omega), HSt.out, hW2]
              obtain ⟨q1, q2⟩ := sets8 (a' := .string ⟨#[97]⟩) (b' := .int .i64 (PL s e.a)) (c' := .int .i64 (PC s e.a)) (d' := .int .i64 (e.a : Nat)) (e' := .int .i64 (PL s e.b)) (f' := .int .i64 (PC s e.b)) (k' := .int .i64 (e.b : Nat)) (m' := .string e.t) (Below.refl _ w5) kC3
              exact HR3.out.cur q2 q1)
            clear hW2 HR3 kC3 bE3 fE3 fC3 y0 y1 y2 y3 y4 y5 y6 y7
            go_wp2
            go_roundw
            case rel => exact ⟨k + 1, by go_num, by omega, hR4⟩
            case measure => simp [intOf]; omega
    · obtain rfl : k = n := by omega
      have hk0 : ¬ k = 0 := by omega
      have hR := hr.out
      rw [if_neg hk0] at hR
      clear hr
      have hfull : fullC s es = (runC s es).1 ++ [closeC s (runC s es).2] := by unfold fullC; rw [if_neg (by have := HN.out; omega)]
      have htk : es.take k = es := by rw [← HN.out, List.take_length]
      rw [htk] at hR
      have HI := invC_all HAsc.out (fun e => by rw [e] at HN; have := HN.out; simp at this; omega)
      have HFull := hide hfull
      clear hfull htk
      generalize runC s es = st at *
      obtain ⟨done, c⟩ := st
      dsimp only at hR HFull
      obtain ⟨i1, i1e, i1s⟩ := HI.ab
      have i2 := HI.size
      have i3 := HI.len
      have i5 := HI.last HJ.out
      have i6 := HN.out
      dsimp only at i1 i1e i2 i3 i5
      have hdn : done.length ≤ 2000 := by omega
      have hmul := Nat.mul_le_mul hdn (show 2 * s.size ≤ 200000 by omega)
      have hct : c.t.size ≤ 1000000000 := by omega
      have hcs : c.b ≤ s.size := by omega
      obtain ⟨A1, c1, rfl, r2, r3, r4, r5, r6⟩ := hR
      have HR : Hid (LRel w wr s cb done (edC s c) (.slice A1 done.length c1)) := hide ⟨A1, c1, rfl, r2, r3, r4, r5, r6⟩
      have kC : Blk wr cb 89 #[.string ⟨#[97]⟩, .int .i64 (PL s c.a), .int .i64 (PC s c.a), .int .i64 (c.a : Nat), .int .i64 (PL s c.b), .int .i64 (PC s c.b), .int .i64 (c.b : Nat), .string c.t] := r4
      have lC := kC.lt
      have fC := kC.eight
      clear kC r2 r3 r4 r5 r6 i2 i3 i1e i1s hmul HI i6 HA
      have hAdd : Hid (Calls Tryz.prog 81 #[.string s, .slice A1 done.length c1, .agg #[.string ⟨#[97]⟩, .int .i64 (PL s c.a), .int .i64 (PC s c.a), .int .i64 (c.a : Nat), .int .i64 (PL s c.b), .int .i64 (PC s c.b), .int .i64 (c.b : Nat), .string c.t]] wr (AdRes wr w.heap.size done.length (.slice A1 done.length c1) (rowsC s done) (edC s (closeC s c)))) := hide (by
        obtain ⟨A2, c2, e2, r2, r3, r4, r5, r6⟩ := HR.out
        exact addEdit_ct s c A1 done.length c1 w.heap.size (rowsC s done) (by omega) hct (by omega) i1 hcs i5 wr r2 r6.size)
      clear i5
      go_wp2_with fail
      refine hAdd.out.mono ?_
      intro en w5 hres
      obtain ⟨g2, cp2, rfl, z1, z2, z3⟩ := hres
      have HF : Hid (LinRes w s (fullC s es) (.returned (.slice (some ⟨g2, 0, none⟩) (done.length + 1) cp2)) w5) := hide (by
        obtain ⟨av', e1, e2⟩ := HR.out.add ⟨g2, cp2, rfl, z1, z2, z3⟩
        injection e1 with e1
        subst e1
        rw [HFull.out]
        exact e2.fin)
      clear z1 z2 z3 HR hAdd fC
      go_wp2
      go_ret
      exact HF.out
end Go.Proofs.YtgegialfhkgggaaGreatDoor
