/- Walks and plain laws: hunks as plain data. No condition but sizes. -/
import Derived.Test.YtgegialfhkgggaaGreatDoorPn
import Derived.Test.YtgegialfhkgggaaGreatDoorPm
import Derived.Test.YtgegialfhkgggaaGreatDoorShelf
import Derived.Test.YtgegialfhkgggaaGreatDoorFnSplitM
import Derived.Test.YtgegialfhkgggaaGreatDoorToUniM
import Derived.BigRegion
set_option linter.unusedVariables false
set_option linter.unusedSimpArgs false
namespace Go.Proofs.YtgegialfhkgggaaGreatDoor
open Go.RowKit Go.Proofs.YtgegialfhkgggaaGreatDoor.Lines
attribute [local go_sem ↓] Go.wp_at_zero Go.wp_at_succ

/-- The hunks as plain data, to be read. -/
def HksAt (w : World) (A : Option Addr) (hs : List (Hk.HK ByteArray)) : Prop := ∀ i (h : i < hs.length), ∃ b o L c, A = some ⟨b, o, none⟩ ∧ w.cell? ⟨b, o + i * 3, none⟩ = some (.int .i64 hs[i].f) ∧ w.cell? ⟨b, o + i * 3 + 1, none⟩ = some (.int .i64 hs[i].g) ∧
  w.cell? ⟨b, o + i * 3 + 2, none⟩ = some (.slice L hs[i].ls.length c) ∧ RowsAt w L 2 (hs[i].ls.map lnCells)
theorem HksAt.kept {w w1 : World} {A : Option Addr} {hs : List (Hk.HK ByteArray)} (h : HksAt w A hs) (hb : Below w.heap.size w w1) : HksAt w1 A hs := by
  intro i hi
  obtain ⟨b, o, L, c, e, h1, h2, h3, h4⟩ := h i hi
  exact ⟨b, o, L, c, e, kcell hb h1, kcell hb h2, kcell hb h3, h4.kept hb⟩

/-! Plain: a hunk's lines one by one. -/
theorem olds_take {α : Type} {ls : List (Nat × α)} {j : Nat} (h : j < ls.length) : Hk.olds (ls.take (j + 1)) = if ls[j].1 = 1 then Hk.olds (ls.take j) else Hk.olds (ls.take j) ++ [ls[j].2] := by
  rw [List.take_succ_eq_append_getElem h, Hk.olds_app]
  by_cases c : ls[j].1 = 1
  · rw [if_pos c]; simp [Hk.olds, c]
  · rw [if_neg c]; simp [Hk.olds, c]
theorem news_take {α : Type} {ls : List (Nat × α)} {j : Nat} (h : j < ls.length) : Hk.news (ls.take (j + 1)) = if ls[j].1 = 0 then Hk.news (ls.take j) else Hk.news (ls.take j) ++ [ls[j].2] := by
  rw [List.take_succ_eq_append_getElem h, Hk.news_app]
  by_cases c : ls[j].1 = 0
  · rw [if_pos c]; simp [Hk.news, c]
  · rw [if_neg c]; simp [Hk.news, c]
theorem olds_split {α : Type} (ls : List (Nat × α)) (j : Nat) : Hk.olds ls = Hk.olds (ls.take j) ++ Hk.olds (ls.drop j) := by rw [← Hk.olds_app, List.take_append_drop]
theorem news_split {α : Type} (ls : List (Nat × α)) (j : Nat) : Hk.news ls = Hk.news (ls.take j) ++ Hk.news (ls.drop j) := by rw [← Hk.news_app, List.take_append_drop]
theorem olds_at {α : Type} {A : List α} {ls : List (Nat × α)} {q j : Nat} (ho : Hk.olds ls = Hk.seg A q (q + (Hk.olds ls).length)) (hl : q + (Hk.olds ls).length ≤ A.length) (h : j < ls.length) (hk : ls[j].1 ≠ 1) :
    ∃ h2 : q + (Hk.olds (ls.take j)).length < A.length, A[q + (Hk.olds (ls.take j)).length] = ls[j].2 := by
  have h1 := olds_split ls (j + 1)
  rw [olds_take h, if_neg hk] at h1
  have hlen := congrArg List.length h1
  simp only [List.length_append, List.length_singleton] at hlen
  have h3 : (Hk.olds ls)[(Hk.olds (ls.take j)).length]? = some ls[j].2 := by
    rw [h1, List.append_assoc, List.getElem?_append_right (Nat.le_refl _)]; simp
  refine ⟨by omega, ?_⟩
  rw [ho] at h3
  unfold Hk.seg at h3
  rw [List.getElem?_take_of_lt (by omega), List.getElem?_drop, List.getElem?_eq_getElem (by omega)] at h3
  injection h3
theorem pst_mono {α : Type} (A : List α) (hs : List (Hk.HK α)) : ∀ k, k ≤ hs.length → (Hk.pst A (hs.take k)).1.length ≤ (Hk.pst A hs).1.length := by
  have key : ∀ (r : List (Hk.HK α)) (p : List α × Nat), p.1.length ≤ (r.foldl (Hk.pstep A) p).1.length := by
    intro r
    induction r with
    | nil => intro p; exact Nat.le_refl _
    | cons h r ih =>
      intro p
      refine Nat.le_trans ?_ (ih _)
      unfold Hk.pstep
      simp only [List.length_append]; omega
  intro k hk
  unfold Hk.pst
  conv => rhs; rw [← List.take_append_drop k hs, List.foldl_append]
  exact key _ _
theorem pst_next {α : Type} (A : List α) {hs : List (Hk.HK α)} {k : Nat} (h : k < hs.length) : Hk.pst A (hs.take (k + 1)) = Hk.pstep A (Hk.pst A (hs.take k)) hs[k] := by
  rw [List.take_succ_eq_append_getElem h, Hk.pst_snoc]
end Go.Proofs.YtgegialfhkgggaaGreatDoor
namespace Go.Proofs.YtgegialfhkgggaaGreatDoor
open Go.RowKit Go.Proofs.YtgegialfhkgggaaGreatDoor.Lines
attribute [local go_sem ↓] Go.wp_at_zero Go.wp_at_succ

theorem info_ihk : (Tryz.prog.info? 60).map (fun i => (i.zero, i.size, i.bytes)) = some (some (.agg #[.int .i64 0, .int .i64 0, .slice none 0 0]), 3, 40) := by kernel_rfl
theorem info_iln : (Tryz.prog.info? 65).map (fun i => (i.zero, i.size, i.bytes)) = some (some (.agg #[.int .i64 0, .string ⟨#[]⟩]), 2, 24) := by kernel_rfl
/-- Lines of a hunk as plain data, all below block B. -/
def LLow (w : World) (B : Nat) (ls : List (Nat × ByteArray)) (v : Value) : Prop := (∃ base, w.ownsRow base 65 2 v ls.length (lnRow ls)) ∧ ∀ k, v.ownBlock = some k → k < B
def hkRow (h : Hk.HK ByteArray) (v : Value) : List Value := [.int .i64 h.f, .int .i64 h.g, v]
/-- The hunks noted. -/
def IHs (w : World) (base B : Nat) (hs : List (Hk.HK ByteArray)) (av : Value) : Prop := ∃ A c, av = .slice A hs.length c ∧ ∃ vs : List Value, vs.length = hs.length ∧
  w.ownsRow base 60 3 av hs.length ((hs.zip vs).map (fun x => hkRow x.1 x.2)).flatten ∧ (∀ i (h1 : i < vs.length) (h2 : i < hs.length), LLow w B hs[i].ls vs[i])
theorem LLow.carry {w w' : World} {B B' : Nat} {ls : List (Nat × ByteArray)} {v : Value} (H : LLow w B ls v) (hB : B ≤ B') (hk : ∀ g cs, g < B → Blk w g 65 cs → Blk w' g 65 cs) : LLow w' B' ls v := by
  obtain ⟨⟨base, h1, h2⟩, h3⟩ := H
  refine ⟨⟨base, h1, ?_⟩, fun k hk => by have := h3 k hk; omega⟩
  rcases h2 with h | ⟨g, cap, cur, rfl, a1, a2, a3⟩
  · exact Or.inl h
  · exact Or.inr ⟨g, cap, cur, rfl, a1, hk g cur (h3 g rfl) a2, a3⟩
theorem IHs.kept {w w1 : World} {base B : Nat} {hs : List (Hk.HK ByteArray)} {av : Value} (H : IHs w base B hs av) (hb : Below w.heap.size w w1) : IHs w1 base B hs av := by
  obtain ⟨A, c, e, vs, h1, h2, h3⟩ := H
  exact ⟨A, c, e, vs, h1, own_kept h2 hb, fun i a b => (h3 i a b).carry (Nat.le_refl _) (fun g cs _ h => h.kept hb)⟩
/-- One hunk more. -/
theorem IHs.push {w w1 : World} {base B : Nat} {hs : List (Hk.HK ByteArray)} {h : Hk.HK ByteArray} {av v : Value} {g cap : Nat} {o : Obj} (H : IHs w base B hs av) (hB : B ≤ w.heap.size) (hv : ∃ b2, w.ownsRow b2 65 2 v h.ls.length (lnRow h.ls))
    (X : List Value) (hX : w.ownsRow base 60 3 av hs.length X) (hown1 : w1.ownsRow base 60 3 (.slice (some ⟨g, 0, none⟩) (hs.length + 1) cap) (hs.length + 1) (X ++ hkRow h v)) (hgr : (w.alloc o).grownBy w1 av.ownBlock) :
    IHs w1 base w1.heap.size (hs ++ [h]) (.slice (some ⟨g, 0, none⟩) (hs.length + 1) cap) := by
  obtain ⟨A, c, rfl, vs, h1, h2, h3⟩ := H
  have hsz := hgr.size
  simp only [World.size_alloc] at hsz
  have hXe : X = ((hs.zip vs).map (fun x => hkRow x.1 x.2)).flatten := by
    rcases h2.2 with ⟨e1, e2⟩ | ⟨g1, c1, cur, e1, _, e3, _, _, _, e7⟩
    · have q1 := h2.1; have q2 := hX.1
      rw [e2] at q1 q2
      simp only [Nat.zero_mul] at q1 q2
      rw [List.length_eq_zero_iff.1 q1, List.length_eq_zero_iff.1 q2]
    · rcases hX.2 with ⟨f1, f2⟩ | ⟨g2, c2, cur2, f1, _, f3, _, _, _, f7⟩
      · have q1 := h2.1; have q2 := hX.1
        rw [f2] at q1 q2
        simp only [Nat.zero_mul] at q1 q2
        rw [List.length_eq_zero_iff.1 q1, List.length_eq_zero_iff.1 q2]
      · rw [e1] at f1
        injection f1 with f1
        injection f1 with f1
        injection f1 with f1
        subst f1
        rw [e3] at f3
        injection f3 with f3
        injection f3 with f3 _
        subst f3
        rw [← e7, ← f7]
  have keep : ∀ g cs, g < w.heap.size → Blk w g 65 cs → Blk w1 g 65 cs := fun k cs hk hb => by
    refine (hb.alloc o).grown hgr (fun e => ?_)
    rcases h2.2 with ⟨e1, _⟩ | ⟨g1, c1, cur, e1, _, e3, _⟩
    · rw [e1] at e; simp [Value.ownBlock] at e
    · rw [e1] at e
      simp [Value.ownBlock] at e
      subst e
      exact Blk.ne_ hb (show Blk w k 60 cur from e3) (by decide) rfl
  refine ⟨some ⟨g, 0, none⟩, cap, by rw [List.length_append]; rfl, vs ++ [v], by simp [h1], ?_, fun i a b => ?_⟩
  · rw [List.length_append, List.length_singleton, List.zip_append (by omega), List.map_append, List.flatten_append]
    rw [hXe] at hown1
    simpa using hown1
  · rw [List.length_append, List.length_singleton] at a b
    by_cases e : i < vs.length
    · rw [List.getElem_append_left e, List.getElem_append_left (by omega)]
      exact (h3 i e (by omega)).carry (by omega) (fun g cs hg hb => keep g cs (by omega) hb)
    · have e1 : i = vs.length := by omega
      subst e1
      rw [List.getElem_append_right (Nat.le_refl _), List.getElem_append_right (by omega)]
      simp only [Nat.sub_self, h1, List.getElem_singleton]
      obtain ⟨b2, hv2⟩ := hv
      have : LLow w w.heap.size h.ls v := ⟨⟨b2, hv2⟩, fun k hk => (hv2.lt k hk).2⟩
      exact this.carry (by omega) keep
/-- ToUnified of edits, maybe none. -/
theorem toUni_all (nf nt s : ByteArray) (es : List Ct) (p : Nat) (f : Nat → Ed) (A : Option Addr) (cA : Nat) (hs : s.size ≤ 100000) (hasc : AscC s.size es p) (hj : Joined s es p) (hn : es.length ≤ 2000) (hsum : sumT es ≤ 100000000) (hP : PrepC s es f) (w : World)
    (hA : RowsF w A es.length f) : Calls Tryz.prog 25 #[.string nf, .string nt, .string s, .slice A es.length cA] w (UniRes w nf nt (HKs s (fullOf s es))) := by
  by_cases h0 : es.length = 0
  · have he : es = [] := List.length_eq_zero_iff.1 h0
    subst he
    have e1 : HKs s (fullOf s []) = [] := by
      have : fullOf s [] = [] := by unfold fullOf; simp [fullC]
      rw [this]; rfl
    rw [e1]
    exact toUni_zero nf nt s A cA w
  · exact toUni_any nf nt s es p f A cA hs hasc hj (by omega) hn hsum hP w hA
theorem cell_ne {w : World} {b0 b o : Nat} {t : TypeId} {x : Value} (h0 : Blk w b0 t #[]) (h : w.cell? ⟨b, o, none⟩ = some x) : b ≠ b0 := by
  rintro rfl
  rw [h0.cell] at h
  simp at h
theorem HRead.fr {w2 wr : World} {b0 q : Nat} {t : TypeId} {h : Hk.HK ByteArray} (H : HRead w2 q h) (h0 : Blk w2 b0 t #[]) (hg : w2.grownBy wr (some b0)) : HRead wr q h := by
  obtain ⟨A, c, h1, h2⟩ := H
  refine ⟨A, c, h1.grown hg ?_, fun i j hi hj => ?_⟩
  · have := cell_ne h0 (show w2.cell? ⟨q, 0, none⟩ = some (.int .i64 h.f) from h1.cell 0)
    simpa using this
  · obtain ⟨b, o, e, hc⟩ := h2 i j hi hj
    exact ⟨b, o, e, World.grownBy.cell hg hc (by simpa using cell_ne h0 hc)⟩
/-- The hunk that is made, in block gx. -/
def XRel (w wr : World) (gx : Nat) (h : Hk.HK ByteArray) (j : Nat) : Prop := ∃ v, Blk wr gx 60 #[.int .i64 h.f, .int .i64 h.g, v] ∧ wr.ownsRow (gx + 1) 65 2 v j (lnRow (h.ls.take j)) ∧ Below gx w wr
theorem XRel.push {w wr w0 w1 : World} {gx : Nat} {h : Hk.HK ByteArray} {j : Nat} {v : Value} {x : Nat × ByteArray} {g cap : Nat} {o : Obj} (hb : Blk wr gx 60 #[.int .i64 h.f, .int .i64 h.g, v]) (ho : wr.ownsRow (gx + 1) 65 2 v j (lnRow (h.ls.take j))) (hbl : Below gx w wr)
    (hj : j < h.ls.length) (hx : h.ls[j] = x) (hw0 : Below wr.heap.size wr w0) (hown : w1.ownsRow (gx + 1) 65 2 (.slice (some ⟨g, 0, none⟩) (j + 1) cap) (j + 1) (lnRow (h.ls.take j) ++ lnCells x)) (hgr : (w0.alloc o).grownBy w1 v.ownBlock) :
    XRel w (w1.setCell ⟨gx, 2, none⟩ (.slice (some ⟨g, 0, none⟩) (j + 1) cap)) gx h (j + 1) := by
  have hge := own_ge ho
  have hg : gx + 1 ≤ g := own_ge hown g rfl
  have hgl := hb.lt
  have hb0 := hb.kept hw0
  have hsz0 := hw0.size
  have hsz := hgr.size
  simp only [World.size_alloc] at hsz
  have hb1 : Blk w1 gx 60 #[.int .i64 h.f, .int .i64 h.g, v] := (hb0.alloc o).grown hgr (fun e => by have := hge gx e.symm; omega)
  refine ⟨_, hb1.set_ 2 _, ?_, ?_⟩
  · rw [List.take_succ_eq_append_getElem hj, lnRow_app, hx]
    have e : lnRow [x] = lnCells x := by simp [lnRow]
    rw [e]
    refine hown.kept (row := some gx) ⟨rfl, rfl, rfl, by simp [World.setCell], fun k hk hne => Below.heap_setCell w1 _ _ k (fun e => hne (by rw [e]))⟩ (Or.inr ?_)
    simp [Value.ownBlock]; omega
  · have b1 : Below gx wr w1 := (hw0.mono (Nat.le_of_lt hgl)).trans (below_grown_alloc (Below.refl gx w0) (by omega) hgr (fun k hk => by have := hge k hk; omega))
    exact (hbl.trans b1).setCell (p := ⟨gx, 2, none⟩) (Nat.le_refl gx) _
theorem IHs.low {w w1 : World} {base B G : Nat} {hs : List (Hk.HK ByteArray)} {av : Value} (H : IHs w base B hs av) (hB : B ≤ G) (hav : ∀ k, av.ownBlock = some k → k < G) (hb : Below G w w1) : IHs w1 base B hs av := by
  obtain ⟨A, c, e, vs, h1, ⟨h2, h2'⟩, h3⟩ := H
  refine ⟨A, c, e, vs, h1, ⟨h2, ?_⟩, fun i a b => (h3 i a b).carry (Nat.le_refl _) (fun g cs hg h => h.below hb (by omega))⟩
  rcases h2' with h | ⟨g, cap, cur, rfl, a1, a2, a3⟩
  · exact Or.inl h
  · exact Or.inr ⟨g, cap, cur, rfl, a1, Blk.below (t := 60) a2 hb (hav g rfl), a3⟩
theorem IHs.at_ {w : World} {base B : Nat} {hs : List (Hk.HK ByteArray)} {A : Option Addr} {n c : Nat} (H : IHs w base B hs (.slice A n c)) : HksAt w A hs := by
  obtain ⟨A', c', e, vs, h1, h2, h3⟩ := H
  injection e with e1 e2 e3
  subst e1; subst e2; subst e3
  have hl : (hs.zip vs).length = hs.length := by rw [List.length_zip]; omega
  have hR : RowsAt w A 3 ((hs.zip vs).map (fun x => hkRow x.1 x.2)) := by
    refine own_rows (base := base) (c := c) (t := 60) (by rw [List.length_map, hl]; exact h2) (fun r hr => ?_)
    obtain ⟨x, _, rfl⟩ := List.mem_map.1 hr; rfl
  intro i hi
  have hi2 : i < ((hs.zip vs).map (fun x => hkRow x.1 x.2)).length := by rw [List.length_map, hl]; exact hi
  have hrow : ((hs.zip vs).map (fun x => hkRow x.1 x.2)).getD i [] = hkRow hs[i] (vs[i]'(by omega)) := by
    rw [List.getD_eq_getElem?_getD, List.getElem?_eq_getElem hi2]
    simp
  obtain ⟨b, o, e, c0⟩ := hR i 0 hi2 (by omega)
  obtain ⟨b1, o1, f1, c1⟩ := hR i 1 hi2 (by omega)
  obtain ⟨b2, o2, f2, c2⟩ := hR i 2 hi2 (by omega)
  rw [e] at f1 f2
  injection f1 with f1
  injection f1 with g1 g2
  injection f2 with f2
  injection f2 with k1 k2
  subst g1; subst g2; subst k1; subst k2
  rw [hrow] at c0 c1 c2
  obtain ⟨⟨bs, hv⟩, _⟩ := h3 i (by omega) hi
  have hvs : ∃ L c, vs[i]'(by omega) = .slice L hs[i].ls.length c ∧ RowsAt w L 2 (hs[i].ls.map lnCells) := by
    rcases hv.2 with ⟨e1, e2⟩ | ⟨g, cap, cur, e1, _⟩
    · refine ⟨none, 0, by rw [e1, e2], ?_⟩
      intro i2 j2 q1; rw [List.length_map] at q1; omega
    · refine ⟨_, _, e1, ?_⟩
      rw [e1] at hv
      have he : (hs[i].ls.map lnCells).length = hs[i].ls.length := by simp
      refine own_rows (base := bs) (c := cap) (t := 65) (by rw [he]; exact hv) (fun r hr => ?_)
      obtain ⟨x, _, rfl⟩ := List.mem_map.1 hr; rfl
  obtain ⟨L, cL, e1, e2⟩ := hvs
  refine ⟨b, o, L, cL, e, ?_, ?_, ?_, e2⟩
  · have : w.cell? ⟨b, o + (i * 3 + 0), none⟩ = some (.int .i64 hs[i].f) := c0
    simpa using this
  · have : w.cell? ⟨b, o + (i * 3 + 1), none⟩ = some (.int .i64 hs[i].g) := c1
    simpa [Nat.add_assoc] using this
  · have : w.cell? ⟨b, o + (i * 3 + 2), none⟩ = some (vs[i]'(by omega)) := c2
    rw [e1] at this
    simpa [Nat.add_assoc] using this
/-- What impl.Hunks leaves. -/
def IHRes (w : World) (hs : List (Hk.HK ByteArray)) (e : Ending) (w' : World) : Prop := ∃ A c, e = .returned (.slice A hs.length c) ∧ HksAt w' A hs ∧ Below w.heap.size w w'
/-- The relation of the outer loop. -/
def IRel (w2 wr : World) (b0 : Nat) (hs : List (Hk.HK ByteArray)) (av : Value) : Prop := w2.grownBy wr (some b0) ∧ IHs wr b0 wr.heap.size hs av ∧ ∀ k, av.ownBlock = some k → k = b0 ∨ w2.heap.size ≤ k
theorem IHs.mono {w : World} {base B B' : Nat} {hs : List (Hk.HK ByteArray)} {av : Value} (H : IHs w base B hs av) (hB : B ≤ B') : IHs w base B' hs av := by
  obtain ⟨A, c, e, vs, h1, h2, h3⟩ := H
  exact ⟨A, c, e, vs, h1, h2, fun i a b => (h3 i a b).carry hB (fun _ _ _ h => h)⟩
theorem grown_below {a w w1 : World} {b0 : Nat} (h : a.grownBy w (some b0)) (hb : Below w.heap.size w w1) : a.grownBy w1 (some b0) :=
  ⟨hb.os.trans h.os, hb.tape.trans h.tape, hb.output.trans h.output, Nat.le_trans h.size hb.size, fun k hk hne => by rw [hb.block k (Nat.lt_of_lt_of_le hk h.size)]; exact h.block k hk hne⟩

set_option maxHeartbeats 16000000 in
set_option maxRecDepth 100000 in
theorem iHunks_any (s : ByteArray) (Q : List Pe) (es : List Ct) (p : Nat) (A : Option Addr) (cA : Nat) (hs : s.size ≤ 100000) (hasc : AscC s.size es p) (hj : Joined s es p) (hn : es.length ≤ 2000) (hsum : sumT es ≤ 100000000) (hQ : Q.length = es.length) (hP : PrepC s es (edAt (Q.map toEd)))
    (hlen : ∀ h ∈ HKs s (fullOf s es), h.ls.length ≤ 1000000000) (hnh : (HKs s (fullOf s es)).length ≤ 1000000) (w : World) (hA : RowsAt w A 7 (Q.map peCells)) :
    Calls Tryz.prog 10 #[.string s, .slice A es.length cA] w (IHRes w (HKs s (fullOf s es))) := by
  obtain ⟨i0, hi0, hz0, hz1, hzb⟩ := info_parts info_iln
  obtain ⟨j0, hj0, hy0, hy1, hyb⟩ := info_parts info_ihk
  have HT := hide (fun W h => editsTo_any Q A cA (by omega) W h)
  have hUn := fun A c W h => toUni_all ⟨#[97]⟩ ⟨#[98]⟩ s es p _ A c hs hasc hj hn hsum hP W h
  have HR := hide hA
  have HLen := hide hlen
  have HF : Hid (∀ W A1, RowsAt W A1 8 ((Q.map toEd).map edCells) → RowsF W A1 es.length (edAt (Q.map toEd))) := hide (fun W A1 h => by
    have h2 := rowsF_of h
    rw [List.length_map, hQ] at h2
    exact h2)
  unfold EdsRes at HT
  rw [List.length_map, hQ] at HT
  have hfd : ∀ (w : World) (A : Option Addr) (n c : Nat), (Instr.field 52 (.agg #[.string ⟨#[97]⟩, .string ⟨#[98]⟩, .slice A n c]) 2).run Tryz.prog w = .ok (.slice A n c) w := fun _ _ _ _ => by kernel_rfl
  generalize HKs s (fullOf s es) = hks at *
  generalize es.length = n at *
  obtain ⟨m, hm⟩ : ∃ m, hks.length = m := ⟨_, rfl⟩
  have HU : Hid (∀ A c W, RowsF W A n (edAt (Q.map toEd)) → Calls Tryz.prog 25 #[.string ⟨#[97]⟩, .string ⟨#[98]⟩, .string s, .slice A n c] W (fun e w' => ∃ A2 c2, e = .returned (.agg #[.string ⟨#[97]⟩, .string ⟨#[98]⟩, .slice A2 m c2]) ∧
      (∀ i (h : i < hks.length), ∃ b o q, A2 = some ⟨b, o, none⟩ ∧ w'.cell? ⟨b, o + i, none⟩ = some (ptrV q) ∧ HRead w' q hks[i]) ∧ Below W.heap.size W w')) := hide (fun A c W h => (hUn A c W h).mono (by
    rintro e w' ⟨A2, c2, rfl, h1, h2⟩
    exact ⟨A2, c2, by rw [hm], h1, h2⟩))
  rw [hm] at hnh
  have HM := hide hm
  clear hA hasc hj hP hlen hQ hm hsum hUn
  go_enter Tryz.func10, Tryz.ntmps10
  go_wp2_with fail
  refine (HT.out _ (HR.out.kept (by go_grown))).mono ?_
  rintro e w1 ⟨A1, c1, rfl, _, hr1, hb1⟩
  have hR1 := hide (HF.out _ _ hr1)
  have k0 := (Blk.new w 60 #[]).kept hb1
  have hbl1 : Below w.heap.size w w1 := Below.trans (by go_grown) (hb1.mono (by simp))
  clear hr1 hb1 HT HR HF
  go_wp2_with fail
  refine (HU.out _ _ _ hR1.out).mono ?_
  rintro e w2 ⟨A2, c2, rfl, hread, hb2⟩
  have K0 := hide (k0.kept hb2)
  have hbl2 := hide (hbl1.trans (hb2.mono hbl1.size))
  have HRead := hide hread
  clear hread hb2 k0 hbl1 hR1 HU
  have H0 : Hid (IRel w2 w2 w.heap.size [] (.slice (some ⟨w.heap.size, 0, none⟩) 0 0)) := hide ⟨World.grownBy.refl _ _, ⟨_, 0, rfl, [], rfl, ⟨rfl, Or.inr ⟨w.heap.size, 0, #[], rfl, Nat.le_refl _, K0.out, Nat.le_refl _, by unfold maxLen; omega, rfl, rfl⟩⟩, fun i h => absurd h (by simp)⟩, fun k hk => Or.inl (by simpa [Value.ownBlock] using hk.symm)⟩
  go_wp2_with fail
  go_loopw [5, 18] (fun av jv wr => ∃ k : Nat, jv = .int .i64 k ∧ k ≤ m ∧ Hid (IRel w2 wr w.heap.size (hks.take k) av)) (fun _ jv _ => m - (intOf jv).toNat)
  case atStart => exact ⟨0, rfl, Nat.zero_le _, H0⟩
  case round =>
    obtain ⟨k, rfl, hk, hr⟩ := hrel
    clear H0
    by_cases hlt : k < m
    · have hlt2 : k < hks.length := by have := HM.out; omega
      obtain ⟨b, o, q, rfl, hcl, hrd⟩ := HRead.out k hlt2
      have hcl2 : wr.cell? ⟨b, o + k, none⟩ = some (ptrV q) := World.grownBy.cell hr.out.1 hcl (by simpa using cell_ne K0.out hcl)
      obtain ⟨L, cL, kQ, hrows⟩ := hrd.fr K0.out hr.out.1
      have hle := HLen.out _ (List.getElem_mem hlt2)
      have hnx : hks.take (k + 1) = hks.take k ++ [hks[k]] := List.take_succ_eq_append_getElem hlt2
      obtain ⟨h, hh⟩ : ∃ h, hks[k] = h := ⟨_, rfl⟩
      rw [hh] at kQ hrows hle hnx
      have HNx := hide hnx
      obtain ⟨hf, hg, ls⟩ := h
      dsimp only at kQ hrows hle
      have f3 := kQ.three
      have lQ := kQ.lt
      have KQ := hide kQ
      have HRows := hide hrows
      clear hcl hrd hlt2 hh hnx kQ hrows
      go_upto_region 5 with fail
      go_region
      obtain ⟨hfr, hih, hown0⟩ := hr.out
      have HOwn0 := hide hown0
      have hF4 : w2.heap.size ≤ wr.heap.size := hfr.size
      have HRB : Hid (∀ bl ol, L = some ⟨bl, ol, none⟩ → 0 < ls.length → bl < wr.heap.size) := hide (fun bl ol e1 h0 => by
        obtain ⟨b', o', e2, hc⟩ := HRows.out 0 0 (by simpa using h0) (by omega)
        rw [e1] at e2
        injection e2 with e2
        injection e2 with e2 _
        subst e2
        exact lt_of_cell hc)
      have hav : ∀ j, u5.ownBlock = some j → j < wr.heap.size := by
        obtain ⟨_, _, _, _, _, h, _⟩ := hih
        exact fun j hj => (h.lt j hj).2
      go_upto_region 6 with fail
      refine wp_gen ?_
      intro W3 hW3
      have hgr3 : wr.heap.size < W3.heap.size := by rw [hW3]; simp [World.drew]
      have hb3 : Below wr.heap.size wr W3 := by rw [hW3]; exact ((Below.refl _ _).alloc (Nat.le_refl _) _).drew
      have kX : Blk W3 wr.heap.size 60 #[.int .i64 hf, .int .i64 hg, .slice none 0 0] := by rw [hW3]; exact (Blk.new _ _ _).drew
      have X0 : Hid (XRel W3 W3 wr.heap.size ⟨hf, hg, ls⟩ 0) := hide ⟨_, kX, ⟨rfl, Or.inl ⟨rfl, rfl⟩⟩, Below.refl _ _⟩
      have I3 := hide (hih.low (Nat.le_refl _) hav hb3)
      have F3 := hide (grown_below hfr hb3)
      have KQ3 := hide (KQ.out.kept hb3)
      have fQ := KQ3.out.three
      have HRows3 := hide (HRows.out.kept hb3)
      have HAv := hide hav
      clear hW3 hb3 kX hfr hih hav hown0 hr KQ HRows f3 lQ hcl2
      generalize wr.heap.size = gx at *
      go_wp2_with fail
      go_loopw [36] (fun jv wr => ∃ j : Nat, jv = .int .i64 j ∧ j ≤ ls.length ∧ Hid (XRel W3 wr gx ⟨hf, hg, ls⟩ j)) (fun jv _ => ls.length - (intOf jv).toNat)
      case atStart => exact ⟨0, rfl, Nat.zero_le _, X0⟩
      case round =>
        obtain ⟨j, rfl, hj, hX⟩ := hrel
        clear X0
        obtain ⟨v, x1, x2, x3⟩ := hX.out
        have hll : gx < wr.heap.size := x1.lt
        have hB3 : Below gx W3 wr := x3
        by_cases hjl : j < ls.length
        · have hrw := HRows3.out
          have hjm : j < (ls.map lnCells).length := by simpa using hjl
          obtain ⟨bl, ol, rfl, d0⟩ := hrw j 0 hjm (by omega)
          obtain ⟨bl', ol', e1, d1⟩ := hrw j 1 hjm (by omega)
          injection e1 with e1
          injection e1 with e2 e3
          subst e2; subst e3
          have hv : (ls.map lnCells).getD j [] = lnCells ls[j] := by rw [List.getD_eq_getElem?_getD, List.getElem?_map, List.getElem?_eq_getElem hjl]; rfl
          rw [hv] at d0 d1
          obtain ⟨x, hx⟩ : ∃ x, ls[j] = x := ⟨_, rfl⟩
          rw [hx] at d0 d1
          obtain ⟨xk, xt⟩ := x
          simp only [lnCells, List.getD_cons_zero, List.getD_cons_succ, Nat.add_zero] at d0 d1
          have hblt : bl < gx := HRB.out bl ol rfl (by omega)
          have g0 : wr.cell? ⟨bl, ol + j * 2, none⟩ = some (.int .i64 xk) := (hB3.cell (p := ⟨bl, _, none⟩) hblt).trans d0
          have g1 : wr.cell? ⟨bl, ol + j * 2 + 1, none⟩ = some (.string xt) := (hB3.cell (p := ⟨bl, _, none⟩) hblt).trans d1
          have fX := x1.three
          have HPush : Hid (∀ (w0 w1 : World) (g cap : Nat) (o : Obj), Below wr.heap.size wr w0 → w1.ownsRow (gx + 1) 65 2 (.slice (some ⟨g, 0, none⟩) (j + 1) cap) (j + 1) (lnRow (ls.take j) ++ lnCells (xk, xt)) → (w0.alloc o).grownBy w1 v.ownBlock →
              XRel W3 (w1.setCell ⟨gx, 2, none⟩ (.slice (some ⟨g, 0, none⟩) (j + 1) cap)) gx ⟨hf, hg, ls⟩ (j + 1)) := hide (fun w0 w1 g cap o h1 h2 h3 => XRel.push (h := ⟨hf, hg, ls⟩) x1 x2 x3 hjl hx h1 h2 h3)
          have HY : Hid (∀ (w0 w1 : World) (o : Obj), Below wr.heap.size wr w0 → (w0.alloc o).grownBy w1 v.ownBlock → w1.cell? ⟨gx, 2, none⟩ = some v ∧ w1.frozen? ⟨gx, 2, none⟩ = false) := hide (fun w0 w1 o h1 h3 => by
            have := ((x1.kept h1).alloc o).grown h3 (fun e => by have := own_ge x2 gx e.symm; omega)
            exact ⟨this.cell 2, this.frozen 2⟩)
          have HOwn := hide x2
          dsimp only at HOwn
          generalize lnRow (ls.take j) = X at *
          clear hrw hv hx d0 d1 x1 x2 x3 hX hjm
          go_wp2_with (first
            | (at_builtin; refine wpList_append_lies _ rfl _ _ 58 rfl (gx + 1) 65 i0 _ 2 24 Tryz.underlying58 hi0 hz0 hz1 hzb rfl (by omega) v j X (by rfl) ((own_kept HOwn.out (by go_grown)).alloc _) ⟨wr.heap.size + 1, 0, none⟩ 1 1 (lnCells (xk, xt)) (by rfl) (by rfl) (World.news_of_block (cs := (lnCells (xk, xt)).toArray) (t := 65) (fr := (0, 0)) (Blk.newAt (by simp))) (by simp [Value.oneCell', lnCells]) (by omega) (by unfold maxLen; omega) (by omega) (by simp; omega) (wr.heap.size + 1 + 1) (by simp) ?_; intro g2 cap2 w5 hown1 hgrow hat hlt2; have hY := HY.out _ _ _ (by go_grown) hgrow))
          have HR := hide (HPush.out _ _ _ _ _ (by go_grown) hown1 hgrow)
          clear hown1 hgrow hY hat
          go_roundw
          case rel => exact ⟨j + 1, by go_num, by omega, HR⟩
          case measure => simp [intOf]; omega
        · obtain rfl : j = ls.length := by omega
          clear hjl
          have hI4 := I3.out.low (Nat.le_refl _) HAv.out hB3
          rw [List.take_of_length_le (Nat.le_refl _)] at x2
          obtain ⟨Aw, cw, e1, vs, y1, y2, y3⟩ := id hI4
          subst e1
          have hnk : (hks.take k).length ≤ 1000000 := by rw [List.length_take]; omega
          have HPush : Hid (∀ (w7 : World) (g cap : Nat) (o : Obj), w7.ownsRow w.heap.size 60 3 (.slice (some ⟨g, 0, none⟩) ((hks.take k).length + 1) cap) ((hks.take k).length + 1) (((List.zip (hks.take k) vs).map (fun x => hkRow x.1 x.2)).flatten ++ hkRow ⟨hf, hg, ls⟩ v) → (wr.alloc o).grownBy w7 (Value.slice Aw (hks.take k).length cw).ownBlock → ((Value.slice Aw (hks.take k).length cw).ownBlock = some g ∨ g = wr.heap.size + 1) →
              IRel w2 w7 w.heap.size (hks.take (k + 1)) (.slice (some ⟨g, 0, none⟩) ((hks.take k).length + 1) cap)) := hide (fun w7 g cap o h1 h2 h3 => by
            have hp := hI4.push (o := o) (h := ⟨hf, hg, ls⟩) (Nat.le_of_lt hll) ⟨_, x2⟩ _ y2 h1 h2
            rw [HNx.out]
            refine ⟨?_, hp, fun j hj => ?_⟩
            · have hs7 := h2.size
              simp only [World.size_alloc] at hs7
              refine ⟨h2.os.trans (hB3.os.trans F3.out.os), h2.tape.trans (hB3.tape.trans F3.out.tape), h2.output.trans (hB3.output.trans F3.out.output), by omega, fun j hj hne => ?_⟩
              rw [h2.block j (by simp; omega) (fun e1 => by
                rcases HOwn0.out j e1.symm with h | h
                · exact hne (by rw [h])
                · omega), Below.heap_alloc wr o j (by omega), hB3.block j (by omega)]
              exact F3.out.block j hj hne
            · simp [Value.ownBlock] at hj
              subst hj
              rcases h3 with h | h
              · exact HOwn0.out g h
              · right; omega)
          have HOwn := hide y2
          have fX := x1.three
          have hbw : w.heap.size ≤ wr.heap.size := by have := own_ge y2; have := hbl2.out.size; omega
          have hvo : v.oneCell' = true := by
            rcases x2.2 with ⟨e1, _⟩ | ⟨g, cap, cur, e1, _⟩ <;> rw [e1] <;> rfl
          clear x1 x2 x3 hX hI4 y1 y2 y3 I3 HAv
          generalize ((List.zip (hks.take k) vs).map (fun x => hkRow x.1 x.2)).flatten = X at *
          generalize (hks.take k).length = N at *
          go_wp2_with (first
            | (at_builtin; refine wpList_append_lies _ rfl _ _ 27 rfl w.heap.size 60 j0 _ 3 40 Tryz.underlying27 hj0 hy0 hy1 hyb rfl (by omega) (.slice Aw N cw) N X (by rfl) ((HOwn.out).alloc _) ⟨wr.heap.size, 0, none⟩ 1 1 (hkRow ⟨hf, hg, ls⟩ v) (by rfl) (by rfl) (World.news_of_block (cs := (hkRow ⟨hf, hg, ls⟩ v).toArray) (t := 60) (fr := (0, 0)) (heap_alloc_new wr _)) (by intro u hu; simp [hkRow] at hu; rcases hu with rfl | rfl | rfl <;> first | rfl | exact hvo) (by omega) (by unfold maxLen; omega) (by omega) (by simp; omega) (wr.heap.size + 1) (by simp) ?_; intro g2 cap2 w7 hown1 hgrow hat hlt2))
          have HR := hide (HPush.out _ _ _ _ hown1 hgrow hat)
          clear hown1 hgrow hat HPush
          go_roundw
          case rel => exact ⟨k + 1, by go_num, by omega, HR⟩
          case measure => simp [intOf]; omega
    · obtain rfl : k = m := by omega
      obtain ⟨hfr, hih, hown0⟩ := hr.out
      rw [List.take_of_length_le (by have := HM.out; omega)] at hih
      obtain ⟨Aw, cw, e1, vs, y1, y2, y3⟩ := id hih
      subst e1
      have HF : Hid (IHRes w hks (.returned (.slice Aw hks.length cw)) wr) := hide ⟨Aw, cw, rfl, hih.at_, hbl2.out.trans (SX.below hfr (Nat.le_refl _) hbl2.out.size)⟩
      clear hr hfr hih hown0 y1 y2 y3
      go_wp2
      go_ret
      exact HF.out
end Go.Proofs.YtgegialfhkgggaaGreatDoor
namespace Go.Proofs.YtgegialfhkgggaaGreatDoor
open Go.RowKit Stab Go.Proofs.YtgegialfhkgggaaGreatDoor.Lines Mye
attribute [local go_sem ↓] Go.wp_at_zero Go.wp_at_succ

/-- The hunks of a script. -/
def hksOf (s t : ByteArray) (ops : List Opn) : List (Hk.HK ByteArray) := HKs s (fullOf s (ops.map (ctOp s (linesB t))))
structure HkFacts (s t : ByteArray) (ops : List Opn) (hks : List (Hk.HK ByteArray)) : Prop where
  pat : Hk.PatOk (linesB s) hks
  text : flatB ((Hk.pst (linesB s) hks).1 ++ (linesB s).drop (Hk.pst (linesB s) hks).2) = t.data.toList
  good : ∀ h ∈ hks, (∀ x ∈ h.ls, x.1 ≤ 2) ∧ 1 ≤ h.f ∧ h.f ≤ 1000000000 ∧ 1 ≤ h.g ∧ h.g ≤ 1000000000 ∧ h.ls.length ≤ 1000000000
  both : s.size ≠ 0 → t.size ≠ 0 → ∀ h ∈ hks, 1 ≤ (Hk.olds h.ls).length ∧ 1 ≤ (Hk.news h.ls).length
  sum : (hks.map (fun h => Hk.chg h.ls)).sum = cost ops
  first : ops ≠ [] → ∃ h r, hks = h :: r ∧ h.f = h.g
  none_ : ops = [] → hks = []
  some_ : ∀ h ∈ hks, 1 ≤ Hk.chg h.ls
  len : hks.length ≤ ops.length
  out : (Hk.pst (linesB s) hks).1.length ≤ 1000000000
theorem pst_len {α : Type} (A : List α) : ∀ (hs : List (Hk.HK α)) (p : List α × Nat), p.1.length ≤ (hs.foldl (Hk.pstep A) p).1.length := by
  intro r
  induction r with
  | nil => intro p; exact Nat.le_refl _
  | cons h r ih =>
    intro p
    refine Nat.le_trans ?_ (ih _)
    unfold Hk.pstep
    simp only [List.length_append]; omega
theorem eap_len {α : Type} {A : List α} {es : List (Hk.LE α)} {p : Nat} (h : Hk.Asc A es p) : (Hk.eap A es).1.length ≤ p + Hk.putN es ∧ (Hk.eap A es).2 = p := by
  induction h with
  | nil => exact ⟨Nat.zero_le _, rfl⟩
  | @snoc es p e h1 h2 h3 h4 ih =>
    rw [Hk.eap_snoc, Hk.putN_snoc]
    refine ⟨?_, rfl⟩
    unfold Hk.eapS
    simp only [List.length_append, Hk.seg_len]
    omega
theorem hunks_len {α : Type} (A : List α) (es : List (Hk.LE α)) : (Hk.hunksS A es).length ≤ es.length := by
  unfold Hk.hunksS
  split
  · simp
  · unfold Hk.endS
    rw [List.length_append, List.length_singleton]
    cases es with
    | nil => rename_i h; exact absurd rfl h
    | cons e r =>
      have := fold_hs A r (Hk.st1 A e)
      have e1 : (Hk.st1 A e).hs.length = 0 := rfl
      show (r.foldl (Hk.stepS A) (Hk.st1 A e)).hs.length + 1 ≤ _
      rw [List.length_cons]; omega
/-- The same of whatever edits at offsets. -/
structure HkGen (s : ByteArray) (es : List Ct) (hks : List (Hk.HK ByteArray)) : Prop where
  pat : Hk.PatOk (linesB s) hks
  text : flatB ((Hk.pst (linesB s) hks).1 ++ (linesB s).drop (Hk.pst (linesB s) hks).2) = textC s.data.toList es
  good : ∀ h ∈ hks, (∀ x ∈ h.ls, x.1 ≤ 2) ∧ 1 ≤ h.f ∧ h.f ≤ 1000000000 ∧ 1 ≤ h.g ∧ h.g ≤ 1000000000 ∧ h.ls.length ≤ 1000000000
  both : s.size ≠ 0 → textC s.data.toList es ≠ [] → ∀ h ∈ hks, 1 ≤ (Hk.olds h.ls).length ∧ 1 ≤ (Hk.news h.ls).length
  len : hks.length ≤ es.length
  out : (Hk.pst (linesB s) hks).1.length ≤ 1000000000
theorem hkGen {s : ByteArray} {es : List Ct} {p : Nat} (h : AscC s.size es p) (hs : s.size ≤ 100000) (hn : es.length ≤ 2000) (hsum : sumT es ≤ 100000000) : HkGen s es (HKs s (fullOf s es)) := by
  have hF := fullOf_ok h
  obtain ⟨pf, hfa⟩ := hF.asc
  have hA := leC_asc hfa
  have hD := Hk.hunks_done hA
  have ht := le_textC hfa hF.full
  rw [hF.text] at ht
  have hput := putN_le s (fullOf s es)
  have hsz := hF.size
  have hmul := Nat.mul_le_mul hn (show 2 * s.size ≤ 200000 by omega)
  have hls := linesB_le_size s
  have hlen : (HKs s (fullOf s es)).length ≤ (fullOf s es).length := by
    have := hunks_len (linesB s) ((fullOf s es).map (leC s))
    rw [List.length_map] at this
    exact this
  have hfl := hF.len
  have hel := (eap_len hA).1
  have hp : (if fullOf s es = [] then 0 else (PL s pf - 1).toNat) ≤ s.size := by
    split
    · exact Nat.zero_le _
    · have := PL_le s pf (ascC_le hfa)
      rw [← linesB_len] at this
      omega
  refine ⟨hD.pat, ?_, fun x hx => ?_, fun h1 h2 => hD.both ?_ ?_, by omega, ?_⟩
  · rw [hD.text, ht]
  · obtain ⟨a, b, c, d, e, f⟩ := hD.good x hx
    exact ⟨a, b, by omega, d, by omega, by omega⟩
  · intro e
    have : s.data.toList = [] := by
      rcases Classical.em (s.data.toList = []) with q | q
      · exact q
      · have := linesL_ne q
        unfold linesB at e
        exact absurd (List.map_eq_nil_iff.1 e) this
    have h3 := size_list s
    rw [this] at h3; simp at h3; omega
  · intro e
    rw [e] at ht
    exact h2 ht.symm
  · have h3 := congrArg List.length hD.text
    rw [List.length_append, List.length_append] at h3
    simp only [List.length_drop] at h3
    have : (Hk.pst (linesB s) (HKs s (fullOf s es))).1.length ≤ (Hk.eap (linesB s) ((fullOf s es).map (leC s))).1.length + (linesB s).length := by
      have h4 : (Hk.pst (linesB s) (HKs s (fullOf s es))).1.length + ((linesB s).length - (Hk.pst (linesB s) (HKs s (fullOf s es))).2) = (Hk.eap (linesB s) ((fullOf s es).map (leC s))).1.length + ((linesB s).length - (Hk.eap (linesB s) ((fullOf s es).map (leC s))).2) := h3
      omega
    omega
theorem full_nil {s : ByteArray} {es : List Ct} : fullOf s es = [] ↔ es = [] := by
  unfold fullOf
  split
  · unfold fullC
    constructor
    · intro h
      split at h
      · rename_i h0; exact List.length_eq_zero_iff.1 h0
      · simp at h
    · rintro rfl; rfl
  · exact Iff.rfl
theorem hkFacts {s t : ByteArray} {ops : List Opn} (hscr : Script (eqL (linesB s) (linesB t)) ops (linesB s).length (linesB t).length) (hs : s.size ≤ 100000) (ht : t.size ≤ 100000) (hn : ops.length ≤ 2000) : HkFacts s t ops (hksOf s t ops) := by
  have hF := ops_f hscr (by rw [linesB_len]; exact Nat.le_refl _) (by rw [linesB_len]; exact Nat.le_refl _)
  obtain ⟨p, a1, a2, _⟩ := hF.asc
  have hl : (ops.map (ctOp s (linesB t))).length = ops.length := by simp
  have hsum : sumT (ops.map (ctOp s (linesB t))) ≤ 100000000 := by
    have := hF.sum
    rw [linesB_len, off_size] at this
    omega
  have hG := hkGen a1 hs (by omega) hsum
  have htx := ops_text hscr
  have hO := fullOf_ok a1
  obtain ⟨pf, hfa⟩ := hO.asc
  have hD := Hk.hunks_done (leC_asc hfa)
  have hsf := sum_full a1 hF.full hF.ends
  refine ⟨hG.pat, by rw [← htx]; exact hG.text, hG.good, fun h1 h2 => hG.both h1 ?_, ?_, fun h => hD.first ?_, fun h => hD.none_ ?_, hD.some_ ?_, by rw [← hl]; exact hG.len, hG.out⟩
  · rw [htx]
    intro e
    have h3 := size_list t
    rw [e] at h3; simp at h3; omega
  · have := hD.sum
    rw [← sumC_le, hsf, hF.cnt] at this
    exact this
  · intro e
    have := full_nil.1 (List.map_eq_nil_iff.1 e)
    exact h (List.map_eq_nil_iff.1 this)
  · subst h; rfl
  · intro e he
    obtain ⟨c, hc, rfl⟩ := List.mem_map.1 he
    have hm := ascC_mem hfa c hc
    exact does_le (hO.full c hc) hm.1 hm.2 (hO.does hF.does c hc)
/-- impl.Hunks of a script's edits. -/
theorem hunks_ops {s t : ByteArray} {ops : List Opn} (hscr : Script (eqL (linesB s) (linesB t)) ops (linesB s).length (linesB t).length) (hs : s.size ≤ 100000) (ht : t.size ≤ 100000) (hn : ops.length ≤ 2000) (A : Option Addr) (c : Nat) (w : World)
    (hA : RowsAt w A 7 ((ops.map (peOf (linesB t))).map peCells)) : Calls Tryz.prog 10 #[.string s, .slice A ops.length c] w (IHRes w (hksOf s t ops)) := by
  have hF := ops_f hscr (by rw [linesB_len]; exact Nat.le_refl _) (by rw [linesB_len]; exact Nat.le_refl _)
  obtain ⟨p, a1, a2, _⟩ := hF.asc
  have hl : (ops.map (ctOp s (linesB t))).length = ops.length := by simp
  have hsum : sumT (ops.map (ctOp s (linesB t))) ≤ 100000000 := by
    have := hF.sum
    rw [linesB_len, off_size] at this
    omega
  have hX := hkFacts hscr hs ht hn
  have := iHunks_any s (ops.map (peOf (linesB t))) (ops.map (ctOp s (linesB t))) p A c hs a1 a2 (by omega) hsum (by simp) (prepC_ops hscr (by omega) (by omega)) (fun h hh => (hX.good h hh).2.2.2.2.2) (by have := hX.len; unfold hksOf at this; omega) w hA
  rw [hl] at this
  exact this
end Go.Proofs.YtgegialfhkgggaaGreatDoor
