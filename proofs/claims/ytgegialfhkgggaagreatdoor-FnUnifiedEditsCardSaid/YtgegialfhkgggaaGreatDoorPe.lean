/- Walks: the shortest edit sequence, the way back, the operations. No condition but sizes. -/
import Derived.Test.YtgegialfhkgggaaGreatDoorPl
import Derived.Test.YtgegialfhkgggaaGreatDoorPd
import Derived.Deep.DeepCutAuto
import Derived.Deep.QuietTactic
import Derived.BigQuiet
import Derived.OwnWalk
import Derived.Laws.CopyOwn
import Derived.Test.YtgegialfhkgggaaGreatDoorPa
import Derived.Test.YtgegialfhkgggaaGreatDoorPc
import Derived.Deep.CutBlock
set_option linter.unusedVariables false
set_option linter.unusedSimpArgs false
namespace Go.Proofs.YtgegialfhkgggaaGreatDoor
open Go.RowKit Mye
attribute [local go_sem ↓] Go.wp_at_zero Go.wp_at_succ

/-- Whether line i of one text is line j of the other. -/
def eqL (la lb : List ByteArray) (i j : Nat) : Bool := decide (la.getD i ByteArray.empty = lb.getD j ByteArray.empty)
/-- The values ahead of round d. -/
def pf (M N : Nat) (eq : Nat → Nat → Bool) : Nat → Int → Int
  | 0, _ => 0
  | e + 1, k => FR M N eq e k
/-- The diagonals that hold a value ahead of round d. -/
def inP : Nat → Int → Prop
  | 0, k => k = 1
  | e + 1, k => inR e k
theorem FR_pick {M N : Nat} {eq : Nat → Nat → Bool} (d : Nat) (k : Int) (h : inR d k) : FR M N eq d k = slide M N eq k M (pick (pf M N eq d) d k) := by
  cases d with
  | zero =>
    have : k = 0 := by unfold inR at h; omega
    subst this
    rfl
  | succ e => rw [FR]; rfl
theorem pick_ge {M N : Nat} {eq : Nat → Nat → Bool} (d : Nat) (k : Int) (h : inR d k) : 0 ≤ pick (pf M N eq d) d k ∧ k ≤ pick (pf M N eq d) d k := by
  unfold inR at h
  cases d with
  | zero =>
    have : k = 0 := by omega
    subst this
    unfold pick pf; simp
  | succ e =>
    have hp : pick (pf M N eq (e + 1)) ((e + 1 : Nat) : Int) k = pick (FR M N eq e) ((e + 1 : Nat) : Int) k := rfl
    rw [hp]
    unfold pick
    by_cases hc : k = -((e + 1 : Nat) : Int) ∨ (k ≠ ((e + 1 : Nat) : Int) ∧ FR M N eq e (k - 1) < FR M N eq e (k + 1))
    · rw [if_pos hc]
      have := FR_nonneg (M := M) (N := N) (eq := eq) e (k + 1) (by unfold inR; omega)
      omega
    · rw [if_neg hc]
      have := FR_nonneg (M := M) (N := N) (eq := eq) e (k - 1) (by unfold inR; omega)
      omega
theorem slide_le {M N : Nat} {eq : Nat → Nat → Bool} (k : Int) : ∀ (n : Nat) (x : Int), slide M N eq k n x ≤ max x M
  | 0, x => by rw [slide]; omega
  | n + 1, x => by
    rw [slide_succ]
    by_cases h : go M N eq k x
    · rw [if_pos h]
      have := slide_le (M := M) (N := N) (eq := eq) k n (x + 1)
      have := h.1
      omega
    · rw [if_neg h]; omega
theorem FR_le {M N : Nat} {eq : Nat → Nat → Bool} : ∀ (d : Nat) (k : Int), inR d k → FR M N eq d k ≤ M + d
  | 0, k, h => by
    rw [FR]
    have := slide_le (M := M) (N := N) (eq := eq) k M 0
    omega
  | d + 1, k, h => by
    unfold inR at h
    rw [FR]
    have hs := slide_le (M := M) (N := N) (eq := eq) k M (pick (FR M N eq d) ((d : Int) + 1) k)
    unfold pick at hs ⊢
    by_cases hc : k = -((d : Int) + 1) ∨ (k ≠ (d : Int) + 1 ∧ FR M N eq d (k - 1) < FR M N eq d (k + 1))
    · rw [if_pos hc] at hs ⊢
      have := FR_le (M := M) (N := N) (eq := eq) d (k + 1) (by unfold inR; omega)
      omega
    · rw [if_neg hc] at hs ⊢
      have := FR_le (M := M) (N := N) (eq := eq) d (k - 1) (by unfold inR; omega)
      omega
theorem pf_bd {M N : Nat} {eq : Nat → Nat → Bool} (d : Nat) (k : Int) (h : inP d k) : 0 ≤ pf M N eq d k ∧ pf M N eq d k ≤ M + d := by
  cases d with
  | zero => simp only [pf]; omega
  | succ e =>
    simp only [pf, inP] at h ⊢
    have h1 := FR_nonneg (M := M) (N := N) (eq := eq) e k h
    have h2 := FR_le (M := M) (N := N) (eq := eq) e k h
    omega

theorem info_int1 : (Tryz.prog.info? 3).map (fun i => (i.zero, i.size, i.bytes)) = some (some (.int .i64 0), 1, 8) := by kernel_rfl
theorem info_ints : (Tryz.prog.info? 37).map (fun i => (i.zero, i.size, i.bytes)) = some (some (.slice none 0 0), 1, 24) := by kernel_rfl

theorem own_made {w : World} {base n g : Nat} {e : TypeId} {z : Value} (hz : z.cells = #[z]) (h : w.ownsRow base e 1 (.slice (some ⟨g, 0, none⟩) n n) n (madeCells z.cells (n * 1)).toList) : ∃ cur, Blk w g e cur ∧ cur.size = n ∧ ∀ i, i < n → cur[i]? = some z := by
  rcases h.2 with ⟨h1, _⟩ | ⟨g', cap', cur, h1, _, hg, _, _, hs, hx⟩
  · simp at h1
  · simp at h1
    obtain ⟨rfl, rfl⟩ := h1
    rw [hz, toList_madeCells_one, Nat.mul_one] at hx
    refine ⟨cur, hg, by rw [hs, Nat.mul_one], fun i hi => ?_⟩
    have : cur.toList[i]? = some z := by
      have h2 : (cur.toList.take n)[i]? = some z := by rw [hx, List.getElem?_replicate, if_pos hi]
      rwa [List.getElem?_take_of_lt hi] at h2
    rwa [Array.getElem?_toList] at this

theorem grown_none {w w1 : World} (h : w.grownBy w1 none) : Below w.heap.size w w1 := (Below.refl w.heap.size w).grown h (Nat.le_refl _) (fun k hk => by cases hk)

/-- A row of values: a block of 2 S + 1 cells, of which those of some diagonals are known. -/
def RowAt (w : World) (g S : Nat) (P : Int → Prop) (f : Int → Int) : Prop := ∃ cur, Blk w g 3 cur ∧ cur.size = 2 * S + 1 ∧ (∀ v ∈ cur.toList, v.oneCell' = true) ∧ ∀ k : Int, P k → cur[(k + S).toNat]? = some (.int .i64 (f k))
theorem RowAt.grown {w w' : World} {g S g0 : Nat} {P : Int → Prop} {f : Int → Int} (h : RowAt w g S P f) (hg : w.grownBy w' (some g0)) (hne : g ≠ g0) : RowAt w' g S P f := by
  obtain ⟨cur, h1, h2⟩ := h
  exact ⟨cur, h1.grown hg (fun e => hne (by injection e)), h2⟩
/-- The trace ahead of round d: its block, and the rows of the rounds ahead, none of which lies in the blocks X. -/
def TraceAt (w : World) (M N : Nat) (eq : Nat → Nat → Bool) (gT : Nat) (X : List Nat) (d : Nat) : Prop := ∃ ts, Blk w gT 37 ts ∧ ts.size = M + N + 1 ∧
  (∀ e, e < d → ∃ g c, ts[e]? = some (.slice (some ⟨g, 0, none⟩) (2 * (M + N) + 1) c) ∧ g ∉ X ∧ RowAt w g (M + N) (inP e) (pf M N eq e)) ∧
  ∀ e, d ≤ e → e ≤ M + N → ts[e]? = some (.slice none 0 0)
theorem TraceAt.grown {w w' : World} {M N gT d g0 : Nat} {eq : Nat → Nat → Bool} {X : List Nat} (h : TraceAt w M N eq gT X d) (hg : w.grownBy w' (some g0)) (hT : gT ≠ g0) (hX : g0 ∈ X) : TraceAt w' M N eq gT X d := by
  obtain ⟨ts, h1, h2, h3, h4⟩ := h
  refine ⟨ts, h1.grown hg (fun e => hT (by injection e)), h2, fun e he => ?_, h4⟩
  obtain ⟨g, c, e1, e2, e3⟩ := h3 e he
  exact ⟨g, c, e1, e2, e3.grown hg (fun he => e2 (he ▸ hX))⟩
theorem TraceAt.less {w : World} {M N gT d : Nat} {eq : Nat → Nat → Bool} {X Y : List Nat} (h : TraceAt w M N eq gT X d) (hXY : ∀ g, g ∉ X → g ∉ Y) : TraceAt w M N eq gT Y d := by
  obtain ⟨ts, h1, h2, h3, h4⟩ := h
  refine ⟨ts, h1, h2, fun e he => ?_, h4⟩
  obtain ⟨g, c, e1, e2, e3⟩ := h3 e he
  exact ⟨g, c, e1, hXY g e2, e3⟩
/-- A new block is none of the rows'. -/
theorem TraceAt.more {w w' : World} {M N gT d : Nat} {eq : Nat → Nat → Bool} {X : List Nat} (h : TraceAt w M N eq gT X d) (hb : Below w.heap.size w w') : TraceAt w' M N eq gT (w.heap.size :: X) d := by
  obtain ⟨ts, h1, h2, h3, h4⟩ := h
  refine ⟨ts, h1.kept hb, h2, fun e he => ?_, h4⟩
  obtain ⟨g, c, e1, e2, cur, k1, k2⟩ := h3 e he
  refine ⟨g, c, e1, fun hm => ?_, cur, k1.kept hb, k2⟩
  rcases List.mem_cons.1 hm with rfl | hm
  · exact absurd k1.lt (Nat.lt_irrefl _)
  · exact e2 hm
theorem RowAt.kept {w w' : World} {g S : Nat} {P : Int → Prop} {f : Int → Int} (h : RowAt w g S P f) (hb : Below w.heap.size w w') : RowAt w' g S P f := by
  obtain ⟨cur, h1, h2⟩ := h
  exact ⟨cur, h1.kept hb, h2⟩
/-- What is left: the trace up to the round that hits the end. -/
def SesRes (w : World) (M N : Nat) (eq : Nat → Nat → Bool) (e : Ending) (w' : World) : Prop := ∃ gT c D, e = .returned (.tuple #[.slice (some ⟨gT, 0, none⟩) (M + N + 1) c, .int .i64 ((M : Int) + (N : Int))]) ∧
  TraceAt w' M N eq gT [] (D + 1) ∧ D ≤ M + N ∧ hit M N eq D ∧ (∀ d, d < D → ¬ hit M N eq d) ∧ Below w.heap.size w w'
/-- In round d, ahead of diagonal k. -/
def InRel (w wr : World) (M N : Nat) (eq : Nat → Nat → Bool) (gV gT gC d : Nat) (k k' : Int) : Prop :=
  (∃ cur, Blk wr gV 3 cur ∧ cur.size = 2 * (M + N) + 1 ∧ (∀ v ∈ cur.toList, v.oneCell' = true) ∧ (∀ i : Int, inP d i → cur[(i + (M + N : Nat)).toNat]? = some (.int .i64 (pf M N eq d i))) ∧ (∀ i : Int, inR d i → i < k → cur[(i + (M + N : Nat)).toNat]? = some (.int .i64 (FR M N eq d i)))) ∧
  TraceAt wr M N eq gT [gC, gV, gT] d ∧ (∃ cc, Blk wr gC 3 cc ∧ cc.size = 2 * (M + N) + 1) ∧ (∀ i, inR d i → i < k' → ¬ (FR M N eq d i = M ∧ FR M N eq d i - i = N)) ∧ Below w.heap.size w wr
/-- Ahead of round d. -/
def SesRel (w wr : World) (M N : Nat) (eq : Nat → Nat → Bool) (gV gT d : Nat) : Prop := RowAt wr gV (M + N) (inP d) (pf M N eq d) ∧ TraceAt wr M N eq gT [gV, gT] d ∧ (∀ e, e < d → ¬ hit M N eq e) ∧ Below w.heap.size w wr

theorem mem_set {a : Array Value} {i : Nat} {x v : Value} (h : v ∈ (a.setIfInBounds i x).toList) : v = x ∨ v ∈ a.toList := by
  rw [Array.toList_setIfInBounds] at h
  rcases List.mem_or_eq_of_mem_set h with h | h
  · exact Or.inr h
  · exact Or.inl h
theorem all_one {cur : Array Value} {z : Value} {n : Nat} (hz : z.oneCell' = true) (hs : cur.size = n) (h : ∀ i, i < n → cur[i]? = some z) : ∀ v ∈ cur.toList, v.oneCell' = true := by
  intro v hv
  obtain ⟨i, hi, rfl⟩ := List.getElem_of_mem hv
  have hi' : i < n := by rw [← hs]; simpa using hi
  have := h i hi'
  rw [← Array.getElem?_toList, List.getElem?_eq_getElem hi] at this
  injection this with this
  rw [this]; exact hz

theorem ses_start {w w1 w2 : World} {M N : Nat} {eq : Nat → Nat → Bool} (hown1 : w1.ownsRow w.heap.size 3 1 (.slice (some ⟨w.heap.size, 0, none⟩) (2 * (M + N) + 1) (2 * (M + N) + 1)) (2 * (M + N) + 1) (madeCells (Value.int IntKind.i64 0).cells ((2 * (M + N) + 1) * 1)).toList)
    (hg1 : w.grownBy w1 none) (hown2 : w2.ownsRow w.heap.size 37 1 (.slice (some ⟨w1.heap.size, 0, none⟩) (M + N + 1) (M + N + 1)) (M + N + 1) (madeCells (Value.slice none 0 0).cells ((M + N + 1) * 1)).toList) (hg2 : w1.grownBy w2 none) (h1 : 1 ≤ M + N) :
    SesRel w w2 M N eq w.heap.size w1.heap.size 0 ∧ w.heap.size ≠ w1.heap.size ∧ w.heap.size ≤ w1.heap.size := by
  obtain ⟨c1, b1, s1, z1⟩ := own_made rfl hown1
  obtain ⟨c2, b2, s2, z2⟩ := own_made rfl hown2
  have k1 := b1.kept (grown_none hg2)
  refine ⟨⟨⟨c1, k1, s1, all_one rfl s1 z1, fun k hk => ?_⟩, ⟨c2, b2, s2, fun e he => absurd he (Nat.not_lt_zero _), fun e _ he => z2 e (by omega)⟩, fun e he => absurd he (Nat.not_lt_zero _), (grown_none hg1).trans ((grown_none hg2).mono hg1.size)⟩, ?_, hg1.size⟩
  · simp only [inP] at hk
    subst hk
    simp only [pf]
    exact z1 _ (by omega)
  · have := b1.lt; omega

theorem in_start {w wr w3 : World} {M N gV gT d : Nat} {eq : Nat → Nat → Bool} (h : SesRel w wr M N eq gV gT d) (hown : w3.ownsRow wr.heap.size 3 1 (.slice (some ⟨wr.heap.size, 0, none⟩) (2 * (M + N) + 1) (2 * (M + N) + 1)) (2 * (M + N) + 1) (madeCells (Value.int IntKind.i64 0).cells ((2 * (M + N) + 1) * 1)).toList)
    (hg : wr.grownBy w3 none) : InRel w w3 M N eq gV gT wr.heap.size d (-(d : Int)) (-(d : Int)) ∧ wr.heap.size ≠ gV ∧ wr.heap.size ≠ gT ∧ w.heap.size ≤ wr.heap.size := by
  obtain ⟨⟨cur, c1, c2, c3, c4⟩, hT, hh, hbl⟩ := h
  obtain ⟨cc, b1, s1, _⟩ := own_made rfl hown
  have hb := grown_none hg
  have lV := c1.lt
  have lT : gT < wr.heap.size := by obtain ⟨ts, t1, _⟩ := hT; exact t1.lt
  refine ⟨⟨⟨cur, c1.kept hb, c2, c3, c4, fun i hi hlt => ?_⟩, hT.more hb, ⟨cc, b1, s1⟩, fun i hi hlt => ?_, hbl.trans (hb.mono hbl.size)⟩, by omega, by omega, hbl.size⟩
  · unfold inR at hi; omega
  · unfold inR at hi; omega

theorem Blk.get {w : World} {g : Nat} {t : TypeId} {cur : Array Value} {i : Nat} {v : Value} (h : Blk w g t cur) (hi : cur[i]? = some v) : w.cell? ⟨g, i, none⟩ = some v := by rw [h.cell]; exact hi

theorem in_drew {w wr : World} {M N gV gT gC d n : Nat} {k k' : Int} {eq : Nat → Nat → Bool} (h : InRel w wr M N eq gV gT gC d k k') : InRel w (wr.drewN n) M N eq gV gT gC d k k' := by
  obtain ⟨⟨cur, c1, c2⟩, hT, hC, hh, hbl⟩ := h
  exact ⟨⟨cur, c1, c2⟩, hT, hC, hh, ⟨hbl.os, hbl.tape, hbl.output, hbl.size, hbl.block⟩⟩

/-- What the round reads and writes. -/
theorem in_cells {w wr : World} {M N gV gT gC d : Nat} {k k' : Int} {eq : Nat → Nat → Bool} (h : InRel w wr M N eq gV gT gC d k k') :
    (∀ i, inP d i → wr.cell? ⟨gV, (i + ((N : Int) + (M : Int))).toNat, none⟩ = some (.int .i64 (pf M N eq d i))) ∧
    (∀ i : Int, 0 ≤ i + ((N : Int) + (M : Int)) → i + ((N : Int) + (M : Int)) < 2 * ((M : Int) + N) + 1 → ∃ v, wr.cell? ⟨gV, (i + ((N : Int) + (M : Int))).toNat, none⟩ = some v ∧ wr.frozen? ⟨gV, (i + ((N : Int) + (M : Int))).toNat, none⟩ = false) := by
  obtain ⟨⟨cur, c1, c2, c3, c4, c5⟩, _⟩ := h
  refine ⟨fun i hi => ?_, fun i h0 h1 => ?_⟩
  · have := c4 i hi
    rw [show (i + ((N : Int) + (M : Int))).toNat = (i + ((M + N : Nat) : Int)).toNat by congr 1; omega]
    exact c1.get this
  · refine ⟨cur[(i + ((N : Int) + (M : Int))).toNat]'(by omega), ?_, c1.frozen _⟩
    exact c1.get (Array.getElem?_eq_getElem _)

/-- The value of diagonal k is stored. -/
theorem in_set {w wr : World} {M N gV gT gC d x : Nat} {k k' : Int} {eq : Nat → Nat → Bool} (h : InRel w wr M N eq gV gT gC d k k') (hTV : gT ≠ gV) (hCV : gC ≠ gV) (hgV : w.heap.size ≤ gV) (hk : inR d k) (hd : d ≤ M + N) (hx : FR M N eq d k = x) :
    InRel w (wr.setCell ⟨gV, (k + ((N : Int) + (M : Int))).toNat, none⟩ (.int .i64 x)) M N eq gV gT gC d (k + 2) k' := by
  obtain ⟨⟨cur, c1, c2, c3, c4, c5⟩, hT, ⟨cc, b1, b2⟩, hh, hbl⟩ := h
  have hgr : wr.grownBy (wr.setCell ⟨gV, (k + ((N : Int) + (M : Int))).toNat, none⟩ (.int .i64 x)) (some gV) := (SX.set (p := ⟨gV, (k + ((N : Int) + (M : Int))).toNat, none⟩) (SX.of (World.grownBy.refl wr (some gV))) rfl _).2.2
  have hk' := hk
  unfold inR at hk'
  have hne : ∀ i : Int, (inP d i ∨ (inR d i ∧ i < k)) → -((M : Int) + N) ≤ i ∧ (i + ((M + N : Nat) : Int)).toNat ≠ (k + ((N : Int) + (M : Int))).toNat := by
    rintro i (hi | ⟨hi, hlt⟩)
    · cases d with
      | zero => simp only [inP] at hi; omega
      | succ e => simp only [inP] at hi; unfold inR at hi; omega
    · unfold inR at hi; omega
  refine ⟨⟨_, c1.set_ _ _, by simp [c2], ?_, ?_, ?_⟩, hT.grown hgr hTV (by simp), ⟨cc, b1.grown hgr (fun e => hCV (by injection e)), b2⟩, ?_, hbl.setCell hgV _⟩
  · intro v hv
    rcases mem_set hv with rfl | hv
    · rfl
    · exact c3 v hv
  · intro i hi
    rw [Array.getElem?_setIfInBounds_ne (hne i (Or.inl hi)).2.symm]
    exact c4 i hi
  · intro i hi hlt
    by_cases he : i = k
    · subst he
      rw [show (i + ((N : Int) + (M : Int))).toNat = (i + ((M + N : Nat) : Int)).toNat by congr 1; omega, Array.getElem?_setIfInBounds_self_of_lt (by omega), hx]
    · have hlt' : i < k := by unfold inR at hi; omega
      rw [Array.getElem?_setIfInBounds_ne (hne i (Or.inr ⟨hi, hlt'⟩)).2.symm]
      exact c5 i hi hlt'
  · exact hh
theorem in_bump {w wr : World} {M N gV gT gC d : Nat} {k j : Int} {eq : Nat → Nat → Bool} (h : InRel w wr M N eq gV gT gC d j k) (hk : inR d k) (hn : ¬ (FR M N eq d k = M ∧ FR M N eq d k - k = N)) : InRel w wr M N eq gV gT gC d j (k + 2) := by
  obtain ⟨h1, h2, h3, hh, h4⟩ := h
  refine ⟨h1, h2, h3, fun i hi hlt => ?_, h4⟩
  by_cases he : i = k
  · subst he; exact hn
  · exact hh i hi (by unfold inR at hi hk; omega)

/-- The row is copied, and put into the trace. -/
theorem trace_next {W w5 : World} {M N gV gT gC d c : Nat} {eq : Nat → Nat → Bool} {cur : Array Value} (hT : TraceAt W M N eq gT [gC, gV, gT] d) (hgr : W.grownBy w5 (some gC)) (hC : Blk w5 gC 3 cur) (c2 : cur.size = 2 * (M + N) + 1) (c3 : ∀ v ∈ cur.toList, v.oneCell' = true)
    (c4 : ∀ i : Int, inP d i → cur[(i + (M + N : Nat)).toNat]? = some (.int .i64 (pf M N eq d i))) (hd : d ≤ M + N) (hTC : gT ≠ gC) (hCV : gC ≠ gV) :
    TraceAt (w5.setCell ⟨gT, d, none⟩ (.slice (some ⟨gC, 0, none⟩) (2 * (M + N) + 1) c)) M N eq gT [gV, gT] (d + 1) := by
  have h5 := hT.grown hgr hTC (by simp)
  obtain ⟨ts, h1, h2, h3, h4⟩ := h5
  have hg2 : w5.grownBy (w5.setCell ⟨gT, d, none⟩ (.slice (some ⟨gC, 0, none⟩) (2 * (M + N) + 1) c)) (some gT) := (SX.set (p := ⟨gT, d, none⟩) (SX.of (World.grownBy.refl w5 (some gT))) rfl _).2.2
  refine ⟨_, h1.set_ d _, by simp [h2], fun e he => ?_, fun e he hle => ?_⟩
  · by_cases hed : e = d
    · subst hed
      refine ⟨gC, c, by rw [Array.getElem?_setIfInBounds_self_of_lt (by omega)], by simp; exact ⟨hCV, fun e => hTC e.symm⟩, cur, ?_, c2, c3, c4⟩
      exact hC.grown hg2 (fun e => hTC (by injection e with e; exact e.symm))
    · obtain ⟨g, c', e1, e2, e3⟩ := h3 e (by omega)
      refine ⟨g, c', by rw [Array.getElem?_setIfInBounds_ne (by omega)]; exact e1, fun hm => e2 (by simp at hm ⊢; omega), e3.grown hg2 (fun he => e2 (by simp [he]))⟩
  · rw [Array.getElem?_setIfInBounds_ne (by omega)]
    exact h4 e (by omega) hle

/-- What the copy finds, and what stands behind it. -/
theorem in_copy {w W : World} {M N gV gT gC d : Nat} {k k' : Int} {eq : Nat → Nat → Bool} (h : InRel w W M N eq gV gT gC d k k') (hTV : gT ≠ gV) (hCV : gC ≠ gV) (hCT : gC ≠ gT) (hV : w.heap.size ≤ gV) (hT0 : w.heap.size ≤ gT) (hC0 : w.heap.size ≤ gC) (hd : d ≤ M + N) :
    ∃ curV cc, Blk W gV 3 curV ∧ curV.size = 2 * (M + N) + 1 ∧ (∀ v ∈ curV.toList, v.oneCell' = true) ∧ Blk W gC 3 cc ∧ cc.size = 2 * (M + N) + 1 ∧
      ∀ w5 c, Blk w5 gC 3 curV → W.grownBy w5 (some gC) → (w5.cell? ⟨gT, d, none⟩ = some (.slice none 0 0) ∧ w5.frozen? ⟨gT, d, none⟩ = false) ∧
        TraceAt (w5.setCell ⟨gT, d, none⟩ (.slice (some ⟨gC, 0, none⟩) (2 * (M + N) + 1) c)) M N eq gT [gV, gT] (d + 1) ∧
        (d < k → RowAt (w5.setCell ⟨gT, d, none⟩ (.slice (some ⟨gC, 0, none⟩) (2 * (M + N) + 1) c)) gV (M + N) (inP (d + 1)) (pf M N eq (d + 1))) ∧
        Below w.heap.size w (w5.setCell ⟨gT, d, none⟩ (.slice (some ⟨gC, 0, none⟩) (2 * (M + N) + 1) c)) := by
  obtain ⟨⟨cur, c1, c2, c3, c4, c5⟩, hT, ⟨cc, b1, b2⟩, hh, hbl⟩ := h
  refine ⟨cur, cc, c1, c2, c3, b1, b2, fun w5 c hC hgr => ?_⟩
  have h5 := hT.grown hgr hCT.symm (by simp)
  have htr := trace_next (c := c) hT hgr hC c2 c3 c4 hd hCT.symm hCV
  obtain ⟨ts, h1, h2, h3, h4⟩ := h5
  refine ⟨⟨h1.get (h4 d (Nat.le_refl _) hd), h1.frozen _⟩, htr, fun hk => ?_, ?_⟩
  · have e1 := c1.grown hgr (fun e => hCV (by injection e with e; exact e.symm))
    exact ⟨cur, (Blk.far e1 (p := ⟨gT, d, none⟩) hTV.symm _), c2, c3, fun i hi => by
      simp only [inP, pf] at hi ⊢
      exact c5 i hi (by unfold inR at hi; omega)⟩
  · exact (hbl.grown hgr hbl.size (fun k hk => by injection hk with hk; omega)).setCell hT0 _

theorem wpList_copy_all {P : Program} {w : World} {ops : Array Oper} {rest : List Oper} {o : Oper} {a : Act} {Q : Exit → Act → World → Prop} (hgd : o.guard = none) (d s : Operand) (dT sT : TypeId)
    (ho : o.op = .call { callee := .builtin .copy, args := #[d, s], argTypes := #[dT, sT] }) (elem : TypeId) (hu : P.underlying dT = some (.slice elem)) (hsz : (P.info? elem).map (·.size) = some 1)
    (g gs n dCap sCap : Nat) (hd : a.eval d = .slice (some ⟨g, 0, none⟩) n dCap) (hs : a.eval s = .slice (some ⟨gs, 0, none⟩) n sCap)
    (cur src : Array Value) (t t' : TypeId) (hg : Blk w g t cur) (hg' : Blk w gs t' src) (h1 : cur.size = n) (h2 : src.size = n) (hone : ∀ v ∈ src.toList, v.oneCell' = true)
    (h : ∀ w', Blk w' g t src → w.grownBy w' (some g) → wpList P ops Q rest (a.put o.dst (goInt n)) w') : wpList P ops Q (o :: rest) a w := by
  have hl : src.toList.length = n := by rw [Array.length_toList, h2]
  refine wpList_copy_own hgd d s dT sT ho elem hu hsz g 0 n dCap ⟨gs, 0, none⟩ n sCap hd hs cur t hg src.toList (by rw [hl]; simp) (fun j v hj => ?_) (by rw [hl, h1]; omega) hone ?_
  · rw [show (⟨gs, 0, none⟩ : Addr).add j = ⟨gs, j, none⟩ from by unfold Addr.add; split <;> simp_all, hg'.cell, ← Array.getElem?_toList]
    exact hj
  · have e : (cur.toList.take 0 ++ (src.toList ++ cur.toList.drop (0 + src.toList.length))).toArray = src := by
      rw [hl, List.drop_of_length_le (by rw [Array.length_toList, h1]; omega)]; simp
    rw [e, hl]
    refine h _ (setRow_heap w g cur src t _ hg) ?_
    exact ⟨rfl, rfl, rfl, by simp [World.setRow], fun k _ hk => setRow_other w g k src (fun e => hk (by rw [e]))⟩

theorem inP_of {d : Nat} {k i : Int} (h : inR d k) (hi : (i = k + 1 ∧ k ≠ d) ∨ (i = k - 1 ∧ k ≠ -(d : Int))) : inP d i := by
  unfold inR at h
  cases d with
  | zero => simp only [inP]; omega
  | succ e => simp only [inP]; unfold inR; omega
theorem pick_true {f : Int → Int} {d : Nat} {k : Int} (h : decide (k = -(d : Int) ∨ (k ≠ d ∧ f (k - 1) < f (k + 1))) = true) : pick f d k = f (k + 1) := by
  unfold pick; rw [if_pos (of_decide_eq_true h)]
theorem pick_false {f : Int → Int} {d : Nat} {k : Int} (h : decide (k = -(d : Int) ∨ (k ≠ d ∧ f (k - 1) < f (k + 1))) = false) : pick f d k = f (k - 1) + 1 := by
  unfold pick; rw [if_neg (of_decide_eq_false h)]
theorem pick_le {M N : Nat} {eq : Nat → Nat → Bool} (d : Nat) (k : Int) (h : inR d k) : pick (pf M N eq d) d k ≤ M + d + 1 := by
  by_cases hc : decide (k = -(d : Int) ∨ (k ≠ d ∧ pf M N eq d (k - 1) < pf M N eq d (k + 1))) = true
  · rw [pick_true hc]
    have hc' := of_decide_eq_true hc
    by_cases hd : d = 0
    · subst hd; simp only [pf]; omega
    · have := pf_bd (M := M) (N := N) (eq := eq) d (k + 1) (inP_of h (Or.inl ⟨rfl, by rcases hc' with h | h <;> omega⟩))
      omega
  · have hc2 : decide (k = -(d : Int) ∨ (k ≠ d ∧ pf M N eq d (k - 1) < pf M N eq d (k + 1))) = false := by simpa using hc
    rw [pick_false hc2]
    have hc' := of_decide_eq_false hc2
    have := pf_bd (M := M) (N := N) (eq := eq) d (k - 1) (inP_of h (Or.inr ⟨rfl, fun e => hc' (Or.inl e)⟩))
    omega
theorem drewN_add (w : World) : ∀ n m, (w.drewN n).drewN m = w.drewN (n + m)
  | n, 0 => rfl
  | n, m + 1 => by
    have := drewN_add w n m
    simp [World.drewN] at this ⊢
    omega
theorem int_eq' {a b : Int} (h : a = b) : Value.int .i64 a = Value.int .i64 b := by rw [h]
theorem go_dec {M N : Nat} {eq : Nat → Nat → Bool} {x y : Nat} {k : Int} (hxy : (x : Int) - y = k) (h1 : x < M) (h2 : y < N) : decide (go M N eq k x) = eq x y := by
  have e1 : ((x : Int)).toNat = x := by omega
  have e2 : ((x : Int) - k).toNat = y := by omega
  have h : go M N eq k x ↔ eq x y = true := by
    unfold go
    rw [e1, e2]
    constructor
    · exact fun h => h.2.2
    · exact fun h => ⟨by omega, by omega, h⟩
  rw [Bool.eq_iff_iff, decide_eq_true_iff]
  exact h
theorem go_no {M N : Nat} {eq : Nat → Nat → Bool} {x y : Nat} {k : Int} (hxy : (x : Int) - y = k) (h1 : ¬ x < M ∨ ¬ y < N) : decide (go M N eq k x) = false := by
  apply decide_eq_false
  unfold go
  omega
theorem bytes_dec (s t : ByteArray) : (s.toList == t.toList) = decide (s = t) := by
  rw [ByteArray.toList_eq, ByteArray.toList_eq]
  by_cases h : s = t
  · subst h; simp
  · rw [decide_eq_false h, beq_eq_false_iff_ne]
    intro e
    exact h (Go.Proofs.YtgegialfhkgggaaGreatDoor.Lines.eq_of_list e)
end Go.Proofs.YtgegialfhkgggaaGreatDoor
namespace Go.Proofs.YtgegialfhkgggaaGreatDoor
open Go.RowKit Mye
attribute [local go_sem ↓] Go.wp_at_zero Go.wp_at_succ

set_option maxHeartbeats 4000000 in
set_option maxRecDepth 100000 in
theorem ses_any (la lb : List ByteArray) (A B : Option Addr) (ca cb M N : Nat) (hM : la.length = M) (hN : lb.length = N) (hS : M + N ≤ 1000000) (hS1 : 1 ≤ M + N) (w : World) (hA : Strs w A la) (hB : Strs w B lb) :
    Calls Tryz.prog 66 #[.slice A M ca, .slice B N cb] w (SesRes w M N (eqL la lb)) := by
  obtain ⟨i0, hi0, hz0, hz1, hz2⟩ := info_parts info_int1
  obtain ⟨j0, hj0, hy0, hy1, hy2⟩ := info_parts info_ints
  have HA := hide hA
  have HB := hide hB
  clear hA hB
  generalize heq : eqL la lb = eq at *
  have HE := hide heq
  clear heq
  go_enter Tryz.func66, Tryz.ntmps66
  go_wp2_with (first
    | (refine wpList_make_full _ rfl _ _ 37 rfl w.heap.size 3 i0 _ 1 Tryz.underlying37 hi0 hz0 hz1 .i64 .i64 _ _ (2 * (M + N) + 1) (by rfl) (by rfl) (by omega) (by omega) (by rw [hz2]; omega) (by unfold maxLen; omega) (by omega) ?_; intro w1 hown1 hg1)
    | (refine wpList_make_full _ rfl _ _ 122 rfl w.heap.size 37 j0 _ 1 Tryz.underlying122 hj0 hy0 hy1 .i64 .i64 _ _ (M + N + 1) (by rfl) (by rfl) (by omega) (by omega) (by rw [hy2]; omega) (by unfold maxLen; omega) (by have := hg1.size; omega) ?_; intro w2 hown2 hg2))
  obtain ⟨hR0, hne, hle⟩ := ses_start (eq := eq) hown1 hg1 hown2 hg2 hS1
  have hR := hide hR0
  clear hR0 hown1 hg1 hown2 hg2
  generalize w1.heap.size = gT at *
  obtain ⟨gV, hgV⟩ : ∃ g, g = w.heap.size := ⟨_, rfl⟩
  rw [← hgV] at hR hne hle
  rw [← hgV]
  have hV1 : w.heap.size ≤ gV := by omega
  have hT1 : w.heap.size ≤ gT := by omega
  clear hgV hle
  go_loopw [11] (fun dv wr => ∃ d : Nat, dv = .int .i64 d ∧ d ≤ M + N + 1 ∧ Hid (SesRel w wr M N eq gV gT d)) (fun dv _ => M + N + 1 - (intOf dv).toNat)
  case atStart => exact ⟨0, rfl, Nat.zero_le _, hR⟩
  case round =>
    obtain ⟨d, rfl, hd, hrel⟩ := hrel
    clear hR
    by_cases hdS : d ≤ M + N
    · go_wp2_with (first
        | (refine wpList_make_full _ rfl _ _ 37 rfl wr.heap.size 3 i0 _ 1 Tryz.underlying37 hi0 hz0 hz1 .i64 .i64 _ _ (2 * (M + N) + 1) (by rfl) (by rfl) (by omega) (by omega) (by rw [hz2]; omega) (by unfold maxLen; omega) (by omega) ?_; intro w3 hown3 hg3))
      obtain ⟨hI0, hCV, hCT, hC1⟩ := in_start hrel.out hown3 hg3
      have hI := hide hI0
      have hH := hide hrel.out.2.2.1
      clear hI0 hrel hown3 hg3
      generalize wr.heap.size = gC at *
      go_loopw [13] (fun kv wq => ∃ k : Int, kv = .int .i64 k ∧ -(d : Int) ≤ k ∧ k ≤ d + 2 ∧ (k - d) % 2 = 0 ∧ Hid (InRel w wq M N eq gV gT gC d k k)) (fun kv _ => ((d : Int) + 2 - intOf kv).toNat)
      case atStart => exact ⟨-(d : Int), rfl, by omega, by omega, by omega, hI⟩
      case round =>
        obtain ⟨k, rfl, hk1, hk2, hk3, hin⟩ := hrel
        by_cases hkd : k ≤ d
        · have hR : inR d k := by unfold inR; omega
          have hst := pick_ge (M := M) (N := N) (eq := eq) d k hR
          have hfr := FR_pick (M := M) (N := N) (eq := eq) d k hR
          have hst2 := pick_le (M := M) (N := N) (eq := eq) d k hR
          have hcut := hide (in_cells hin.out).1
          have b1 : ∀ i : Int, (-(d : Int)) - 1 ≤ i → i ≤ d + 1 → -9223372036854775808 ≤ i ∧ i ≤ 9223372036854775807 := fun i _ _ => by omega
          obtain ⟨c, hc⟩ : ∃ c, c = decide (k = -(d : Int) ∨ (k ≠ d ∧ pf M N eq d (k - 1) < pf M N eq d (k + 1))) := ⟨_, rfl⟩
          go_upto_region 13 with fail
          go_cut [76] (fun s76 wx => s76 = .bool c ∧ ∃ n, wx = wr.drewN n)
          case first =>
            by_cases q1 : k = -(d : Int)
            · have e1 : (k == -(d : Int)) = true := by simpa using q1
              have ec : c = true := by rw [hc]; simp [q1]
              have HC := hide ec
              clear hc ec q1 hfr hst hst2
              go_quiet (fail)
              go_wp2
              go_meet
              exact ⟨by rw [HC.out], _, rfl⟩
            · have e1 : (k == -(d : Int)) = false := by simpa using q1
              by_cases q2 : k = (d : Int)
              · have e2 : (k != (d : Int)) = false := by simpa using q2
                have ec : c = false := by rw [hc]; simp [q2]; omega
                have HC := hide ec
                clear hc ec q1 q2 hfr hst hst2
                go_quiet (fail)
                go_wp2
                go_meet
                exact ⟨by rw [HC.out], _, rfl⟩
              · have e2 : (k != (d : Int)) = true := by simpa using q2
                obtain ⟨v1, hv1⟩ : ∃ v, v = pf M N eq d (k - 1) := ⟨_, rfl⟩
                obtain ⟨v2, hv2⟩ : ∃ v, v = pf M N eq d (k + 1) := ⟨_, rfl⟩
                have c1 := hcut.out (k - 1) (inP_of hR (Or.inr ⟨rfl, q1⟩))
                have c2 := hcut.out (k + 1) (inP_of hR (Or.inl ⟨rfl, q2⟩))
                rw [← hv1] at c1
                rw [← hv2] at c2
                have ec : c = decide (v1 < v2) := by rw [hc, hv1, hv2]; simp [q1, q2]
                have HC := hide ec
                clear hc ec hv1 hv2 hfr hst hst2
                have r1 : 0 ≤ k - 1 + ((N : Int) + (M : Int)) := by omega
                have r2 : k - 1 + ((N : Int) + (M : Int)) < 2 * ((M : Int) + N) + 1 := by omega
                have r3 : 0 ≤ k + 1 + ((N : Int) + (M : Int)) := by omega
                have r4 : k + 1 + ((N : Int) + (M : Int)) < 2 * ((M : Int) + N) + 1 := by omega
                clear q1 q2
                go_quiet (fail)
                go_wp2
                go_meet
                exact ⟨by rw [HC.out], _, rfl⟩
          case rest =>
            obtain ⟨rfl, n, rfl⟩ := hcut
            have hin2 := hide (in_drew (n := n) hin.out)
            clear hin hcut
            generalize wr.drewN n = W at *
            have hcut := hide (in_cells hin2.out).1
            have hfrz := hide (in_cells hin2.out).2
            have hAW := hide (HA.out.kept hin2.out.2.2.2.2)
            have hBW := hide (HB.out.kept hin2.out.2.2.2.2)
            obtain ⟨st, hst0⟩ : ∃ st, st = pick (pf M N eq d) d k := ⟨_, rfl⟩
            rw [← hst0] at hst hst2 hfr
            go_upto_if 76 with fail
            go_cut [14] (fun s14 wx => s14 = .int .i64 st ∧ wx = W)
            case first =>
              cases c
              · have hp : st = pf M N eq d (k - 1) + 1 := by rw [hst0]; exact pick_false hc.symm
                have hkd2 : ¬ k = -(d : Int) := by intro e; rw [e] at hc; simp at hc
                have c1 := hcut.out (k - 1) (inP_of hR (Or.inr ⟨rfl, hkd2⟩))
                have hbd := pf_bd (M := M) (N := N) (eq := eq) d (k - 1) (inP_of hR (Or.inr ⟨rfl, hkd2⟩))
                generalize pf M N eq d (k - 1) = v1 at *
                have HP := hide hp
                have r1 : 0 ≤ k - 1 + ((N : Int) + (M : Int)) := by omega
                have r2 : k - 1 + ((N : Int) + (M : Int)) < 2 * ((M : Int) + N) + 1 := by omega
                clear hp hst0 hfr hc hst hst2
                go_wp2
                go_meet
                exact ⟨by rw [HP.out], rfl⟩
              · have hp : st = pf M N eq d (k + 1) := by rw [hst0]; exact pick_true hc.symm
                have hkd2 : ¬ k = (d : Int) ∨ d = 0 := by
                  by_cases e : k = (d : Int)
                  · right
                    by_cases e0 : d = 0
                    · exact e0
                    · rw [e] at hc; simp at hc; omega
                  · left; exact e
                have hin1 : inP d (k + 1) := by
                  rcases hkd2 with h | h
                  · exact inP_of hR (Or.inl ⟨rfl, h⟩)
                  · subst h; have : k = 0 := by unfold inR at hR; omega
                    subst this; rfl
                have c2 := hcut.out (k + 1) hin1
                have hbd := pf_bd (M := M) (N := N) (eq := eq) d (k + 1) hin1
                generalize pf M N eq d (k + 1) = v2 at *
                have HP := hide hp
                have r1 : 0 ≤ k + 1 + ((N : Int) + (M : Int)) := by omega
                have r2 : k + 1 + ((N : Int) + (M : Int)) < 2 * ((M : Int) + N) + 1 := by rcases hkd2 with h | h <;> omega
                clear hp hst0 hfr hc hst hst2 hkd2
                go_wp2
                go_meet
                exact ⟨by rw [HP.out], rfl⟩
            case rest =>
              obtain ⟨rfl, rfl⟩ := hcut
              obtain ⟨x0, rfl⟩ := Int.eq_ofNat_of_zero_le hst.1
              obtain ⟨y0, hy0⟩ := Int.eq_ofNat_of_zero_le (show 0 ≤ (x0 : Int) - k by omega)
              have HF := hide hfr
              clear hfr hst0 hc hcut
              go_wp2
              go_loopw [14, 15] (fun xv yv wq => ∃ x y n : Nat, xv = .int .i64 x ∧ yv = .int .i64 y ∧ (x : Int) - y = k ∧ x0 ≤ x ∧ x ≤ M + d + 1 ∧ Hid (∀ z : Int, (x0 : Int) ≤ z → z < x → go M N eq k z) ∧ wq = wc.drewN n) (fun xv _ _ => (M + d + 2 - (intOf xv).toNat))
              case atStart => exact ⟨x0, y0, 0, rfl, int_eq' (by omega), by omega, Nat.le_refl _, by omega, hide (fun z h1 h2 => by omega), rfl⟩
              case round =>
                obtain ⟨x, y, n, rfl, rfl, hxy, hx0, hxb, hz, rfl⟩ := hrel
                have hin3 := hide (in_drew (n := n) hin2.out)
                have hA3 : Hid (Strs (wc.drewN n) A la) := hide (hAW.out)
                have hB3 : Hid (Strs (wc.drewN n) B lb) := hide (hBW.out)
                have hcl := hide (fun m => show ∃ q, (wc.drewN n).drewN m = wc.drewN q from ⟨n + m, drewN_add _ _ _⟩)
                clear hin2 hAW hBW hfrz
                generalize wc.drewN n = W at *
                obtain ⟨c, hc⟩ : ∃ c, c = decide (go M N eq k x) := ⟨_, rfl⟩
                go_upto_region 17 with fail
                go_cut [113] (fun s113 wx => s113 = .bool c ∧ ∃ m, wx = W.drewN m)
                case first =>
                  have hz1 : ((x : Int) - k).toNat = y := by omega
                  have hz2 : (x : Int) - k = y := by omega
                  by_cases h1 : x < M
                  · by_cases h2 : y < N
                    · obtain ⟨bA, oA, rfl, cA⟩ := hA3.out x (by omega)
                      obtain ⟨bB, oB, rfl, cB⟩ := hB3.out y (by omega)
                      have hc2 : c = decide (la.getD x ByteArray.empty = lb.getD y ByteArray.empty) := by
                        rw [hc, go_dec hxy h1 h2, ← HE.out]
                        rfl
                      have e1 : decide ((x : Int) < (M : Int)) = true := by simp [h1]
                      have e2 : decide ((y : Int) < (N : Int)) = true := by simp [h2]
                      have HC := hide hc2
                      clear hc hc2 hz1 hz2
                      generalize la.getD x ByteArray.empty = t1 at *
                      generalize lb.getD y ByteArray.empty = t2 at *
                      go_quiet (fail)
                      go_wp2
                      go_meet
                      exact ⟨by rw [HC.out, bytes_dec], _, rfl⟩
                    · have e1 : decide ((x : Int) < (M : Int)) = true := by simp [h1]
                      have e2 : decide ((y : Int) < (N : Int)) = false := by simp; omega
                      have hc2 : c = false := by rw [hc]; exact go_no hxy (Or.inr h2)
                      have HC := hide hc2
                      clear hc hc2 hz1 hz2
                      go_quiet (fail)
                      go_wp2
                      go_meet
                      exact ⟨by rw [HC.out], _, rfl⟩
                  · have e1 : decide ((x : Int) < (M : Int)) = false := by simp; omega
                    have hc2 : c = false := by rw [hc]; exact go_no hxy (Or.inl h1)
                    have HC := hide hc2
                    clear hc hc2 hz1 hz2
                    go_quiet (fail)
                    go_wp2
                    go_meet
                    exact ⟨by rw [HC.out], _, rfl⟩
                case rest =>
                  obtain ⟨rfl, m, rfl⟩ := hcut
                  obtain ⟨q, hq⟩ := hcl.out m
                  have hin4 := hide (in_drew (n := m) hin3.out)
                  rw [hq] at hin4
                  rw [hq]
                  clear hin3 hA3 hB3 hcl hq
                  cases c
                  · have hng : ¬ go M N eq k x := of_decide_eq_false hc.symm
                    have hx : FR M N eq d k = x := by rw [HF.out]; exact slide_unique (by omega) (by omega) hng hz.out
                    have hcl := hide (in_cells hin4.out).2
                    have HX := hide hx
                    clear hc hng hz hx HF
                    generalize wc.drewN q = W at *
                    obtain ⟨v0, hv0, hf0⟩ := hcl.out k (by omega) (by omega)
                    have r1 : 0 ≤ k + ((N : Int) + (M : Int)) := by omega
                    have r2 : k + ((N : Int) + (M : Int)) < 2 * ((M : Int) + N) + 1 := by omega
                    by_cases hMN : x = M ∧ y = N
                    · obtain ⟨rfl, rfl⟩ := hMN
                      have hin5 := in_set hin4.out hne.symm hCV hV1 hR (by omega) HX.out
                      obtain ⟨curV, cc, hbV, hsV, hone, hbC, hsC, hfin⟩ := in_copy hin5 hne.symm hCV hCT hV1 hT1 hC1 (by omega)
                      have HO := hide hone
                      have HF := hide hfin
                      have hit0 : hit x y eq d := by
                        have hk : k = (x : Int) - y := by omega
                        subst hk
                        exact ⟨hR, HX.out⟩
                      have HT := hide hit0
                      have e3 : ((x : Int) == (x : Int)) = true := by simp
                      have e4 : ((y : Int) == (y : Int)) = true := by simp
                      clear hin4 hcl hone hfin hit0 hin5
                      go_wp2_with (first
                        | (refine wpList_copy_all rfl _ _ 37 37 rfl 3 Tryz.underlying37 (by kernel_rfl) gC gV (2 * (x + y) + 1) _ _ (by rfl) (by rfl) cc curV 3 3 hbC hbV hsC hsV HO.out ?_; intro w5 hB5 hg5; have ht5 := (HF.out w5 (2 * (x + y) + 1) hB5 hg5).1))
                      have hf := (HF.out w5 (2 * (x + y) + 1) hB5 hg5).2
                      have hxy2 : ((y : Int) + (x : Int)) = (x : Int) + (y : Int) := by omega
                      go_ret2
                      exact ⟨gT, x + y + 1, d, by rw [← hxy2]; rfl, hf.1.less (fun g _ => by simp), hdS, HT.out, hH.out, hf.2.2⟩
                    · have hn : ¬ (FR M N eq d k = M ∧ FR M N eq d k - k = N) := by rw [HX.out]; omega
                      have hin5 := hide (in_bump (in_set hin4.out hne.symm hCV hV1 hR (by omega) HX.out) hR hn)
                      clear hin4 hcl hn
                      by_cases hxM : x = M
                      · have e3 : ((x : Int) == (M : Int)) = true := by simp [hxM]
                        have e4 : ((y : Int) == (N : Int)) = false := by
                          have : ¬ y = N := fun e => hMN ⟨hxM, e⟩
                          simp; omega
                        clear hxM
                        go_wp2
                        go_roundw
                        case rel => exact ⟨k + 2, by go_num, by omega, by omega, by omega, hin5⟩
                        case measure => simp [intOf]; omega
                      · have e3 : ((x : Int) == (M : Int)) = false := by simp; omega
                        go_wp2
                        go_roundw
                        case rel => exact ⟨k + 2, by go_num, by omega, by omega, by omega, hin5⟩
                        case measure => simp [intOf]; omega
                  · have hg : go M N eq k x := of_decide_eq_true hc.symm
                    have hzn : Hid (∀ z : Int, (x0 : Int) ≤ z → z < ((x + 1 : Nat) : Int) → go M N eq k z) := hide (fun z h1 h2 => by
                      by_cases he : z = x
                      · subst he; exact hg
                      · exact hz.out z h1 (by omega))
                    have hxM : x < M := by have := hg.1; omega
                    clear hc hg hz
                    go_wp2
                    go_roundw
                    case rel => exact ⟨x + 1, y + 1, q, by go_num, by go_num, by omega, by omega, by omega, hzn, rfl⟩
                    case measure => simp [intOf]; omega
        · obtain ⟨curV, cc, hbV, hsV, hone, hbC, hsC, hfin⟩ := in_copy hin.out hne.symm hCV hCT hV1 hT1 hC1 hdS
          have HO := hide hone
          have HF := hide hfin
          have hnh : ∀ e, e < d + 1 → ¬ hit M N eq e := by
            intro e he
            by_cases hed : e = d
            · subst hed
              rintro ⟨h1, h2⟩
              refine hin.out.2.2.2.1 _ h1 ?_ ⟨h2, by rw [h2]; omega⟩
              unfold inR at h1; omega
            · exact hH.out e (by omega)
          have HN := hide hnh
          clear hone hfin hin hnh
          go_wp2_with (first
            | (refine wpList_copy_all rfl _ _ 37 37 rfl 3 Tryz.underlying37 (by kernel_rfl) gC gV (2 * (M + N) + 1) _ _ (by rfl) (by rfl) cc curV 3 3 hbC hbV hsC hsV HO.out ?_; intro w5 hB5 hg5; have ht5 := (HF.out w5 (2 * (M + N) + 1) hB5 hg5).1))
          have hf := (HF.out w5 (2 * (M + N) + 1) hB5 hg5).2
          go_roundw
          case rel => exact ⟨d + 1, by go_num, by omega, hide ⟨hf.2.1 (by omega), hf.1, HN.out, hf.2.2⟩⟩
          case measure => simp [intOf]; omega
    · exfalso
      have hd2 : d = M + N + 1 := by omega
      obtain ⟨D, hD, hh, _⟩ := least_hit (M := M) (N := N) (eq := eq)
      exact hrel.out.2.2.1 D (by omega) hh
end Go.Proofs.YtgegialfhkgggaaGreatDoor
namespace Go.Proofs.YtgegialfhkgggaaGreatDoor
open Go.RowKit Mye
attribute [local go_sem ↓] Go.wp_at_zero Go.wp_at_succ

/-- The places from lo on, up to D, as slices of two numbers; the others are nil. -/
def SnRows (w : World) (M N D gS lo : Nat) (P : Nat → Nat × Nat) : Prop := ∃ ts, Blk w gS 37 ts ∧ ts.size = M + N + 1 ∧
  (∀ j, lo ≤ j → j ≤ D → ∃ g c, ts[j]? = some (.slice (some ⟨g, 0, none⟩) 2 c) ∧ g ≠ gS ∧ Blk w g 3 #[.int .i64 ((P j).1 : Nat), .int .i64 ((P j).2 : Nat)]) ∧
  ∀ j, j ≤ M + N → (j < lo ∨ D < j) → ts[j]? = some (.slice none 0 0)
/-- What backtrack leaves. -/
def BackRes (w : World) (M N D : Nat) (eq : Nat → Nat → Bool) (e : Ending) (w' : World) : Prop := ∃ (gS c s : Nat) (P : Nat → Nat × Nat), e = .returned (.slice (some ⟨gS, 0, none⟩) (M + N + 1) c) ∧ Mye.Way M N eq s D P ∧ SnRows w' M N D gS s P ∧ Below w.heap.size w w'
/-- At the head of its loop. -/
def BackRel (w wr : World) (M N D : Nat) (eq : Nat → Nat → Bool) (gS d x y : Nat) : Prop := ∃ (e : Nat) (k : Int) (P : Nat → Nat × Nat), e = min d D ∧ inR e k ∧ (x : Int) = FR M N eq e k ∧ (y : Int) = x - k ∧ P e = (x, y) ∧ P D = (M, N) ∧
  (∀ j, e ≤ j → j < D → Step eq (P j).1 (P j).2 (P (j + 1)).1 (P (j + 1)).2) ∧ SnRows wr M N D gS (e + 1) P ∧ Below w.heap.size w wr

theorem sn_kept {w w1 : World} {M N D gS lo : Nat} {P : Nat → Nat × Nat} (h : SnRows w M N D gS lo P) (hb : Below w.heap.size w w1) : SnRows w1 M N D gS lo P := by
  obtain ⟨ts, h1, h2, h3, h4⟩ := h
  refine ⟨ts, h1.kept hb, h2, fun j a b => ?_, h4⟩
  obtain ⟨g, c, e1, e2, e3⟩ := h3 j a b
  exact ⟨g, c, e1, e2, e3.kept hb⟩
/-- A place more. -/
theorem sn_set {w : World} {M N D gS e x y : Nat} {P Q : Nat → Nat × Nat} (h : SnRows w M N D gS (e + 1) P) (he : e ≤ D) (hD : D ≤ M + N) (hP : P e = (x, y)) (hQ : ∀ j, e ≤ j → Q j = P j) :
    SnRows ((w.setCell ⟨gS, e, none⟩ (.slice (some ⟨w.heap.size, 0, none⟩) 2 2)).alloc (.cells #[.int .i64 (x : Nat), .int .i64 (y : Nat)] 3)) M N D gS e Q := by
  obtain ⟨ts, h1, h2, h3, h4⟩ := h
  have l1 := h1.lt
  refine ⟨_, (h1.set_ e _).alloc _, by simp [h2], fun j a b => ?_, fun j a b => ?_⟩
  · by_cases hj : j = e
    · subst hj
      refine ⟨w.heap.size, 2, by rw [Array.getElem?_setIfInBounds_self_of_lt (by omega)], by omega, ?_⟩
      rw [hQ j (Nat.le_refl _), hP]
      exact Blk.newAt (by simp)
    · obtain ⟨g, c, e1, e2, e3⟩ := h3 j (by omega) b
      refine ⟨g, c, by rw [Array.getElem?_setIfInBounds_ne (by omega)]; exact e1, e2, ?_⟩
      rw [hQ j a]
      exact (e3.far e2 _).alloc _
  · rw [Array.getElem?_setIfInBounds_ne (by omega)]
    exact h4 j a (by omega)
theorem sn_cell {w : World} {M N D gS lo j : Nat} {P : Nat → Nat × Nat} (h : SnRows w M N D gS lo P) (hj : j ≤ M + N) (hl : j < lo) : w.cell? ⟨gS, j, none⟩ = some (.slice none 0 0) ∧ w.frozen? ⟨gS, j, none⟩ = false := by
  obtain ⟨ts, h1, h2, h3, h4⟩ := h
  exact ⟨h1.get (h4 j hj (Or.inl hl)), h1.frozen _⟩

theorem back_start0 {w w1 : World} {M N D : Nat} {eq : Nat → Nat → Bool} (hown : w1.ownsRow w.heap.size 37 1 (.slice (some ⟨w.heap.size, 0, none⟩) (M + N + 1) (M + N + 1)) (M + N + 1) (madeCells (Value.slice none 0 0).cells ((M + N + 1) * 1)).toList)
    (hg : w.grownBy w1 none) (hh : hit M N eq D) (hD : D ≤ M + N) : BackRel w w1 M N D eq w.heap.size (M + N) M N := by
  obtain ⟨cc, b1, s1, z1⟩ := own_made rfl hown
  refine ⟨D, (M : Int) - N, fun _ => (M, N), by omega, hh.1, hh.2.symm, by omega, rfl, rfl, fun j a b => by omega, ⟨cc, b1, s1, fun j a b => by omega, fun j a _ => z1 j (by omega)⟩, grown_none hg⟩
/-- Where a text is empty, all of the other one is the last round. -/
theorem hit_edge {M N D : Nat} {eq : Nat → Nat → Bool} (hh : hit M N eq D) (hD : D ≤ M + N) (h : M = 0 ∨ N = 0) : D = M + N := by
  have := hh.1
  unfold inR at this
  omega
theorem back_next {w wr : World} {M N D : Nat} {eq : Nat → Nat → Bool} {gS d x y : Nat} (h : BackRel w wr M N D eq gS (d + 1) x y) (hd : d < D) (hD : D ≤ M + N) (hgS : w.heap.size ≤ gS) :
    ∃ (k : Int) (x' y' : Nat), (x : Int) = FR M N eq (d + 1) k ∧ (x : Int) - y = k ∧ inR (d + 1) k ∧ inR d (prevK (FR M N eq d) ((d : Int) + 1) k) ∧ (x' : Int) = FR M N eq d (prevK (FR M N eq d) ((d : Int) + 1) k) ∧ (y' : Int) = x' - prevK (FR M N eq d) ((d : Int) + 1) k ∧
      ∀ W, (W = (wr.setCell ⟨gS, d + 1, none⟩ (.slice (some ⟨wr.heap.size, 0, none⟩) 2 2)).alloc (.cells #[.int .i64 (x : Nat), .int .i64 (y : Nat)] 3)) → ∀ n, BackRel w (W.drewN n) M N D eq gS d x' y' := by
  obtain ⟨e, k, P, he, hin, hx, hy, hPe, hPD, hst, hsn, hbl⟩ := h
  have he' : e = d + 1 := by omega
  subst he'
  obtain ⟨hin', x', y', x2, y2, e1, e2, e3, e4, hstep⟩ := back_step (M := M) (N := N) (eq := eq) hin
  have hx2 : x2 = x := by omega
  have hy2 : y2 = y := by omega
  subst hx2; subst hy2
  refine ⟨k, x', y', hx, by omega, hin, hin', e1, e2, fun W hW n => ?_⟩
  obtain ⟨Q, hQ1, hQ2⟩ : ∃ Q : Nat → Nat × Nat, Q d = (x', y') ∧ ∀ j, j ≠ d → Q j = P j := ⟨fun j => if j = d then (x', y') else P j, by simp, fun j h => if_neg h⟩
  refine ⟨d, _, Q, by omega, hin', e1, e2, hQ1, by rw [hQ2 _ (by omega)]; exact hPD, fun j a b => ?_, ?_, ?_⟩
  · by_cases hj : j = d
    · subst hj
      rw [hQ1, hQ2 _ (by omega), hPe]
      exact hstep
    · rw [hQ2 _ hj, hQ2 _ (by omega)]
      exact hst j (by omega) b
  · have h2 := sn_set (Q := Q) hsn (by omega) hD hPe (fun j hj => hQ2 j (by omega))
    rw [← hW] at h2
    exact h2
  · have h2 : Below w.heap.size w W := by rw [hW]; exact (hbl.setCell hgS _).alloc (by simpa using hbl.size) _
    exact ⟨h2.os, h2.tape, h2.output, h2.size, h2.block⟩
theorem back_end {w wr : World} {M N D : Nat} {eq : Nat → Nat → Bool} {gS d x y : Nat} (h : BackRel w wr M N D eq gS d x y) (hd : d ≤ D) (hD : D ≤ M + N) (hgS : w.heap.size ≤ gS) (he : x = 0 ∨ y = 0 ∨ d = 0) (c : Nat) :
    BackRes w M N D eq (.returned (.slice (some ⟨gS, 0, none⟩) (M + N + 1) c)) ((wr.setCell ⟨gS, d, none⟩ (.slice (some ⟨wr.heap.size, 0, none⟩) 2 2)).alloc (.cells #[.int .i64 (x : Nat), .int .i64 (y : Nat)] 3)) := by
  obtain ⟨e, k, P, he', hin, hx, hy, hPe, hPD, hst, hsn, hbl⟩ := h
  have he2 : e = d := by omega
  subst he2
  refine ⟨gS, c, e, P, rfl, ⟨hd, ?_, hPD, hst⟩, sn_set hsn hd hD hPe (fun _ _ => rfl), (hbl.setCell hgS _).alloc (by simpa using hbl.size) _⟩
  rw [hPe]
  exact back_start hin hx hy he
theorem back_pass {w wr : World} {M N D : Nat} {eq : Nat → Nat → Bool} {gS d x y : Nat} (h : BackRel w wr M N D eq gS (d + 1) x y) (hd : D ≤ d) : BackRel w wr M N D eq gS d x y := by
  obtain ⟨e, k, P, he, h2⟩ := h
  exact ⟨e, k, P, by omega, h2⟩
theorem back_far {w wr : World} {M N D : Nat} {eq : Nat → Nat → Bool} {gS d x y : Nat} (h : BackRel w wr M N D eq gS d x y) (hd : D ≤ d) : x = M ∧ y = N := by
  obtain ⟨e, k, P, he, hin, hx, hy, hPe, hPD, _⟩ := h
  have : e = D := by omega
  subst this
  rw [hPe] at hPD
  injection hPD with a b
  exact ⟨a, b⟩

set_option maxHeartbeats 4000000 in
set_option maxRecDepth 100000 in
theorem back_any (M N D gT c : Nat) (eq : Nat → Nat → Bool) (hS : M + N ≤ 1000000) (hD : D ≤ M + N) (hh : hit M N eq D) (w : World) (hT : TraceAt w M N eq gT [] (D + 1)) :
    Calls Tryz.prog 67 #[.slice (some ⟨gT, 0, none⟩) (M + N + 1) c, .int .i64 M, .int .i64 N, .int .i64 ((M : Int) + (N : Int))] w (BackRes w M N D eq) := by
  obtain ⟨j0, hj0, hy0, hy1, hy2⟩ := info_parts info_ints
  have HT := hide hT
  have HH := hide hh
  clear hT hh
  go_enter Tryz.func67, Tryz.ntmps67
  go_wp2_with (first
    | (refine wpList_make_full _ rfl _ _ 122 rfl w.heap.size 37 j0 _ 1 Tryz.underlying122 hj0 hy0 hy1 .i64 .i64 _ _ (M + N + 1) (by rfl) (by rfl) (by omega) (by omega) (by rw [hy2]; omega) (by unfold maxLen; omega) (Nat.le_refl _) ?_; intro w1 hown hg))
  have hR := hide (back_start0 hown hg HH.out hD)
  clear hown hg
  obtain ⟨gS, hgS⟩ : ∃ g, g = w.heap.size := ⟨_, rfl⟩
  rw [← hgS] at hR
  rw [← hgS]
  have hS1 : w.heap.size ≤ gS := by omega
  clear hgS
  go_loopw [1, 2, 10] (fun xv yv dv wr => ∃ x y d : Nat, xv = .int .i64 x ∧ yv = .int .i64 y ∧ dv = .int .i64 d ∧ d ≤ M + N ∧ Hid (BackRel w wr M N D eq gS d x y)) (fun _ _ dv _ => (intOf dv).toNat)
  case atStart => exact ⟨M, N, M + N, rfl, rfl, int_eq' (by omega), Nat.le_refl _, hR⟩
  case round =>
    obtain ⟨x, y, d, rfl, rfl, rfl, hd, hrel⟩ := hrel
    clear hR
    by_cases hc : 0 < x ∧ 0 < y ∧ 0 < d
    · obtain ⟨f, hf⟩ : ∃ f, d = f + 1 := ⟨d - 1, by omega⟩
      have hfi : (d : Int) - 1 = f := by omega
      have q1 : decide ((0 : Int) < (x : Int)) = true := by simp; omega
      have q2 : decide ((0 : Int) < (y : Int)) = true := by simp; omega
      have q3 : decide ((0 : Int) < (d : Int)) = true := by simp; omega
      have hbl : Below w.heap.size w wr := by obtain ⟨e, k, P, _, _, _, _, _, _, _, _, hb⟩ := hrel.out; exact hb
      obtain ⟨ts, t1, t2, t3, t4⟩ := HT.out
      have k1 := t1.kept hbl
      have lT := k1.lt
      by_cases hdD : D ≤ f
      · have hcell := k1.get (t4 d (by omega) hd)
        have hp := hide (back_pass (d := f) (hf ▸ hrel.out) hdD)
        clear hrel t1 t2 t3 t4 k1 hbl hf
        go_wp2
        go_roundw
        case rel => exact ⟨x, y, f, rfl, rfl, int_eq' (by omega), by omega, hp⟩
        case measure => simp [intOf]; omega
      · obtain ⟨g, c', h1, _, hrow⟩ := t3 d (by omega)
        have hcell := k1.get h1
        have hrow2 := hide (hrow.kept hbl)
        obtain ⟨k, x', y', f1, f2, f3, f4, f5, f6, hnext⟩ := back_next (d := f) (hf ▸ hrel.out) (by omega) hD hS1
        obtain ⟨lo, P, hsn⟩ : ∃ lo P, SnRows wr M N D gS lo P ∧ d < lo := by
          obtain ⟨e, k, P, he, _, _, _, _, _, _, hsn, _⟩ := hrel.out
          exact ⟨e + 1, P, hsn, by omega⟩
        have hsc := sn_cell hsn.1 hd hsn.2
        have lS : gS < wr.heap.size := by obtain ⟨ts, s1, _⟩ := hsn.1; exact s1.lt
        have lg : g < wr.heap.size := by obtain ⟨cur, b1, _⟩ := hrow2.out; exact b1.lt
        have hgS : g ≠ gS := by
          obtain ⟨cur, b1, _⟩ := hrow
          have := b1.lt
          omega
        have HN := hide hnext
        have F1 := hide f1
        have F3 := f3
        unfold inR at F3
        have f2' : (x : Int) - (y : Int) = k := f2
        have hxb := FR_le (M := M) (N := N) (eq := eq) (f + 1) k f3
        rw [← f1] at hxb
        obtain ⟨kp, hkp⟩ : ∃ kp, kp = prevK (FR M N eq f) ((f : Int) + 1) k := ⟨_, rfl⟩
        rw [← hkp] at f4 f5 f6
        have HFD := hide hf
        clear hrel t1 t2 t3 t4 k1 hbl h1 hrow hnext hsn f1 hf
        go_upto_region 10 with fail
        refine wp_gen ?_
        intro W hW
        have hN := hide (HN.out W (by rw [hW, HFD.out]))
        have hrow3 : Hid (RowAt W g (M + N) (inR f) (FR M N eq f)) := hide (by
          have h := hrow2.out
          rw [HFD.out] at h
          obtain ⟨cur, b1, b2⟩ := h
          exact ⟨cur, by rw [hW]; exact (b1.far hgS _).alloc _, b2⟩)
        clear hW HN hrow2 hsc hcell
        obtain ⟨cu, hc⟩ : ∃ c, c = decide (k = -((f : Int) + 1) ∨ (k ≠ (f : Int) + 1 ∧ FR M N eq f (k - 1) < FR M N eq f (k + 1))) := ⟨_, rfl⟩
        have hcells : Hid (∀ i, inR f i → W.cell? ⟨g, (i + ((M : Int) + (N : Int))).toNat, none⟩ = some (.int .i64 (FR M N eq f i))) := hide (fun i hi => by
          obtain ⟨cur, b1, b2, _, b3⟩ := hrow3.out
          exact b1.get (b3 i hi))
        go_cut [73] (fun s73 wx => s73 = .bool cu ∧ ∃ n, wx = W.drewN n)
        case first =>
          by_cases p1 : k = -((f : Int) + 1)
          · have e1 : (k == -(d : Int)) = true := by simp; omega
            have ec : cu = true := by rw [hc]; simp [p1]
            have HC := hide ec
            clear hc ec p1
            go_quiet (fail)
            go_wp2
            go_meet
            exact ⟨by rw [HC.out], _, rfl⟩
          · have e1 : (k == -(d : Int)) = false := by simp; omega
            by_cases p2 : k = (f : Int) + 1
            · have e2 : (k != (d : Int)) = false := by simp; omega
              have ec : cu = false := by rw [hc]; simp [p2]; omega
              have HC := hide ec
              clear hc ec p1 p2
              go_quiet (fail)
              go_wp2
              go_meet
              exact ⟨by rw [HC.out], _, rfl⟩
            · have e2 : (k != (d : Int)) = true := by simp; omega
              have c1 := hcells.out (k - 1) (by unfold inR; omega)
              have c2 := hcells.out (k + 1) (by unfold inR; omega)
              have ec : cu = decide (FR M N eq f (k - 1) < FR M N eq f (k + 1)) := by rw [hc]; simp [p1, p2]
              generalize FR M N eq f (k - 1) = v1 at *
              generalize FR M N eq f (k + 1) = v2 at *
              have HC := hide ec
              have r1 : 0 ≤ k - 1 + ((M : Int) + (N : Int)) := by omega
              have r2 : k - 1 + ((M : Int) + (N : Int)) < 2 * ((M : Int) + N) + 1 := by omega
              have r3 : 0 ≤ k + 1 + ((M : Int) + (N : Int)) := by omega
              have r4 : k + 1 + ((M : Int) + (N : Int)) < 2 * ((M : Int) + N) + 1 := by omega
              clear hc ec p1 p2
              go_quiet (fail)
              go_wp2
              go_meet
              exact ⟨by rw [HC.out], _, rfl⟩
        case rest =>
          obtain ⟨rfl, n, rfl⟩ := hcut
          have hN2 := hide (hN.out n)
          have hcells2 : Hid (∀ i, inR f i → (W.drewN n).cell? ⟨g, (i + ((M : Int) + (N : Int))).toNat, none⟩ = some (.int .i64 (FR M N eq f i))) := hide hcells.out
          clear hN hcells hrow3
          generalize W.drewN n = W2 at *
          go_upto_if 73 with fail
          go_cut [13] (fun s13 wx => s13 = .int .i64 kp ∧ wx = W2)
          case first =>
            cases cu
            · have hp : kp = k - 1 := by rw [hkp]; unfold prevK; rw [if_neg (of_decide_eq_false hc.symm)]
              have HP := hide hp
              clear hc hp hkp f4 f5 f6
              go_wp2
              go_meet
              exact ⟨by rw [HP.out], rfl⟩
            · have hp : kp = k + 1 := by rw [hkp]; unfold prevK; rw [if_pos (of_decide_eq_true hc.symm)]
              have HP := hide hp
              clear hc hp hkp f4 f5 f6
              go_wp2
              go_meet
              exact ⟨by rw [HP.out], rfl⟩
          case rest =>
            obtain ⟨rfl, rfl⟩ := hcut
            have c3 := hcells2.out kp f4
            rw [← f5] at c3
            have F4 := f4
            unfold inR at F4
            have hxb2 := FR_le (M := M) (N := N) (eq := eq) f kp f4
            rw [← f5] at hxb2
            have r1 : 0 ≤ kp + ((M : Int) + (N : Int)) := by omega
            have r2 : kp + ((M : Int) + (N : Int)) < 2 * ((M : Int) + N) + 1 := by omega
            have HY := hide f6
            clear hc hkp f5 f6
            go_wp2
            go_roundw
            case rel => exact ⟨x', y', f, rfl, by first | rfl | exact int_eq' (by have := HY.out; omega), int_eq' (by omega), by omega, hN2⟩
            case measure => simp [intOf]; omega
    · have hdD : d ≤ D := by
        rcases Nat.lt_or_ge D d with h | h
        · exfalso
          obtain ⟨rfl, rfl⟩ := back_far hrel.out (by omega)
          have := hit_edge HH.out hD (by omega)
          omega
        · exact h
      obtain ⟨lo, P, hsn⟩ : ∃ lo P, SnRows wr M N D gS lo P ∧ d < lo := by
        obtain ⟨e, k, P, he, _, _, _, _, _, _, hsn, _⟩ := hrel.out
        exact ⟨e + 1, P, hsn, by omega⟩
      obtain ⟨hsc, hsf⟩ := sn_cell hsn.1 hd hsn.2
      have lS : gS < wr.heap.size := by obtain ⟨ts, s1, _⟩ := hsn.1; exact s1.lt
      clear hsn
      have hE := hide (back_end hrel.out hdD hD hS1 (by omega) (M + N + 1))
      clear hrel
      by_cases h1 : 0 < x
      · have q1 : decide ((0 : Int) < (x : Int)) = true := by simp; omega
        by_cases h2 : 0 < y
        · have q2 : decide ((0 : Int) < (y : Int)) = true := by simp; omega
          obtain rfl : d = 0 := by omega
          clear hc
          go_wp2
          go_ret
          exact hE.out
        · obtain rfl : y = 0 := by omega
          clear hc
          go_wp2
          go_ret
          exact hE.out
      · obtain rfl : x = 0 := by omega
        clear hc
        go_wp2
        go_ret
        exact hE.out
end Go.Proofs.YtgegialfhkgggaaGreatDoor
namespace Go.Proofs.YtgegialfhkgggaaGreatDoor
open Go.RowKit Mye
attribute [local go_sem ↓] Go.wp_at_zero Go.wp_at_succ

theorem Blk.five {w : World} {g : Nat} {t : TypeId} {a b c d e : Value} (h : Blk w g t #[a, b, c, d, e]) :
    (w.cell? ⟨g, 0, none⟩ = some a ∧ w.cell? ⟨g, 1, none⟩ = some b ∧ w.cell? ⟨g, 2, none⟩ = some c ∧ w.cell? ⟨g, 3, none⟩ = some d ∧ w.cell? ⟨g, 4, none⟩ = some e) ∧
    (w.frozen? ⟨g, 0, none⟩ = false ∧ w.frozen? ⟨g, 1, none⟩ = false ∧ w.frozen? ⟨g, 2, none⟩ = false ∧ w.frozen? ⟨g, 3, none⟩ = false ∧ w.frozen? ⟨g, 4, none⟩ = false) :=
  ⟨⟨h.cell 0, h.cell 1, h.cell 2, h.cell 3, h.cell 4⟩, h.frozen 0, h.frozen 1, h.frozen 2, h.frozen 3, h.frozen 4⟩
theorem Blk.one_ {w : World} {g : Nat} {t : TypeId} {a : Value} (h : Blk w g t #[a]) : w.cell? ⟨g, 0, none⟩ = some a ∧ w.frozen? ⟨g, 0, none⟩ = false := ⟨h.cell 0, h.frozen 0⟩
/-- All but three blocks are as they were. -/
structure Off3 (g h k : Nat) (W w' : World) : Prop where
  os : w'.os = W.os
  tape : w'.tape = W.tape
  output : w'.output = W.output
  size : W.heap.size ≤ w'.heap.size
  block : ∀ b, b < W.heap.size → b ≠ g → b ≠ h → b ≠ k → w'.heap[b]? = W.heap[b]?
theorem Off3.refl (g h k : Nat) (W : World) : Off3 g h k W W := ⟨rfl, rfl, rfl, Nat.le_refl _, fun _ _ _ _ _ => rfl⟩
theorem Off3.set {g h k : Nat} {W w' : World} (H : Off3 g h k W w') {p : Addr} (hp : p.block = g ∨ p.block = h ∨ p.block = k) (u : Value) : Off3 g h k W (w'.setCell p u) :=
  ⟨H.os, H.tape, H.output, by simpa using H.size, fun b hb h1 h2 h3 => ((Below.heap_setCell w' p u b (by rintro rfl; rcases hp with h | h | h <;> contradiction))).trans (H.block b hb h1 h2 h3)⟩
theorem Off3.drewN {g h k : Nat} {W w' : World} (H : Off3 g h k W w') (n : Nat) : Off3 g h k W (w'.drewN n) := ⟨H.os, H.tape, H.output, H.size, H.block⟩
theorem Off3.drew {g h k : Nat} {W w' : World} (H : Off3 g h k W w') : Off3 g h k W w'.drew := ⟨H.os, H.tape, H.output, H.size, H.block⟩
/-- What noting an operation leaves. -/
def AddRes (w : World) (g gs gi : Nat) (cells ts : Array Value) (n : Nat) (e : Ending) (w' : World) : Prop := (∃ v, e = .returned v) ∧ Blk w' g 100 cells ∧ Blk w' gs 96 (ts.setIfInBounds n (.pointer (some ⟨g, 0, none⟩))) ∧ Blk w' gi 3 #[.int .i64 ((n : Int) + 1)] ∧ Off3 g gs gi w w'

theorem add_nil (i2 j2 : Int) (gb gX gi : Nat) (w : World) : Calls Tryz.prog 68 #[.pointer none, .int .i64 i2, .int .i64 j2, .pointer (some ⟨gb, 0, none⟩), .pointer (some ⟨gX, 0, none⟩), .pointer (some ⟨gi, 0, none⟩)] w fun e w' => (∃ v, e = .returned v) ∧ w' = w := by
  go_enter Tryz.func68, Tryz.ntmps68
  go_wp2
  exact bodyPost_ret (v := .tuple #[]) (by simp [results, Tryz.results68, go_sem]) rfl ⟨⟨_, rfl⟩, rfl⟩

set_option maxHeartbeats 1000000 in
theorem add_del (g gb gX gs gi n S c : Nat) (a i2 j j2 : Int) (ts : Array Value) (w : World) (hg : Blk w g 100 #[.int .i64 0, .slice none 0 0, .int .i64 a, .int .i64 0, .int .i64 j]) (hX : Blk w gX 94 #[.slice (some ⟨gs, 0, none⟩) S c])
    (hi : Blk w gi 3 #[.int .i64 n]) (hs : Blk w gs 96 ts) (hS : ts.size = S) (hn : n < S) (hb : S ≤ 1000000) (d1 : g ≠ gs) (d2 : g ≠ gi) (d3 : gs ≠ gi) (d4 : g ≠ gX) (d5 : gX ≠ gs) (d6 : gX ≠ gi) :
    Calls Tryz.prog 68 #[.pointer (some ⟨g, 0, none⟩), .int .i64 i2, .int .i64 j2, .pointer (some ⟨gb, 0, none⟩), .pointer (some ⟨gX, 0, none⟩), .pointer (some ⟨gi, 0, none⟩)] w
      (AddRes w g gs gi #[.int .i64 0, .slice none 0 0, .int .i64 a, .int .i64 i2, .int .i64 j] ts n) := by
  have f1 := hg.five
  have f2 := hX.one_
  have f3 := hi.one_
  obtain ⟨v, f4, f5⟩ := (⟨ts[n]'(by omega), hs.get (Array.getElem?_eq_getElem _), hs.frozen n⟩ : ∃ v, w.cell? ⟨gs, n, none⟩ = some v ∧ w.frozen? ⟨gs, n, none⟩ = false)
  have n1 : ¬ gs = g := fun e => d1 e.symm
  have n2 : ¬ gi = g := fun e => d2 e.symm
  have n3 : ¬ gi = gs := fun e => d3 e.symm
  have n4 : ¬ gX = g := fun e => d4 e.symm
  go_enter Tryz.func68, Tryz.ntmps68
  go_wp2
  refine bodyPost_end (v := .tuple #[]) (by simp [results, Tryz.results68, go_sem]) rfl ⟨⟨_, rfl⟩, ?_, ?_, ?_, ?_⟩
  · exact ((hg.set_ 3 _).far d1 _).far d2 _
  · exact ((hs.far d1.symm _).set_ n _).far d3 _
  · exact ((hi.far d2.symm _).far d3.symm _).set_ 0 _
  · exact (((Off3.refl g gs gi w).set (p := ⟨g, 3, none⟩) (Or.inl rfl) _).set (p := ⟨gs, n, none⟩) (Or.inr (Or.inl rfl)) _).set (p := ⟨gi, 0, none⟩) (Or.inr (Or.inr rfl)) _

set_option maxHeartbeats 1000000 in
theorem add_ins (g gb gX gs gi n S c N cb bb bo a j k : Nat) (i2 : Int) (ts : Array Value) (w : World) (hg : Blk w g 100 #[.int .i64 1, .slice none 0 0, .int .i64 a, .int .i64 0, .int .i64 j]) (hX : Blk w gX 94 #[.slice (some ⟨gs, 0, none⟩) S c])
    (hi : Blk w gi 3 #[.int .i64 n]) (hs : Blk w gs 96 ts) (hbx : Blk w gb 38 #[.slice (some ⟨bb, bo, none⟩) N cb]) (hjk : j < k) (hk : k ≤ N) (hcb : N ≤ cb)
    (hS : ts.size = S) (hn : n < S) (hb : S ≤ 1000000) (hN : N ≤ 1000000) (d1 : g ≠ gs) (d2 : g ≠ gi) (d3 : gs ≠ gi) (d4 : g ≠ gX) (d5 : gX ≠ gs) (d6 : gX ≠ gi) (d7 : g ≠ gb) :
    Calls Tryz.prog 68 #[.pointer (some ⟨g, 0, none⟩), .int .i64 i2, .int .i64 k, .pointer (some ⟨gb, 0, none⟩), .pointer (some ⟨gX, 0, none⟩), .pointer (some ⟨gi, 0, none⟩)] w
      (AddRes w g gs gi #[.int .i64 1, .slice (some ⟨bb, bo + j, none⟩) (k - j) (cb - j), .int .i64 a, .int .i64 i2, .int .i64 j] ts n) := by
  have f1 := hg.five
  have f2 := hX.one_
  have f3 := hi.one_
  have f6 := hbx.one_
  obtain ⟨v, f4, f5⟩ := (⟨ts[n]'(by omega), hs.get (Array.getElem?_eq_getElem _), hs.frozen n⟩ : ∃ v, w.cell? ⟨gs, n, none⟩ = some v ∧ w.frozen? ⟨gs, n, none⟩ = false)
  have n1 : ¬ gs = g := fun e => d1 e.symm
  have n2 : ¬ gi = g := fun e => d2 e.symm
  have n3 : ¬ gi = gs := fun e => d3 e.symm
  have n4 : ¬ gX = g := fun e => d4 e.symm
  have n5 : ¬ gb = g := fun e => d7 e.symm
  have hlt : g < w.heap.size := hg.lt
  go_enter Tryz.func68, Tryz.ntmps68
  go_upto_region 3 with fail
  go_region
  go_wp2
  refine bodyPost_end (v := .tuple #[]) (by simp [results, Tryz.results68, go_sem]) rfl ⟨⟨_, rfl⟩, ?_, ?_, ?_, ?_⟩
  · repeat' (first | (with_reducible refine Blk.far ?_ (by dsimp only; omega) _) | (with_reducible refine Blk.drewN ?_) | (with_reducible refine Blk.drew ?_))
    exact (hg.set_ 3 _).set_ 1 _
  · repeat' (first | (with_reducible refine Blk.far ?_ (by dsimp only; omega) _) | (with_reducible refine Blk.drewN ?_) | (with_reducible refine Blk.drew ?_))
    refine Blk.set_ ?_ n _
    repeat' (first | (with_reducible exact hs) | (with_reducible refine Blk.far ?_ (by dsimp only; omega) _) | (with_reducible refine Blk.drewN ?_) | (with_reducible refine Blk.drew ?_))
  · refine Blk.set_ (cs := #[.int .i64 n]) ?_ 0 _
    repeat' (first | (with_reducible exact hi) | (with_reducible refine Blk.far ?_ (by dsimp only; omega) _) | (with_reducible refine Blk.drewN ?_) | (with_reducible refine Blk.drew ?_))
  · repeat' (first | (with_reducible exact Off3.refl _ _ _ _) | (with_reducible refine Off3.set ?_ (by dsimp only; omega) _) | (with_reducible refine Off3.drewN ?_ _) | (with_reducible refine Off3.drew ?_))
end Go.Proofs.YtgegialfhkgggaaGreatDoor
namespace Go.Proofs.YtgegialfhkgggaaGreatDoor
open Go.RowKit Mye
attribute [local go_sem ↓] Go.wp_at_zero Go.wp_at_succ

/-- The place ahead of snake j, and the operations till there. -/
def ptAt (P : Nat → Nat × Nat) (s j : Nat) : Nat × Nat := if j ≤ s then (0, 0) else P (j - 1)
def opsAt (P : Nat → Nat × Nat) (s j : Nat) : List Opn := if j ≤ s then [] else opsTo P s (j - 1 - s)
theorem ptAt_succ (P : Nat → Nat × Nat) {s j : Nat} (h : s ≤ j) : ptAt P s (j + 1) = P j := by unfold ptAt; rw [if_neg (by omega)]; rfl
theorem opsAt_succ (P : Nat → Nat × Nat) {s j : Nat} (h : s ≤ j) : opsAt P s (j + 1) = opsAt P s j ++ opOf (ptAt P s j).1 (ptAt P s j).2 (P j).1 (P j).2 := by
  unfold opsAt ptAt
  rw [if_neg (by omega)]
  by_cases hj : j = s
  · subst hj
    rw [if_pos (Nat.le_refl _), if_pos (Nat.le_refl _), show j + 1 - 1 - j = 0 by omega]
    rfl
  · rw [if_neg (by omega), if_neg (by omega)]
    obtain ⟨m, rfl⟩ : ∃ m, j = s + m + 1 := ⟨j - s - 1, by omega⟩
    rw [show s + m + 1 + 1 - 1 - s = m + 1 by omega, show s + m + 1 - 1 - s = m by omega, show s + m + 1 - 1 = s + m by omega]
    rfl
theorem script_len {eq : Nat → Nat → Bool} {ops : List Opn} {x y : Nat} (h : Script eq ops x y) : ops.length ≤ cost ops := by
  induction h with
  | nil => exact Nat.le_refl _
  | del hs hn ih => rw [cost_append, List.length_append]; simp [cost]; omega
  | ins hs hn ih => rw [cost_append, List.length_append]; simp [cost]; omega
  | diag hs he ih => exact ih
/-- How far the lines are left out and put in from one place to the next. -/
def nDel (a b : Nat × Nat) : Nat := ((b.1 : Int) - b.2 - ((a.1 : Int) - a.2)).toNat
def nIns (a b : Nat × Nat) : Nat := ((a.1 : Int) - a.2 - ((b.1 : Int) - b.2)).toNat
theorem way_adv {M N s D : Nat} {eq : Nat → Nat → Bool} {P : Nat → Nat × Nat} (h : Mye.Way M N eq s D P) {j : Nat} (hs : s ≤ j) (hj : j ≤ D) :
    (ptAt P s j).1 + nDel (ptAt P s j) (P j) ≤ (P j).1 ∧ (ptAt P s j).2 + nIns (ptAt P s j) (P j) ≤ (P j).2 ∧ (P j).1 ≤ M ∧ (P j).2 ≤ N := by
  have hl := Mye.Way.le h (D - j) j (by omega) hs
  unfold nDel nIns ptAt
  by_cases he : j ≤ s
  · have : j = s := by omega
    subst this
    rw [if_pos he]
    have h2 := h.2.1
    simp only
    rcases h2 with ⟨e1, e2⟩ | ⟨e1, e2⟩ | ⟨e1, e2, _⟩ <;> omega
  · rw [if_neg he]
    have h2 := h.2.2.2 (j - 1) (by omega) (by omega)
    rw [show j - 1 + 1 = j by omega] at h2
    rcases h2 with ⟨m, e1, e2, _⟩ | ⟨m, e1, e2, _⟩ <;> omega

theorem below_drewN {B : Nat} {w W : World} (h : Below B w W) (n : Nat) : Below B w (W.drewN n) := ⟨h.os, h.tape, h.output, h.size, h.block⟩

/-- An operation's cells. -/
def opCells (bb bo cb : Nat) : Opn → Array Value
  | .del a b j => #[.int .i64 0, .slice none 0 0, .int .i64 a, .int .i64 b, .int .i64 j]
  | .ins a j k => #[.int .i64 1, .slice (some ⟨bb, bo + j, none⟩) (k - j) (cb - j), .int .i64 a, .int .i64 a, .int .i64 j]
/-- The operations noted so far. -/
def OMem (W wr : World) (gi gX gs S bb bo cb : Nat) (ops : List Opn) : Prop := Blk wr gi 3 #[.int .i64 (ops.length : Nat)] ∧ Blk wr gX 94 #[.slice (some ⟨gs, 0, none⟩) S S] ∧
  (∃ ts, Blk wr gs 96 ts ∧ ts.size = S ∧ ∀ j (h : j < ops.length), ∃ g, ts[j]? = some (.pointer (some ⟨g, 0, none⟩)) ∧ g ≠ gi ∧ g ≠ gs ∧ g ≠ gX ∧ Blk wr g 100 (opCells bb bo cb ops[j])) ∧ Below W.heap.size W wr
theorem OMem.kept {W wr w1 : World} {gi gX gs S bb bo cb : Nat} {ops : List Opn} (h : OMem W wr gi gX gs S bb bo cb ops) (hb : Below wr.heap.size wr w1) : OMem W w1 gi gX gs S bb bo cb ops := by
  obtain ⟨h1, h2, ⟨ts, h3, h4, h5⟩, h6⟩ := h
  refine ⟨h1.kept hb, h2.kept hb, ⟨ts, h3.kept hb, h4, fun j hj => ?_⟩, h6.trans (hb.mono h6.size)⟩
  obtain ⟨g, a, b, c, d, e⟩ := h5 j hj
  exact ⟨g, a, b, c, d, e.kept hb⟩
/-- An operation more. -/
theorem OMem.add {W w0 wr w' : World} {gi gX gs S bb bo cb g : Nat} {ops : List Opn} {op : Opn} {ts : Array Value} {e : Ending} (h0 : OMem W w0 gi gX gs S bb bo cb ops) (hb : Below w0.heap.size w0 wr) (hg : w0.heap.size ≤ g)
    (hts : Blk wr gs 96 ts) (hr : AddRes wr g gs gi (opCells bb bo cb op) ts ops.length e w') (hn : ops.length < S) (d1 : gX ≠ gs) (d2 : gX ≠ gi) (hWi : W.heap.size ≤ gi) (hWs : W.heap.size ≤ gs) : OMem W w' gi gX gs S bb bo cb (ops ++ [op]) := by
  obtain ⟨h1, h2, ⟨ts0, h3, h4, h5⟩, h6⟩ := h0
  obtain ⟨_, r1, r2, r3, r4⟩ := hr
  have he : ts = ts0 := by
    have := h3.kept hb
    unfold Blk at this hts
    rw [this] at hts
    injection hts with hts
    injection hts with hts
    exact hts.symm
  subst he
  have l1 := h1.lt
  have l2 := h2.lt
  have l3 := h3.lt
  have hz := hb.size
  have oth : ∀ {b : Nat} {t : TypeId} {cs : Array Value}, Blk w0 b t cs → b ≠ gs → b ≠ gi → Blk w' b t cs := by
    intro b t cs hB n1 n2
    have hl := hB.lt
    exact (r4.block b (by omega) (by omega) n1 n2).trans (hB.kept hb)
  refine ⟨by rw [List.length_append]; exact r3, oth h2 d1 d2, ⟨_, r2, by simp [h4], fun j hj => ?_⟩, ?_⟩
  · rw [List.length_append, List.length_singleton] at hj
    by_cases hjn : j < ops.length
    · obtain ⟨g', a, b, c, d, e⟩ := h5 j hjn
      refine ⟨g', by rw [Array.getElem?_setIfInBounds_ne (by omega)]; exact a, b, c, d, ?_⟩
      rw [List.getElem_append_left hjn]
      exact oth e c b
    · have : j = ops.length := by omega
      subst this
      refine ⟨g, by rw [Array.getElem?_setIfInBounds_self_of_lt (by omega)], by omega, by omega, by omega, ?_⟩
      rw [List.getElem_append_right (Nat.le_refl _)]
      simpa using r1
  · refine ⟨r4.os.trans (hb.os.trans h6.os), r4.tape.trans (hb.tape.trans h6.tape), r4.output.trans (hb.output.trans h6.output), ?_, fun k hk => ?_⟩
    · have := h6.size; have := r4.size; omega
    · have := h6.size
      exact (r4.block k (by omega) (by omega) (by omega) (by omega)).trans ((hb.block k (by omega)).trans (h6.block k hk))
theorem OMem.room {W wr : World} {gi gX gs S bb bo cb : Nat} {ops : List Opn} (h : OMem W wr gi gX gs S bb bo cb ops) : ∃ ts, Blk wr gs 96 ts ∧ ts.size = S := by
  obtain ⟨_, _, ⟨ts, h3, h4, _⟩, _⟩ := h
  exact ⟨ts, h3, h4⟩

/-- A loop that counts lines of one kind: none yet, or a new operation. -/
def CountRel (W0 wq : World) (x xi : Nat) (kind a j : Int) (ov : Value) : Prop := Below W0.heap.size W0 wq ∧ x ≤ xi ∧ ((xi = x ∧ ov = .pointer none) ∨ (x < xi ∧ ∃ g, W0.heap.size ≤ g ∧ ov = .pointer (some ⟨g, 0, none⟩) ∧ Blk wq g 100 #[.int .i64 kind, .slice none 0 0, .int .i64 a, .int .i64 0, .int .i64 j]))
theorem count_new {W0 wq : World} {x : Nat} {kind a j : Int} {ov : Value} (h : CountRel W0 wq x x kind a j ov) (n : Nat) :
    CountRel W0 ((wq.drewN n).alloc (.cells #[.int .i64 kind, .slice none 0 0, .int .i64 a, .int .i64 0, .int .i64 j] 100)) x (x + 1) kind a j (.pointer (some ⟨wq.heap.size, 0, none⟩)) := by
  obtain ⟨hb, _, _⟩ := h
  exact ⟨(below_drewN hb n).alloc hb.size _, by omega, Or.inr ⟨by omega, wq.heap.size, hb.size, rfl, Blk.new (wq.drewN n) _ _⟩⟩
theorem count_more {W0 wq : World} {x xi : Nat} {kind a j : Int} {g : Nat} (h : CountRel W0 wq x xi kind a j (.pointer (some ⟨g, 0, none⟩))) (n : Nat) : CountRel W0 (wq.drewN n) x (xi + 1) kind a j (.pointer (some ⟨g, 0, none⟩)) := by
  obtain ⟨hb, h1, h2⟩ := h
  rcases h2 with ⟨_, h2⟩ | ⟨h2, g', h3, h4, h5⟩
  · simp at h2
  · exact ⟨below_drewN hb n, by omega, Or.inr ⟨by omega, g', h3, h4, h5⟩⟩
theorem count_same {W0 wq : World} {x xi : Nat} {kind a j : Int} {ov : Value} (h : CountRel W0 wq x xi kind a j ov) (n : Nat) : CountRel W0 (wq.drewN n) x xi kind a j ov := by
  obtain ⟨hb, h1, h2⟩ := h
  refine ⟨below_drewN hb n, h1, ?_⟩
  rcases h2 with h2 | ⟨h2, g', h3, h4, h5⟩
  · exact Or.inl h2
  · exact Or.inr ⟨h2, g', h3, h4, h5⟩
theorem count_cases {W0 wq : World} {x xi : Nat} {kind a j : Int} {ov : Value} (h : CountRel W0 wq x xi kind a j ov) : (xi = x ∧ ov = .pointer none) ∨ ∃ g, ov = .pointer (some ⟨g, 0, none⟩) := by
  obtain ⟨_, _, h2⟩ := h
  rcases h2 with h2 | ⟨_, g', _, h4, _⟩
  · exact Or.inl h2
  · exact Or.inr ⟨g', h4⟩

theorem opOf_eq (x y p q : Nat) : opOf x y p q = (if nDel (x, y) (p, q) = 0 then [] else [Opn.del x (x + nDel (x, y) (p, q)) y]) ++ (if nIns (x, y) (p, q) = 0 then [] else [Opn.ins (x + nDel (x, y) (p, q)) y (y + nIns (x, y) (p, q))]) := by
  unfold opOf nDel nIns
  simp only
  by_cases h1 : (x : Int) - y < (p : Int) - q
  · rw [if_pos h1, if_neg (show ¬ ((p : Int) - q - ((x : Int) - y)).toNat = 0 by omega), if_pos (show ((x : Int) - y - ((p : Int) - q)).toNat = 0 by omega)]; rfl
  · rw [if_neg h1]
    have e : ((p : Int) - q - ((x : Int) - y)).toNat = 0 := by omega
    rw [e, if_pos (show (0 : Nat) = 0 from rfl)]
    by_cases h2 : (p : Int) - q < (x : Int) - y
    · rw [if_pos h2, if_neg (show ¬ ((x : Int) - y - ((p : Int) - q)).toNat = 0 by omega)]; rfl
    · rw [if_neg h2, if_pos (show ((x : Int) - y - ((p : Int) - q)).toNat = 0 by omega)]; rfl
/-- What operations leaves. -/
def OpsRes (w : World) (M N : Nat) (eq : Nat → Nat → Bool) (B : Option Addr) (cb : Nat) (e : Ending) (w' : World) : Prop := ∃ (ops : List Opn) (A : Option Addr) (c D bb bo : Nat), e = .returned (.slice A ops.length c) ∧ Script eq ops M N ∧ cost ops = D ∧ hit M N eq D ∧ (∀ d, d < D → ¬ hit M N eq d) ∧ (0 < N → B = some ⟨bb, bo, none⟩) ∧
  (∀ j (h : j < ops.length), ∃ b o g, A = some ⟨b, o, none⟩ ∧ w'.cell? ⟨b, o + j, none⟩ = some (.pointer (some ⟨g, 0, none⟩)) ∧ Blk w' g 100 (opCells bb bo cb ops[j])) ∧ Below w.heap.size w w'
theorem ops_end {w W wr : World} {M N s D gi gX gs bb bo cb : Nat} {eq : Nat → Nat → Bool} {P : Nat → Nat × Nat} {B : Option Addr} (hway : Mye.Way M N eq s D P) (hm : OMem W wr gi gX gs (M + N) bb bo cb (opsAt P s (D + 1))) (hh : hit M N eq D) (hnh : ∀ d, d < D → ¬ hit M N eq d) (hB : 0 < N → B = some ⟨bb, bo, none⟩) (hb : Below w.heap.size w W) :
    OpsRes w M N eq B cb (.returned (.slice (some ⟨gs, 0, none⟩) (opsAt P s (D + 1)).length (M + N))) wr := by
  obtain ⟨_, _, ⟨ts, h3, h4, h5⟩, h6⟩ := hm
  have hs : s ≤ D := hway.1
  have hsc := opsTo_script hway (D - s) (by omega)
  rw [show s + (D - s) = D by omega, hway.2.2.1] at hsc
  have he : opsAt P s (D + 1) = opsTo P s (D - s) := by unfold opsAt; rw [if_neg (by omega)]; congr 1
  refine ⟨_, some ⟨gs, 0, none⟩, M + N, D, bb, bo, rfl, by rw [he]; exact hsc.1, by rw [he]; exact hsc.2, hh, hnh, hB, fun j hj => ?_, hb.trans (h6.mono hb.size)⟩
  obtain ⟨g, a, _, _, _, b⟩ := h5 j hj
  exact ⟨gs, 0, g, rfl, by rw [Nat.zero_add]; exact h3.get a, b⟩
theorem ops_room {M N s D j : Nat} {eq : Nat → Nat → Bool} {P : Nat → Nat × Nat} (hway : Mye.Way M N eq s D P) (hs : s ≤ j) (hj : j ≤ D) : (opsAt P s (j + 1)).length ≤ j := by
  have hsc := opsTo_script hway (j - s) (by omega)
  have he : opsAt P s (j + 1) = opsTo P s (j - s) := by unfold opsAt; rw [if_neg (by omega)]; congr 1
  have := script_len hsc.1
  rw [he]; omega

theorem ops_start {w2 w3 W4 : World} {S bb bo cb : Nat} (hown : w3.ownsRow w2.heap.size 96 1 (.slice (some ⟨(w2.alloc (.cells #[.int .i64 0] 3)).heap.size, 0, none⟩) S S) S (madeCells (Value.pointer none).cells (S * 1)).toList)
    (hg : (w2.alloc (.cells #[.int .i64 0] 3)).grownBy w3 none) (hW : W4 = w3.alloc (.cells #[.slice (some ⟨w2.heap.size + 1, 0, none⟩) S S] 94)) :
    OMem w2 W4 w2.heap.size w3.heap.size (w2.heap.size + 1) S bb bo cb [] ∧ w3.heap.size ≠ w2.heap.size + 1 ∧ w3.heap.size ≠ w2.heap.size ∧ w2.heap.size ≤ w3.heap.size := by
  obtain ⟨cc, b1, s1, _⟩ := own_made rfl hown
  have hb := grown_none hg
  have e : (w2.alloc (.cells #[.int .i64 0] 3)).heap.size = w2.heap.size + 1 := by simp
  rw [e] at b1
  have hz := hb.size
  rw [e] at hz
  have l1 := b1.lt
  have k0 : Blk w3 w2.heap.size 3 #[.int .i64 0] := (Blk.new w2 _ _).kept hb
  subst hW
  refine ⟨⟨k0.alloc _, Blk.new w3 _ _, ⟨cc, b1.alloc _, s1, fun j hj => absurd hj (Nat.not_lt_zero _)⟩, ?_⟩, by omega, by omega, by omega⟩
  exact (((Below.refl w2.heap.size w2).alloc (Nat.le_refl _) _).trans (hb.mono (by simp))).alloc (by omega) _

set_option maxHeartbeats 4000000 in
set_option maxRecDepth 100000 in
theorem ops_any (la lb : List ByteArray) (A B : Option Addr) (ca cb M N : Nat) (hM : la.length = M) (hN : lb.length = N) (hS : M + N ≤ 1000000) (hS1 : 1 ≤ M + N) (hcb : N ≤ cb) (w : World) (hA : Strs w A la) (hB : Strs w B lb) :
    Calls Tryz.prog 40 #[.slice A M ca, .slice B N cb] w (OpsRes w M N (eqL la lb) B cb) := by
  obtain ⟨bb, bo, hBB⟩ : ∃ bb bo, 0 < N → B = some ⟨bb, bo, none⟩ := by
    by_cases h : 0 < N
    · obtain ⟨b, o, e, _⟩ := hB 0 (by omega)
      exact ⟨b, o, fun _ => e⟩
    · exact ⟨0, 0, fun h2 => absurd h2 h⟩
  have HBB := hide hBB
  clear hBB
  obtain ⟨i0, hi0, hz0, hz1, hzb⟩ := info_parts (show (Tryz.prog.info? 96).map (fun i => (i.zero, i.size, i.bytes)) = some (some (.pointer none), 1, 8) from by kernel_rfl)
  have HA := hide hA
  have HB := hide hB
  have HSes := hide (fun W hA hB => ses_any la lb A B ca cb M N hM hN hS hS1 W hA hB)
  clear hA hB
  go_enter Tryz.func40, Tryz.ntmps40
  go_upto_region 1 with fail
  go_cut [25] (fun s25 wx => s25 = .bool false ∧ wx = w.alloc (.cells #[.slice B N cb] 38))
  case first =>
    by_cases h : M = 0
    · have e1 : ((M : Int) == 0) = true := by simp [h]
      have e2 : ((N : Int) == 0) = false := by simp; omega
      clear h
      go_wp2
      go_meet
      exact ⟨rfl, rfl⟩
    · have e1 : ((M : Int) == 0) = false := by simp; omega
      clear h
      go_wp2
      go_meet
      exact ⟨rfl, rfl⟩
  case rest =>
    obtain ⟨rfl, rfl⟩ := hcut
    have hb0 : Below w.heap.size w (w.alloc (.cells #[.slice B N cb] 38)) := by go_grown
    have k0 : Blk (w.alloc (.cells #[.slice B N cb] 38)) w.heap.size 38 #[.slice B N cb] := Blk.new w _ _
    generalize w.alloc (.cells #[.slice B N cb] 38) = w0 at *
    have f0 := k0.one_
    have l0 := k0.lt
    go_wp2_with fail
    refine (HSes.out _ (HA.out.kept hb0) (HB.out.kept hb0)).mono ?_
    rintro e w1 ⟨gT, cT, D, rfl, hT, hD, hhit, hnh, hb1⟩
    have hbl1 := hb0.trans (hb1.mono hb0.size)
    have k1 := k0.kept hb1
    have f1 := k1.one_
    have l1 := k1.lt
    clear f0 l0 k0 hb1 hb0
    have HNH := hide hnh
    have HHit := hide hhit
    clear hnh hhit
    go_wp2_with fail
    refine (back_any M N D gT cT _ hS hD HHit.out _ hT).mono ?_
    rintro e w2 ⟨gS, cS, s, P, rfl, hway, hsn, hb2⟩
    have hbl2 := hbl1.trans (hb2.mono hbl1.size)
    have k2 := k1.kept hb2
    have f2 := k2.one_
    have l2 := k2.lt
    have HSN := hide hsn
    have HWay := hide hway
    have hz2 := hbl2.size
    clear f1 l1 k1 hb2 hsn hT hway hbl1
    go_upto_region 5 with fail
    go_quiet (fail)
    have hbl3 := below_drewN hbl2 nq
    have k3 : Blk (w2.drewN nq) w.heap.size 38 #[.slice B N cb] := k2
    have HSN3 : Hid (SnRows (w2.drewN nq) M N D gS s P) := hide HSN.out
    clear k2 f2 HSN hbl2 l2 hz2
    generalize w2.drewN nq = w2 at *
    have f3 := k3.one_
    have l3 := k3.lt
    have hz3 := hbl3.size
    go_wp2_with (first
      | (refine wpList_make_full _ rfl _ _ 94 rfl w2.heap.size 96 i0 _ 1 Tryz.underlying94 hi0 hz0 hz1 .i64 .i64 _ _ (M + N) (by rfl) (by rfl) (by omega) (by omega) (by rw [hzb]; omega) (by unfold maxLen; omega) (by simp) ?_; intro w3 hown hg3))
    refine wp_gen ?_
    intro W4 hW4
    obtain ⟨hM0, d1, d2, d3⟩ := ops_start (bb := bb) (bo := bo) (cb := cb) hown hg3 hW4
    have hM := hide hM0
    clear hM0 hown hg3 hW4 f3
    generalize w3.heap.size = gX at *
    have hS0 : s ≤ D := HWay.out.1
    go_wp2
    go_loopw [13, 14, 52] (fun xv yv jv wr => ∃ j : Nat, jv = .int .i64 j ∧ xv = .int .i64 ((ptAt P s j).1 : Nat) ∧ yv = .int .i64 ((ptAt P s j).2 : Nat) ∧ j ≤ D ∧ Hid (OMem w2 wr w2.heap.size gX (w2.heap.size + 1) (M + N) bb bo cb (opsAt P s j))) (fun _ _ jv _ => M + N + 1 - (intOf jv).toNat)
    case atStart => exact ⟨0, rfl, by simp [ptAt], by simp [ptAt], Nat.zero_le _, hide (by simpa [opsAt] using hM.out)⟩
    case round =>
      obtain ⟨j, rfl, rfl, rfl, hjD, hm⟩ := hrel
      obtain ⟨W0, rfl⟩ : ∃ W0, W0 = wr := ⟨wr, rfl⟩
      have hbW := hm.out.2.2.2
      obtain ⟨ts, t1, t2, t3, t4⟩ := HSN3.out
      clear hM
      by_cases hjs : j < s
      · have hcell := (t1.kept hbW).get (t4 j (by omega) (Or.inl hjs))
        have e1 : ptAt P s j = (0, 0) := by unfold ptAt; rw [if_pos (by omega)]
        have e2 : ptAt P s (j + 1) = (0, 0) := by unfold ptAt; rw [if_pos (by omega)]
        have e3 : opsAt P s (j + 1) = opsAt P s j := by unfold opsAt; rw [if_pos (by omega), if_pos (by omega)]
        have hm2 : Hid (OMem w2 W0 w2.heap.size gX (w2.heap.size + 1) (M + N) bb bo cb (opsAt P s (j + 1))) := hide (by rw [e3]; exact hm.out)
        rw [e1]
        have E2 := hide e2
        clear t1 t2 t3 t4 hm e1 e2 e3 hbW
        go_wp2
        go_roundw
        case rel => exact ⟨j + 1, by go_num, by rw [E2.out], by rw [E2.out], by omega, hm2⟩
        case measure => simp [intOf]; omega
      · obtain ⟨gr, cr, r1, r2, r3⟩ := t3 j (by omega) hjD
        have hcell := (t1.kept hbW).get r1
        have hadv := way_adv HWay.out (show s ≤ j by omega) hjD
        have hroom := ops_room HWay.out (show s ≤ j by omega) hjD
        have hos := opsAt_succ P (show s ≤ j by omega)
        have hps := ptAt_succ P (show s ≤ j by omega)
        obtain ⟨⟨x, y⟩, hxy⟩ : ∃ p, ptAt P s j = p := ⟨_, rfl⟩
        obtain ⟨⟨p, q⟩, hpq⟩ : ∃ p, P j = p := ⟨_, rfl⟩
        rw [hxy, hpq] at hadv
        rw [hxy, hpq] at hos
        rw [hpq] at hps r3
        rw [hxy]
        simp only at hadv hos r3 ⊢
        rw [opOf_eq] at hos
        obtain ⟨nd, hnd⟩ : ∃ n, nDel (x, y) (p, q) = n := ⟨_, rfl⟩
        obtain ⟨ni, hni⟩ : ∃ n, nIns (x, y) (p, q) = n := ⟨_, rfl⟩
        rw [hnd, hni] at hos hadv
        obtain ⟨v1, v2, v3, v4⟩ := hadv
        have hnd' : ((p : Int) - q - ((x : Int) - y)).toNat = nd := hnd
        have hni' : ((x : Int) - y - ((p : Int) - q)).toNat = ni := hni
        have HO := hide hos
        have HPS := hide hps
        have HPQ := hide hpq
        have hsj : s ≤ j := by omega
        have HR2 := hide r3
        have HR3 := hide (r3.kept hbW)
        clear t1 t2 t3 t4 r1 r2 hos hps hpq r3 hxy hnd hni hjs
        go_upto_block 2 with fail
        go_cut [13, 17] (fun s13 s17 wx => ∃ xi : Nat, s13 = .int .i64 xi ∧ xi = x + nd ∧ Hid (CountRel W0 wx x xi 0 x y s17))
        case first =>
          go_wp2
          go_loopw [13, 17] (fun xv ov wq => ∃ xi : Nat, xv = .int .i64 xi ∧ xi ≤ x + nd ∧ Hid (CountRel W0 wq x xi 0 x y ov)) (fun xv _ _ => x + nd + 1 - (intOf xv).toNat)
          case atStart => exact ⟨x, rfl, by omega, hide ⟨Below.refl _ _, Nat.le_refl _, Or.inl ⟨rfl, rfl⟩⟩⟩
          case round =>
            obtain ⟨xi, rfl, hxi, hcr⟩ := hrel
            have hxx := hcr.out.2.1
            have hrow := (HR3.out.kept hcr.out.1)
            have w1 := hrow.cell 0
            have w2' := hrow.cell 1
            simp at w1 w2'
            clear hrow
            by_cases hlt : xi < x + nd
            · have e1 : decide ((xi : Int) - (y : Int) < (p : Int) - (q : Int)) = true := by simp; omega
              have hle1 : xi + 1 ≤ x + nd := by omega
              have hend : Hid (xi + 1 = M → xi + 1 = x + nd) := hide (by omega)
              have c0 := count_cases hcr.out
              rcases c0 with ⟨rfl, rfl⟩ | ⟨g, rfl⟩
              · by_cases hxM : xi + 1 = M
                · have e2 : ((xi : Int) + 1 == (M : Int)) = true := by simp; omega
                  have hend2 := hide (hend.out hxM)
                  clear hxM hlt
                  go_upto_region 15 with fail
                  go_quiet (fail)
                  have hn := hide (count_new hcr.out nq)
                  go_wp2
                  go_meet
                  exact ⟨xi + 1, by go_num, hend2.out, hn⟩
                · have e2 : ((xi : Int) + 1 == (M : Int)) = false := by simp; omega
                  clear hxM hlt
                  go_upto_region 15 with fail
                  go_quiet (fail)
                  have hn := hide (count_new hcr.out nq)
                  go_wp2
                  go_roundw
                  case rel => exact ⟨xi + 1, by go_num, by omega, hn⟩
                  case measure => simp [intOf]; omega
              · by_cases hxM : xi + 1 = M
                · have e2 : ((xi : Int) + 1 == (M : Int)) = true := by simp; omega
                  have hend2 := hide (hend.out hxM)
                  clear hxM
                  go_upto_region 15 with fail
                  go_quiet (fail)
                  have hn := hide (count_more hcr.out nq)
                  go_wp2
                  go_meet
                  exact ⟨xi + 1, by go_num, hend2.out, hn⟩
                · have e2 : ((xi : Int) + 1 == (M : Int)) = false := by simp; omega
                  clear hxM
                  go_upto_region 15 with fail
                  go_quiet (fail)
                  have hn := hide (count_more hcr.out nq)
                  go_wp2
                  go_roundw
                  case rel => exact ⟨xi + 1, by go_num, by omega, hn⟩
                  case measure => simp [intOf]; omega
            · have e1 : decide ((xi : Int) - (y : Int) < (p : Int) - (q : Int)) = false := by simp; omega
              have hend2 : Hid (xi = x + nd) := hide (by omega)
              clear hlt
              go_upto_region 15 with fail
              go_quiet (fail)
              have hn := hide (count_same hcr.out nq)
              go_wp2
              go_meet
              exact ⟨xi, rfl, hend2.out, hn⟩
        case rest =>
          obtain ⟨xi, rfl, hxi, hcr⟩ := hcut
          subst hxi
          have hgb : Hid (Blk w2 w.heap.size 38 #[.slice B N cb]) := hide k3
          go_upto_region 20 with fail
          go_cut [13] (fun s13 wx => s13 = .int .i64 ((x + nd : Nat) : Int) ∧ Hid (OMem w2 wx w2.heap.size gX (w2.heap.size + 1) (M + N) bb bo cb (opsAt P s j ++ (if nd = 0 then [] else [Opn.del x (x + nd) y]))))
          case first =>
            obtain ⟨c1, c2, c3⟩ := hcr.out
            rcases c3 with ⟨c3, rfl⟩ | ⟨c3, g, c4, rfl, c5⟩
            · have hm3 : Hid (OMem w2 wc w2.heap.size gX (w2.heap.size + 1) (M + N) bb bo cb (opsAt P s j ++ (if nd = 0 then [] else [Opn.del x (x + nd) y]))) := hide (by rw [if_pos (by omega), List.append_nil]; exact hm.out.kept c1)
              clear hcr
              go_wp2_with fail
              refine (add_nil _ _ _ _ _ _).mono ?_
              rintro e wz ⟨⟨v, rfl⟩, rfl⟩
              go_wp2
              go_meet
              exact ⟨int_eq' (by omega), hm3⟩
            · have hk := hm.out.kept c1
              obtain ⟨ts, t1, t2⟩ := hk.room
              have hlen : (opsAt P s j).length < M + N := by
                have h := hroom
                rw [HO.out, if_neg (show ¬ nd = 0 by omega), List.length_append, List.length_append] at h
                simp at h; omega
              have lW := hm.out.1.lt
              have lW2 := hm.out.2.1.lt
              have lW3 : w2.heap.size + 1 < W0.heap.size := by obtain ⟨ts, t1, _⟩ := hm.out.room; exact t1.lt
              have hadd := add_del g w.heap.size gX (w2.heap.size + 1) w2.heap.size (opsAt P s j).length (M + N) (M + N) x ((x + nd : Nat) : Int) y y ts wc c5 hk.2.1 hk.1 t1 t2 hlen hS (by omega) (by omega) (by omega) (by omega) d1 d2
              have HAdd := hide hadd
              have hfin := hide (fun e w' (hr : AddRes wc g (w2.heap.size + 1) w2.heap.size (opCells bb bo cb (Opn.del x (x + nd) y)) ts (opsAt P s j).length e w') => OMem.add hm.out c1 c4 t1 hr hlen d1 d2 (Nat.le_refl _) (by omega))
              have hnd0 : ¬ nd = 0 := by omega
              clear hcr hadd hk c1 c5 t1
              go_wp2_with fail
              refine HAdd.out.mono ?_
              intro e wz hres
              obtain ⟨v, rfl⟩ := hres.1
              have hm3 := hfin.out _ _ hres
              clear hres
              go_wp2
              go_meet
              exact ⟨rfl, hide (by rw [if_neg hnd0]; exact hm3)⟩
          case rest =>
            obtain ⟨rfl, hm3⟩ := hcut
            obtain ⟨W1, rfl⟩ : ∃ W1, W1 = wc := ⟨_, rfl⟩
            have hbW1 := hm3.out.2.2.2
            have HR4 := hide (HR2.out.kept hbW1)
            have hcb3 := hgb.out.kept hbW1
            have lgb := hgb.out.lt
            clear hcr hbW1 HR3
            generalize hx1 : x + nd = x1 at *
            have hb1 : (x1 : Int) - y - ((p : Int) - q) = ni := by omega
            have hb2 : x1 ≤ p := v1
            clear hx1 hnd' hni'
            go_upto_block 4 with fail
            go_cut [14, 17] (fun s14 s17 wx => ∃ xi : Nat, s14 = .int .i64 xi ∧ xi = y + ni ∧ Hid (CountRel W1 wx y xi 1 (x1 : Nat) y s17))
            case first =>
              go_wp2
              go_loopw [14, 17] (fun xv ov wq => ∃ xi : Nat, xv = .int .i64 xi ∧ xi ≤ y + ni ∧ Hid (CountRel W1 wq y xi 1 (x1 : Nat) y ov)) (fun xv _ _ => y + ni + 1 - (intOf xv).toNat)
              case atStart => exact ⟨y, rfl, by omega, hide ⟨Below.refl _ _, Nat.le_refl _, Or.inl ⟨rfl, rfl⟩⟩⟩
              case round =>
                obtain ⟨xi, rfl, hxi, hcr⟩ := hrel
                have hxx := hcr.out.2.1
                have hrow := (HR4.out.kept hcr.out.1)
                have w1 := hrow.cell 0
                have w2' := hrow.cell 1
                simp at w1 w2'
                clear hrow
                by_cases hlt : xi < y + ni
                · have e1 : decide ((p : Int) - (q : Int) < (x1 : Int) - (xi : Int)) = true := by simp; omega
                  have hle1 : xi + 1 ≤ y + ni := by omega
                  have c0 := count_cases hcr.out
                  rcases c0 with ⟨rfl, rfl⟩ | ⟨g, rfl⟩
                  · clear hlt
                    go_upto_region 22 with fail
                    go_quiet (fail)
                    have hn := hide (count_new hcr.out nq)
                    go_wp2
                    go_roundw
                    case rel => exact ⟨xi + 1, by go_num, by omega, hn⟩
                    case measure => simp [intOf]; omega
                  · go_upto_region 22 with fail
                    go_quiet (fail)
                    have hn := hide (count_more hcr.out nq)
                    go_wp2
                    go_roundw
                    case rel => exact ⟨xi + 1, by go_num, by omega, hn⟩
                    case measure => simp [intOf]; omega
                · have e1 : decide ((p : Int) - (q : Int) < (x1 : Int) - (xi : Int)) = false := by simp; omega
                  have hend2 : Hid (xi = y + ni) := hide (by omega)
                  clear hlt
                  go_upto_region 22 with fail
                  go_quiet (fail)
                  have hn := hide (count_same hcr.out nq)
                  go_wp2
                  go_meet
                  exact ⟨xi, rfl, hend2.out, hn⟩
            case rest =>
              obtain ⟨yi, rfl, hyi, hcr⟩ := hcut
              subst hyi
              go_upto_region 26 with fail
              go_cut [14] (fun s14 wx => s14 = .int .i64 ((y + ni : Nat) : Int) ∧ Hid (OMem w2 wx w2.heap.size gX (w2.heap.size + 1) (M + N) bb bo cb (opsAt P s (j + 1))))
              case first =>
                obtain ⟨c1, c2, c3⟩ := hcr.out
                rcases c3 with ⟨c3, rfl⟩ | ⟨c3, g, c4, rfl, c5⟩
                · have hm4 : Hid (OMem w2 wc w2.heap.size gX (w2.heap.size + 1) (M + N) bb bo cb (opsAt P s (j + 1))) := hide (by rw [HO.out, if_pos (show ni = 0 by omega), List.append_nil]; exact hm3.out.kept c1)
                  clear hcr
                  go_wp2_with fail
                  refine (add_nil _ _ _ _ _ _).mono ?_
                  rintro e wz ⟨⟨v, rfl⟩, rfl⟩
                  go_wp2
                  go_meet
                  exact ⟨int_eq' (by omega), hm4⟩
                · have hk := hm3.out.kept c1
                  obtain ⟨ts, t1, t2⟩ := hk.room
                  have hni0 : ¬ ni = 0 := by omega
                  have hlen : (opsAt P s j ++ (if nd = 0 then [] else [Opn.del x x1 y])).length < M + N := by
                    have h := hroom
                    rw [HO.out, if_neg hni0, ← List.append_assoc, List.length_append] at h
                    simp only [List.length_singleton] at h; omega
                  have lW := hm3.out.1.lt
                  have lW2 := hm3.out.2.1.lt
                  have lW3 : w2.heap.size + 1 < W1.heap.size := by obtain ⟨ts, t1, _⟩ := hm3.out.room; exact t1.lt
                  have hBB := HBB.out (by omega)
                  have hbx := hcb3.kept c1
                  rw [hBB] at hbx
                  generalize hL : opsAt P s j ++ (if nd = 0 then [] else [Opn.del x x1 y]) = L at *
                  have hadd := add_ins g w.heap.size gX (w2.heap.size + 1) w2.heap.size L.length (M + N) (M + N) N cb bb bo x1 y (y + ni) x1 ts wc c5 hk.2.1 hk.1 t1 hbx (by omega) (by omega) hcb t2 hlen hS (by omega) (by omega) (by omega) (by omega) (by omega) d1 d2 (by omega)
                  have HAdd := hide hadd
                  have hfin := hide (fun e w' (hr : AddRes wc g (w2.heap.size + 1) w2.heap.size (opCells bb bo cb (Opn.ins x1 y (y + ni))) ts L.length e w') => OMem.add hm3.out c1 c4 t1 hr hlen d1 d2 (Nat.le_refl _) (by omega))
                  have hop : opsAt P s (j + 1) = L ++ [Opn.ins x1 y (y + ni)] := by rw [HO.out, if_neg hni0, ← List.append_assoc, hL]
                  have HOp := hide hop
                  clear hcr hadd hk c1 c5 t1 hBB hbx hop hL
                  go_wp2_with fail
                  refine HAdd.out.mono ?_
                  intro e wz hres
                  obtain ⟨v, rfl⟩ := hres.1
                  have hm4 := hfin.out _ _ hres
                  clear hres
                  go_wp2
                  go_meet
                  exact ⟨rfl, hide (by rw [HOp.out]; exact hm4)⟩
              case rest =>
                obtain ⟨rfl, hm4⟩ := hcut
                obtain ⟨W2, rfl⟩ : ∃ W2, W2 = wc := ⟨_, rfl⟩
                have HR5 := hide (HR2.out.kept hm4.out.2.2.2)
                have hrow := HR5.out
                have w1 := hrow.cell 0
                have w2' := hrow.cell 1
                simp at w1 w2'
                clear hrow HR4 hcb3 hcr hm3
                generalize hy1 : y + ni = y1 at *
                have hb3 : (x1 : Int) - y1 = (p : Int) - q := by omega
                clear hy1
                go_wp2
                go_loopw [13, 14] (fun xv yv wq => ∃ xi yi : Nat, xv = .int .i64 xi ∧ yv = .int .i64 yi ∧ x1 ≤ xi ∧ xi ≤ p ∧ (xi : Int) - yi = (x1 : Int) - y1 ∧ wq = W2) (fun xv _ _ => p - (intOf xv).toNat)
                case atStart => exact ⟨x1, y1, rfl, rfl, Nat.le_refl _, hb2, by first | trivial | exact ⟨rfl, rfl⟩ | simp⟩
                case round =>
                  obtain ⟨xi, yi, rfl, rfl, g1, g2, g3, rfl⟩ := hrel
                  by_cases hlt : xi < p
                  · have e1 : decide ((xi : Int) < (p : Int)) = true := by simp; omega
                    go_wp2
                    go_roundw
                    case rel => exact ⟨xi + 1, yi + 1, by go_num, by go_num, by omega, by omega, by omega, by first | trivial | rfl⟩
                    case measure => simp [intOf]; omega
                  · obtain rfl : xi = p := by omega
                    obtain rfl : yi = q := by omega
                    clear hlt
                    obtain ⟨i1, i2, -, i4⟩ := hm4.out
                    have j1 := i1.one_
                    have j2 := i2.one_
                    clear i1 i2 i4
                    by_cases hend : xi = M ∧ yi = N
                    · obtain ⟨rfl, rfl⟩ := hend
                      have hjD2 : j = D := by
                        rcases Nat.lt_or_ge j D with h | h
                        · exact absurd ⟨by rw [HPQ.out], by rw [HPQ.out]⟩ (Mye.Way.not_end HWay.out (show s ≤ j by omega) h)
                        · omega
                      subst hjD2
                      have hfin := hide (ops_end HWay.out hm4.out HHit.out HNH.out HBB.out hbl3)
                      have hlen : (opsAt P s (j + 1)).length ≤ xi + yi := by have := hroom; omega
                      generalize (opsAt P s (j + 1)).length = n at *
                      clear g1 g2 g3 hb1 hb3 hb2
                      go_wp2
                      go_ret
                      exact hfin.out
                    · have hjD2 : j < D := by
                        rcases Nat.lt_or_ge j D with h | h
                        · exact h
                        · exfalso
                          have hj : j = D := by omega
                          have h1 := HPQ.out
                          rw [hj, HWay.out.2.2.1] at h1
                          injection h1 with h1 h2
                          exact hend ⟨h1.symm, h2.symm⟩
                      by_cases hxM : xi < M
                      · have e1 : decide (M ≤ xi) = false := by simp; omega
                        clear hend hxM g1 g2 g3 hb1 hb3 hb2
                        go_wp2
                        go_roundw
                        case rel => exact ⟨j + 1, by go_num, by rw [HPS.out], by rw [HPS.out], by omega, hm4⟩
                        case measure => simp [intOf]; omega
                      · have e1 : decide (M ≤ xi) = true := by simp; omega
                        have e2 : decide (N ≤ yi) = false := by simp; omega
                        clear hend hxM g1 g2 g3 hb1 hb3 hb2
                        go_wp2
                        go_roundw
                        case rel => exact ⟨j + 1, by go_num, by rw [HPS.out], by rw [HPS.out], by omega, hm4⟩
                        case measure => simp [intOf]; omega
end Go.Proofs.YtgegialfhkgggaaGreatDoor
