/- Walk: ToUnified. No condition but sizes. -/
import Derived.Test.YtgegialfhkgggaaGreatDoorPn
import Derived.Test.YtgegialfhkgggaaGreatDoorPm
set_option linter.unusedVariables false
set_option linter.unusedSimpArgs false
namespace Go.Proofs.YtgegialfhkgggaaGreatDoor
open Go.RowKit Go.Proofs.YtgegialfhkgggaaGreatDoor.Lines
attribute [local go_sem ↓] Go.wp_at_zero Go.wp_at_succ

set_option maxHeartbeats 4000000 in
set_option maxRecDepth 100000 in
theorem toUni_zero (nf nt s : ByteArray) (A : Option Addr) (c : Nat) (w : World) : Calls Tryz.prog 25 #[.string nf, .string nt, .string s, .slice A 0 c] w (UniRes w nf nt []) := by
  go_enter Tryz.func25, Tryz.ntmps25
  go_wp2
  exact bodyPost_ret (v := .agg #[.string nf, .string nt, .slice none 0 0]) (by simp [results, Tryz.results25, go_sem]) rfl ⟨none, 0, rfl, fun i h => absurd h (by simp), by go_grown⟩

/-- Cells that hold no slice are kept where block u alone changes, at cell 2. -/
theorem fr_cell {wl wr : World} {u : Nat} {nf nt : ByteArray} {v v' : Value} (hg : wl.grownBy wr (some u)) (h1 : Blk wl u 52 #[.string nf, .string nt, v]) (h2 : Blk wr u 52 #[.string nf, .string nt, v']) {b o : Nat} {x : Value} (h : wl.cell? ⟨b, o, none⟩ = some x) (hx : x ≠ v) : wr.cell? ⟨b, o, none⟩ = some x := by
  by_cases e : b = u
  · subst e
    rw [h1.cell] at h
    rw [h2.cell]
    match o, h with
    | 0, h => exact h
    | 1, h => exact h
    | 2, h => simp at h; exact absurd h.symm hx
    | n + 3, h => simp at h
  · have := World.grownBy.cell hg h (by simpa using e)
    exact this
theorem edCells_ns (e : Ed) (j : Nat) (h : j < 8) : (edCells e).getD j undef ≠ .slice none 0 0 := by
  match j, h with
  | 0, _ => simp [edCells]
  | 1, _ => simp [edCells]
  | 2, _ => simp [edCells]
  | 3, _ => simp [edCells]
  | 4, _ => simp [edCells]
  | 5, _ => simp [edCells]
  | 6, _ => simp [edCells]
  | 7, _ => simp [edCells]
/-- What stays all through the loop: wl: the world ahead of it; u: the block of the unified edits. -/
def UFr (wl wr : World) (u B : Nat) (nf nt : ByteArray) (hs : List (Hk.HK ByteArray)) : Prop := wl.grownBy wr (some u) ∧ UHs wr wl.heap.size u B nf nt hs ∧ wl.heap.size ≤ B ∧ B ≤ wr.heap.size
/-- The relation of the loop behind k edits. -/
def URel (wl wr : World) (u : Nat) (nf nt : ByteArray) (A : List ByteArray) (les : List (Hk.LE ByteArray)) (k : Nat) (hv lv tv : Value) : Prop :=
  (k = 0 → hv = .pointer none ∧ lv = .int .i64 0 ∧ tv = .int .i64 0 ∧ UFr wl wr u wl.heap.size nf nt []) ∧
  (0 < k → ∃ p v, hv = ptrV p ∧ lv = .int .i64 ((Hk.runS A (les.take k)).last : Nat) ∧ tv = .int .i64 (Hk.runS A (les.take k)).tl ∧ HAt wr p (Hk.runS A (les.take k)).cur v ∧ UFr wl wr u p nf nt (Hk.runS A (les.take k)).hs)
theorem UFr.kept {wl wr w1 : World} {u B : Nat} {nf nt : ByteArray} {hs : List (Hk.HK ByteArray)} (h : UFr wl wr u B nf nt hs) (hb : Below wr.heap.size wr w1) : UFr wl w1 u B nf nt hs := by
  obtain ⟨h1, h2, h3, h4⟩ := h
  exact ⟨⟨hb.os.trans h1.os, hb.tape.trans h1.tape, hb.output.trans h1.output, Nat.le_trans h1.size hb.size, fun k hk hne => by rw [hb.block k (Nat.lt_of_lt_of_le hk h1.size)]; exact h1.block k hk hne⟩, h2.below (hb.mono h4), h3, Nat.le_trans h4 hb.size⟩
theorem HAt.kept {w w1 : World} {q : Nat} {h : Hk.HK ByteArray} {v : Value} (H : HAt w q h v) (hb : Below w.heap.size w w1) : HAt w1 q h v := ⟨H.1.kept hb, own_kept H.2 hb⟩
theorem URel.kept {wl wr w1 : World} {u : Nat} {nf nt : ByteArray} {A : List ByteArray} {les : List (Hk.LE ByteArray)} {k : Nat} {hv lv tv : Value} (h : URel wl wr u nf nt A les k hv lv tv) (hb : Below wr.heap.size wr w1) : URel wl w1 u nf nt A les k hv lv tv :=
  ⟨fun h0 => by obtain ⟨a, b, c, d⟩ := h.1 h0; exact ⟨a, b, c, d.kept hb⟩, fun h0 => by obtain ⟨p, v, a, b, c, d, e⟩ := h.2 h0; exact ⟨p, v, a, b, c, d.kept hb, e.kept hb⟩⟩
/-- Kept below B. -/
theorem UFr.low {wl wr w1 : World} {u B : Nat} {nf nt : ByteArray} {hs : List (Hk.HK ByteArray)} (h : UFr wl wr u B nf nt hs) (hb : Below B wr w1) : UFr wl w1 u B nf nt hs := by
  obtain ⟨h1, h2, h3, h4⟩ := h
  exact ⟨⟨hb.os.trans h1.os, hb.tape.trans h1.tape, hb.output.trans h1.output, Nat.le_trans h1.size hb.size, fun k hk hne => by rw [hb.block k (by omega)]; exact h1.block k hk hne⟩, h2.below hb, h3, Nat.le_trans h4 hb.size⟩
theorem UFr.new {wl wr : World} {u B : Nat} {nf nt : ByteArray} {hs : List (Hk.HK ByteArray)} (h : UFr wl wr u B nf nt hs) (o : Obj) : UFr wl (wr.alloc o) u wr.heap.size nf nt hs := by
  have h2 := h.kept (w1 := wr.alloc o) (by go_grown)
  obtain ⟨q1, q2, q3, q4⟩ := h2
  exact ⟨q1, (q2.mono (show B ≤ wr.heap.size from h.2.2.2)), Nat.le_trans h.2.2.1 h.2.2.2, by simp⟩
theorem UFr.push {wl w w1 : World} {u B q g cap : Nat} {nf nt : ByteArray} {hs : List (Hk.HK ByteArray)} {h : Hk.HK ByteArray} {v hv : Value} {ps : List Nat} {o : Obj} (H : UFr wl w u B nf nt hs)
    (hu : Blk w u 52 #[.string nf, .string nt, v]) (hown : w.ownsRow wl.heap.size 54 1 v hs.length (ps.map ptrV)) (hps : ps.length = hs.length)
    (hl : ∀ i (h1 : i < ps.length) (h2 : i < hs.length), HLow w B ps[i] hs[i] ∧ u < ps[i]) (hq : HAt w q h hv) (huq : u < q)
    (hown1 : w1.ownsRow wl.heap.size 54 1 (.slice (some ⟨g, 0, none⟩) (hs.length + 1) cap) (hs.length + 1) (ps.map ptrV ++ [ptrV q])) (hgr : (w.alloc o).grownBy w1 v.ownBlock) :
    UFr wl (w1.setCell ⟨u, 2, none⟩ (.slice (some ⟨g, 0, none⟩) (hs.length + 1) cap)) u w1.heap.size nf nt (hs ++ [h]) ∧
    (∀ k t cs, k < w.heap.size → k ≠ u → t ≠ 54 → Blk w k t cs → Blk (w1.setCell ⟨u, 2, none⟩ (.slice (some ⟨g, 0, none⟩) (hs.length + 1) cap)) k t cs) := by
  obtain ⟨h1, h2, h3, h4⟩ := H
  obtain ⟨_, _, _, hbs, _⟩ := id h2
  obtain ⟨r1, ⟨r2, r3, r4, r5, r6⟩, r7⟩ := UHs.push hu hbs hown hps (fun i a b => ⟨(hl i a b).1.mono h4, (hl i a b).2⟩) hq huq hown1 hgr
  have hsz := h1.size
  refine ⟨⟨⟨r2.trans h1.os, r3.trans h1.tape, r4.trans h1.output, by simp [World.setCell]; omega, fun k hk hne => ?_⟩, r1, by omega, by simp [World.setCell]⟩, r7⟩
  rw [r6 k (by omega) hk (fun e => hne (by rw [e]))]
  exact h1.block k hk hne
/-- The first line of a hunk is another one. -/
theorem HAt.setF {w : World} {q : Nat} {h : Hk.HK ByteArray} {v : Value} (H : HAt w q h v) (x : Int) : HAt (w.setCell ⟨q, 0, none⟩ (.int .i64 x)) q { h with f := x } v ∧ HKept q w (w.setCell ⟨q, 0, none⟩ (.int .i64 x)) := by
  obtain ⟨h1, h2⟩ := H
  have hge := own_ge h2
  refine ⟨⟨h1.set_ 0 _, h2.kept (row := some q) ⟨rfl, rfl, rfl, by simp [World.setCell], fun k hk hne => Below.heap_setCell w _ _ k (fun e => hne (by rw [e]))⟩ (Or.inr (fun e => by have := hge q e; omega))⟩,
    ⟨Below.setCell (p := ⟨q, 0, none⟩) (Below.refl q w) (Nat.le_refl q) _, fun g t cs hne _ hb => hb.far (by simpa using hne) _, by simp [World.setCell]⟩⟩
theorem HAt.setG {w : World} {q : Nat} {h : Hk.HK ByteArray} {v : Value} (H : HAt w q h v) (x : Int) : HAt (w.setCell ⟨q, 1, none⟩ (.int .i64 x)) q { h with g := x } v ∧ HKept q w (w.setCell ⟨q, 1, none⟩ (.int .i64 x)) := by
  obtain ⟨h1, h2⟩ := H
  have hge := own_ge h2
  refine ⟨⟨h1.set_ 1 _, h2.kept (row := some q) ⟨rfl, rfl, rfl, by simp [World.setCell], fun k hk hne => Below.heap_setCell w _ _ k (fun e => hne (by rw [e]))⟩ (Or.inr (fun e => by have := hge q e; omega))⟩,
    ⟨Below.setCell (p := ⟨q, 1, none⟩) (Below.refl q w) (Nat.le_refl q) _, fun g t cs hne _ hb => hb.far (by simpa using hne) _, by simp [World.setCell]⟩⟩
theorem newH_eq (A : List ByteArray) (x y tl : Int) (a : Nat) (d : Nat) (hd : (Hk.seg A (a - 3) a).length = d) : ({ { Hk.ext ⟨x, y, []⟩ (Hk.seg A (a - 3) a) with f := (a : Int) + 1 - d } with g := tl + 1 - d } : Hk.HK ByteArray) = Hk.newH A tl a := by
  unfold Hk.ext Hk.newH
  simp [hd]
/-- A hunk whose lines went on. -/
def PRel (w wr : World) (p : Nat) (h : Hk.HK ByteArray) (l : List (Nat × ByteArray)) : Prop := ∃ v, HAt wr p { h with ls := h.ls ++ l } v ∧ HKept p w wr
theorem mark_snoc {α : Type} (k : Nat) (l : List α) (x : α) : Hk.mark k (l ++ [x]) = Hk.mark k l ++ [(k, x)] := by simp [Hk.mark]
/-- What one more line makes of it. -/
theorem PRel.push {w wr wd w1 : World} {p : Nat} {h : Hk.HK ByteArray} {l : List (Nat × ByteArray)} {v : Value} {x : Nat × ByteArray} {g cap : Nat} {o : Obj} (hA : HAt wr p { h with ls := h.ls ++ l } v) (hk : HKept p w wr) (hd : wd.heap = wr.heap)
    (hos : wd.os = wr.os) (htp : wd.tape = wr.tape) (hou : wd.output = wr.output)
    (hown : w1.ownsRow (p + 1) 63 2 (.slice (some ⟨g, 0, none⟩) ((h.ls ++ l).length + 1) cap) ((h.ls ++ l).length + 1) (lnRow (h.ls ++ l) ++ lnCells x)) (hgr : (wd.alloc o).grownBy w1 v.ownBlock) :
    PRel w (w1.setCell ⟨p, 2, none⟩ (.slice (some ⟨g, 0, none⟩) ((h.ls ++ l).length + 1) cap)) p h (l ++ [x]) := by
  obtain ⟨r1, r2⟩ := HAt.push hA hd hos htp hou hown hgr
  refine ⟨.slice (some ⟨g, 0, none⟩) ((h.ls ++ l).length + 1) cap, ?_, hk.trans r2⟩
  rw [← List.append_assoc]
  exact r1
theorem UFr.blk {wl wr : World} {u B : Nat} {nf nt : ByteArray} {hs : List (Hk.HK ByteArray)} (h : UFr wl wr u B nf nt hs) : ∃ v, Blk wr u 52 #[.string nf, .string nt, v] := by
  obtain ⟨_, ⟨v, ps, h1, _⟩, _⟩ := h
  exact ⟨v, h1⟩
theorem UFr.strs {wl wr : World} {u B : Nat} {nf nt : ByteArray} {hs : List (Hk.HK ByteArray)} (h : UFr wl wr u B nf nt hs) (hU : Blk wl u 52 #[.string nf, .string nt, .slice none 0 0]) {L : Option Addr} {ls : List ByteArray} (hL : Strs wl L ls) : Strs wr L ls := by
  obtain ⟨v, hv⟩ := h.blk
  intro i hi
  obtain ⟨b, o, e, hc⟩ := hL i hi
  exact ⟨b, o, e, fr_cell h.1 hU hv hc (by simp)⟩
theorem UFr.rows {wl wr : World} {u B : Nat} {nf nt : ByteArray} {hs : List (Hk.HK ByteArray)} (h : UFr wl wr u B nf nt hs) (hU : Blk wl u 52 #[.string nf, .string nt, .slice none 0 0]) {A : Option Addr} {n : Nat} {g : Nat → Ed} (hA : RowsF wl A n g) : RowsF wr A n g := by
  obtain ⟨v, hv⟩ := h.blk
  intro i j hi hj
  obtain ⟨b, o, e, hc⟩ := hA i j hi hj
  exact ⟨b, o, e, fr_cell h.1 hU hv hc (edCells_ns _ _ hj)⟩

theorem lnRow_read {w : World} {base : Nat} {A : Option Addr} {c : Nat} {ls : List (Nat × ByteArray)} (h : w.ownsRow base 63 2 (.slice A ls.length c) ls.length (lnRow ls)) : RowsAt w A 2 (ls.map lnCells) := by
  have he : (ls.map lnCells).length = ls.length := by simp
  refine own_rows (base := base) (c := c) (t := 63) (by rw [he]; exact h) (fun r hr => ?_)
  obtain ⟨x, _, rfl⟩ := List.mem_map.1 hr; rfl
theorem HLow.read {w : World} {B q : Nat} {h : Hk.HK ByteArray} (H : HLow w B q h) : HRead w q h := by
  obtain ⟨v, ⟨h1, h2⟩, _⟩ := H
  rcases h2.2 with ⟨e1, e2⟩ | ⟨g, cap, cur, rfl, _⟩
  · subst e1
    exact ⟨none, 0, by rw [e2]; exact h1, lnRow_read (base := q + 1) (c := 0) (by rw [e2] at h2 ⊢; exact h2)⟩
  · exact ⟨_, _, h1, lnRow_read h2⟩
/-- The hunks are read off. -/
theorem UHs.read {w : World} {bs u B : Nat} {nf nt : ByteArray} {hs : List (Hk.HK ByteArray)} {A : Option Addr} {n c : Nat} (H : UHs w bs u B nf nt hs) (hc : w.cell? ⟨u, 2, none⟩ = some (.slice A n c)) :
    n = hs.length ∧ ∀ i (h : i < hs.length), ∃ b o q, A = some ⟨b, o, none⟩ ∧ w.cell? ⟨b, o + i, none⟩ = some (ptrV q) ∧ HRead w q hs[i] ∧ bs ≤ b ∧ u < q := by
  obtain ⟨v, ps, h1, hbs, h2, h3, h4, _⟩ := H
  have hv : v = .slice A n c := by
    have := h1.cell 2
    rw [hc] at this
    simpa using this.symm
  subst hv
  rcases h2.2 with ⟨e1, e2⟩ | ⟨g, cap, cur, e1, e2, e3, e4, e5, e6, e7⟩
  · injection e1 with a1 a2 a3
    exact ⟨by omega, fun i h => by omega⟩
  · injection e1 with a1 a2 a3
    subst a1
    refine ⟨a2, fun i h => ⟨g, 0, ps[i]'(by omega), rfl, ?_, (h4 i (by omega) h).1.read, e2, (h4 i (by omega) h).2⟩⟩
    have hcl : w.cell? ⟨g, 0 + i, none⟩ = cur[0 + i]? := Blk.cell (w := w) (t := 54) e3 (0 + i)
    rw [hcl, Nat.zero_add]
    have : (cur.toList.take (hs.length * 1))[i]? = some (ptrV (ps[i]'(by omega))) := by
      rw [e7, List.getElem?_map, List.getElem?_eq_getElem (by omega)]; rfl
    rw [List.getElem?_take_of_lt (by omega)] at this
    simpa using this

set_option maxHeartbeats 16000000 in
set_option maxRecDepth 100000 in
theorem toUni_any (nf nt s : ByteArray) (es : List Ct) (p : Nat) (f : Nat → Ed) (A : Option Addr) (cA : Nat) (hs : s.size ≤ 100000) (hasc : AscC s.size es p) (hj : Joined s es p) (hn0 : 1 ≤ es.length) (hn : es.length ≤ 2000) (hsum : sumT es ≤ 100000000) (hP : PrepC s es f) (w : World)
    (hA : RowsF w A es.length f) : Calls Tryz.prog 25 #[.string nf, .string nt, .string s, .slice A es.length cA] w (UniRes w nf nt (HKs s (fullOf s es))) := by
  obtain ⟨i0, hi0, hz0, hz1, hzb⟩ := info_parts info_ln
  obtain ⟨j0, hj0, hy0, hy1, hyb⟩ := info_parts info_ph
  have HA := hide hA
  have HP := hide hP
  have HLE := hide (fun cv A cA W hA => lineEdits_any s es p cv A cA hs hasc hj hn0 hn hsum W hA)
  have HAsc := hide hasc
  clear hA hasc hj hP
  have hnz : ((es.length : Int) == 0) = false := by simp; intro h; simp [h] at hn0
  obtain ⟨n, hn2⟩ : ∃ n, es.length = n := ⟨_, rfl⟩
  have HN := hide hn2
  have hPr : Hid (∀ W, RowsF W A n f → Calls Tryz.prog 44 #[.string s, .slice A n cA] W fun e w' => ∃ p b, e = .returned (.tuple #[.pointer (some ⟨p, 0, none⟩), .slice (some ⟨b, 0, none⟩) n n, .bool (partB s es)]) ∧ RowsF w' (some ⟨b, 0, none⟩) n (edAt (es.map (edC s))) ∧ Below W.heap.size W w') := hide (fun W h => by
    have := HP.out A cA W (by rw [hn2]; exact h)
    unfold PrpC at this
    rw [hn2] at this
    exact this)
  rw [hn2] at HA HLE hn0 hn hnz ⊢
  clear hn2 HP
  obtain ⟨pb, hpb⟩ : ∃ pb, partB s es = pb := ⟨_, rfl⟩
  rw [hpb] at hPr
  have HPb := hide hpb
  clear hpb
  go_enter Tryz.func25, Tryz.ntmps25
  go_wp2_with fail
  refine (hPr.out _ (HA.out.kept (by go_grown))).mono ?_
  rintro e w1 ⟨cp, b1, rfl, hR1, hb1⟩
  have kU := (Blk.newAt (w := w.alloc (.cells #[.string ⟨#[]⟩, .string ⟨#[]⟩, .slice none 0 0] 52)) (g := w.heap.size + 1) (t := 52) (cs := #[.string nf, .string nt, .slice none 0 0]) (by simp)).kept hb1
  have kR := ((Blk.new w 52 #[.string ⟨#[]⟩, .string ⟨#[]⟩, .slice none 0 0]).alloc (.cells #[.string nf, .string nt, .slice none 0 0] 52)).kept hb1
  have hbl1 : Below w.heap.size w w1 := Below.trans (by go_grown) (hb1.mono (by simp; omega))
  have HR1 := hide hR1
  clear hR1 hb1
  go_upto_if 38 with fail
  obtain ⟨fs, hfs⟩ : ∃ fs, fullOf s es = fs := ⟨_, rfl⟩
  have hok := fullOf_ok HAsc.out
  rw [hfs] at hok ⊢
  have HFs := hide hfs
  have hm : fs.length ≤ 2000 := by have := hok.len; have := HN.out; omega
  have hfsz : sumT fs ≤ 600000000 := by
    have h1 := hok.size
    have h2 := Nat.mul_le_mul (show es.length ≤ 2000 by have := HN.out; omega) (show 2 * s.size ≤ 200000 by omega)
    omega
  obtain ⟨pf, hfa⟩ := hok.asc
  have HFull := hide hok.full
  have HLa := hide (leC_asc hfa)
  have HMem := hide (ascC_mem hfa)
  have HSz := hide hfsz
  clear hfs hok hfa hfsz
  go_cut [3] (fun s3 wx => ∃ A3 c3, s3 = .slice A3 fs.length c3 ∧ RowsF wx A3 fs.length (edAt (fs.map (edC s))) ∧ Below w1.heap.size w1 wx)
  case first =>
    have hfs := HFs.out
    unfold fullOf at hfs
    rw [HPb.out] at hfs
    cases pb
    · rw [if_neg (by simp)] at hfs
      have HF2 := hide hfs
      have HR2 : Hid (RowsF w1 (some ⟨b1, 0, none⟩) fs.length (edAt (fs.map (edC s)))) := hide (by rw [← hfs, HN.out]; exact HR1.out)
      have HN2 : Hid (fs.length = n) := hide (by rw [← hfs]; exact HN.out)
      clear hfs
      go_wp2_with fail
      go_meet
      exact ⟨_, _, by rw [HN2.out], HR2.out, Below.refl _ _⟩
    · rw [if_pos rfl] at hfs
      have HF2 := hide hfs
      clear hfs
      go_wp2_with fail
      refine (HLE.out _ _ _ _ HR1.out).mono ?_
      rintro e w2 ⟨A3, c3, rfl, hr3, hb3⟩
      have hF : Hid (RowsF w2 A3 fs.length (edAt (fs.map (edC s)))) := hide (by
        have := rowsF_of hr3
        rw [List.length_map, HF2.out] at this
        exact this)
      rw [HF2.out]
      have HB3 := hide hb3
      clear hr3 hb3
      go_wp2_with fail
      go_meet
      exact ⟨A3, c3, rfl, hF.out, HB3.out⟩
  case rest =>
    obtain ⟨A3, c3, rfl, hr3, hb3⟩ := hcut
    have HSp := hide (fun W => dSplitLines_any s (by omega) W)
    have hM := lnL_len s
    have hM2 := stTo_len s s.size
    have hM3 : (linesB s).length ≤ 100000 := by rw [linesB_len]; omega
    obtain ⟨M, hMM⟩ : ∃ M, (linesB s).length = M := ⟨_, rfl⟩
    unfold LinesRes at HSp
    rw [hMM] at HSp hM3
    have HM := hide hMM
    have kU2 := kU.kept hb3
    have kR2 := kR.kept hb3
    have hbl2 := hbl1.trans (hb3.mono hbl1.size)
    clear hM hM2 hMM kU kR hbl1 HLE hPr HR1 HA
    go_wp2_with fail
    refine (HSp.out _).mono ?_
    rintro e wl ⟨L, cL, rfl, _, hL, hbL⟩
    have kUl := kU2.kept hbL
    have HRl := hide (kR2.kept hbL)
    have HRows := hide (hr3.kept hbL)
    have hbl3 := hide (hbl2.trans (hbL.mono hbl2.size))
    have HL := hide hL
    have lU := kUl.lt
    have HU := hide kUl
    clear hr3 hb3 kU2 kR2 hbl2 hL hbL HSp kUl
    obtain ⟨m, hmm⟩ : ∃ m, fs.length = m := ⟨_, rfl⟩
    have HMm := hide hmm
    rw [hmm] at HRows hm ⊢
    clear hmm
    have H0 : Hid (URel wl wl (w.heap.size + 1) nf nt (linesB s) (fs.map (leC s)) 0 (.pointer none) (.int .i64 0) (.int .i64 0)) := hide ⟨fun _ => ⟨rfl, rfl, rfl, World.grownBy.refl _ _, ⟨_, [], HU.out, lU, ⟨rfl, Or.inl ⟨rfl, rfl⟩⟩, rfl, fun i h1 => absurd h1 (by simp), lU, fun k hk => by simp [Value.ownBlock] at hk⟩, Nat.le_refl _, Nat.le_refl _⟩, fun h => absurd h (Nat.lt_irrefl _)⟩
    go_wp2_with fail
    go_loopw [13, 14, 15, 47] (fun hv lv tv jv wr => ∃ k : Nat, jv = .int .i64 k ∧ k ≤ m ∧ Hid (URel wl wr (w.heap.size + 1) nf nt (linesB s) (fs.map (leC s)) k hv lv tv)) (fun _ _ _ jv _ => m - (intOf jv).toNat)
    case atStart => exact ⟨0, rfl, Nat.zero_le _, H0⟩
    case round =>
      obtain ⟨k, rfl, hk, hr⟩ := hrel
      clear H0
      by_cases hlt : k < m
      · have hlt2 : k < fs.length := by have := HMm.out; omega
        obtain ⟨B0, hs0, hfr⟩ : ∃ B hs, UFr wl wr (w.heap.size + 1) B nf nt hs := by
          by_cases h0 : k = 0
          · obtain ⟨_, _, _, h⟩ := hr.out.1 h0; exact ⟨_, _, h⟩
          · obtain ⟨_, _, _, _, _, _, h⟩ := hr.out.2 (by omega); exact ⟨_, _, h⟩
        have hrows := hfr.rows HU.out HRows.out
        have hgl : wl.heap.size ≤ wr.heap.size := hfr.1.size
        obtain ⟨b, o, rfl, h0⟩ := hrows k 0 hlt (by omega)
        have hc : ∀ i, i < 8 → wr.cell? ⟨b, o + k * 8 + i, none⟩ = some ((edCells (edC s fs[k])).getD i undef) := by
          intro i hi
          obtain ⟨b', o', e, h⟩ := hrows k i hlt hi
          injection e with e
          injection e with e1 e2
          subst e1; subst e2
          rw [edAt_map hlt2] at h
          exact h
        obtain ⟨q, hq1, hq2⟩ := hkasc_take HLa.out k (by simp; omega)
        have hq3 := hq2 (by simp; omega)
        rw [List.getElem_map] at hq3
        have hpl := HMem.out _ (List.getElem_mem hlt2)
        have hsz : (fs[k]).t.size ≤ 600000000 := by
          have h1 := sumT_take fs (k + 1)
          have h2 := HSz.out
          rw [List.take_succ_eq_append_getElem hlt2, sumT_snoc] at h1
          omega
        obtain ⟨e, he⟩ : ∃ e, fs[k] = e := ⟨_, rfl⟩
        rw [he] at hc hq3 hpl hsz
        obtain ⟨le, hle⟩ : ∃ le, leC s e = le := ⟨_, rfl⟩
        rw [hle] at hq3
        obtain ⟨x1, x2, x3⟩ := hq3
        have hla : PL s e.a = (le.a : Int) + 1 := by
          have := PL_pos s e.a (by omega)
          rw [← hle]; unfold leC; simp only; omega
        have hlb : PL s e.b = (le.b : Int) + 1 := by
          have := PL_pos s e.b hpl.2
          rw [← hle]; unfold leC; simp only; omega
        have hlt3 : linesB e.t = le.t := by rw [← hle]; rfl
        have d0 := hc 0 (by omega)
        have d1 := hc 1 (by omega)
        have d2 := hc 2 (by omega)
        have d3 := hc 3 (by omega)
        have d4 := hc 4 (by omega)
        have d5 := hc 5 (by omega)
        have d6 := hc 6 (by omega)
        have d7 := hc 7 (by omega)
        simp only [edCells, edC, List.getD_cons_zero, List.getD_cons_succ, Nat.add_zero] at d0 d1 d2 d3 d4 d5 d6 d7
        rw [hla] at d1
        rw [hlb] at d4
        have hA2 : (fs.map (leC s))[k]? = some le := by rw [List.getElem?_map, List.getElem?_eq_getElem hlt2, he, ← hle]; rfl
        have HLk := hide hA2
        have hrun1 : k = 0 → Hk.runS (linesB s) ((fs.map (leC s)).take (k + 1)) = Hk.st1 (linesB s) le := by
          intro h0
          subst h0
          cases hfl : fs.map (leC s) with
          | nil => rw [hfl] at hA2; simp at hA2
          | cons x r => rw [hfl] at hA2; simp at hA2; subst hA2; rfl
        have hrun2 : 0 < k → Hk.runS (linesB s) ((fs.map (leC s)).take (k + 1)) = Hk.stepS (linesB s) (Hk.runS (linesB s) ((fs.map (leC s)).take k)) le := by
          intro h0
          have hkl : k < (fs.map (leC s)).length := by simp; omega
          have hge : (fs.map (leC s))[k] = le := by rw [List.getElem?_eq_getElem hkl] at hA2; injection hA2
          rw [List.take_succ_eq_append_getElem hkl, hge, Hk.runS_snoc _ (take_ne h0 (by omega))]
        obtain ⟨qn, hqn, _⟩ := hkasc_take HLa.out (k + 1) (by simp; omega)
        have hIn := Hk.inv_all hqn (take_ne (by omega) (by simp; omega))
        have HInv := hide (fun h0 : 0 < k => Hk.inv_all hq1 (take_ne h0 (by simp; omega)))
        have HR1' := hide hrun1
        have HR2' := hide hrun2
        have HQ := hide (Hk.asc_eap hq1)
        have HLt := hide hlt3
        clear hc h0 hrows he hq1 hq2 hla hlb hlt3 hA2 hrun1 hrun2 hfr
        have hM1 : le.b ≤ M := by have := HM.out; omega
        clear x3
        obtain ⟨ka, kb, tt⟩ := le
        dsimp only at x1 x2 hM1 d1 d4 HLt
        obtain ⟨pre, hpre⟩ : ∃ pre : List (Hk.HK ByteArray) × Hk.HK ByteArray × Int, pre = if k = 0 then ([], Hk.newH (linesB s) (ka : Int) ka, (ka : Int)) else preS (linesB s) (Hk.runS (linesB s) ((fs.map (leC s)).take k)) ka := ⟨_, rfl⟩
        have hnext : Hk.runS (linesB s) ((fs.map (leC s)).take (k + 1)) = ⟨pre.1, Hk.putE (linesB s) pre.2.1 ⟨ka, kb, tt⟩, kb, pre.2.2 + tt.length⟩ := by
          by_cases h0 : k = 0
          · rw [HR1'.out h0, hpre, if_pos h0]; rfl
          · rw [HR2'.out (by omega), hpre, if_neg h0, stepS_pre]
        obtain ⟨hs1, cur1, tl1⟩ := pre
        dsimp only at hnext
        rw [hnext] at hIn
        have j1 := cur_len hIn
        have j2 := hIn.tl0
        have j3 := hIn.tl1
        have j4 := putN_le s (fs.take (k + 1))
        have j5 := sumT_take fs (k + 1)
        have j6 := HSz.out
        have j7 := HM.out
        rw [List.map_take] at j4
        dsimp only [Hk.putE] at j1 j2 j3
        simp only [List.length_append, Hk.mark_len] at j1
        have hcur1 : cur1.ls.length + (Hk.seg (linesB s) ka kb).length + tt.length ≤ 1000000000 := by omega
        have htlA : -1000000000 ≤ tl1 ∧ tl1 + tt.length ≤ 1000000000 := by omega
        clear j1 j2 j3 j4 j5 j6 j7 hIn hqn
        have HNext := hide hnext
        have HPre := hide hpre
        clear hnext hpre HR1' HR2' HLk
        have kE0 : ∀ wx, wx = wr.alloc (.cells #[.string ⟨#[97]⟩, .int .i64 ((ka : Int) + 1), .int .i64 (PC s e.a), .int .i64 (e.a : Nat), .int .i64 ((kb : Int) + 1), .int .i64 (PC s e.b), .int .i64 (e.b : Nat), .string e.t] 89) → Blk wx wr.heap.size 89 #[.string ⟨#[97]⟩, .int .i64 ((ka : Int) + 1), .int .i64 (PC s e.a), .int .i64 (e.a : Nat), .int .i64 ((kb : Int) + 1), .int .i64 (PC s e.b), .int .i64 (e.b : Nat), .string e.t] := by
          rintro wx rfl; exact Blk.new _ _ _
        have HKE := hide kE0
        clear kE0
        have hka : ka ≤ 100000 := by omega
        have hkb : kb ≤ 100000 := by omega
        go_upto_region 14 with fail
        refine wp_gen ?_
        intro W0 hW0
        have kE := HKE.out W0 hW0
        have hbW0 : Below wr.heap.size wr W0 := by rw [hW0]; go_grown
        clear hW0 d0 d1 d2 d3 d4 d5 d6 d7 HKE
        have hzE : wr.heap.size < W0.heap.size := kE.lt
        have f8 := kE.eight
        go_wp2_with fail
        refine (start_any _ _ _ _ _ _ _ _).mono ?_
        rintro en w2 ⟨rfl, hb2⟩
        go_wp2_with fail
        refine (pLine_any _ _ _ (by omega) _).mono ?_
        rintro en w3 ⟨rfl, hb3⟩
        have hbW3 := hbW0.trans ((hb2.trans (hb3.mono hb2.size)).mono hbW0.size)
        have kE3 := (kE.kept hb2).kept hb3
        have f8 := kE3.eight
        clear hb2 hb3 kE hbW0
        go_wp2_with fail
        refine (end_any _ _ _ _ _ _ _ _).mono ?_
        rintro en w4 ⟨rfl, hb4⟩
        go_wp2_with fail
        refine (pLine_any _ _ _ (by omega) _).mono ?_
        rintro en w5 ⟨rfl, hb5⟩
        have hbW5 := hbW3.trans ((hb4.trans (hb5.mono hb4.size)).mono hbW3.size)
        have kE5 := (kE3.kept hb4).kept hb5
        have hR5 : Hid (URel wl w5 (w.heap.size + 1) nf nt (linesB s) (fs.map (leC s)) k u13 u14 u15) := hide (hr.out.kept hbW5)
        clear hb4 hb5 kE3 hbW3 f8 hr
        have hgE : wr.heap.size < w5.heap.size := kE5.lt
        generalize wr.heap.size = gE at *
        go_upto_block 2 with fail
        go_cut [13, 15] (fun s13 s15 wx => ∃ p v, s13 = ptrV p ∧ s15 = .int .i64 tl1 ∧ HAt wx p cur1 v ∧ UFr wl wx (w.heap.size + 1) p nf nt hs1 ∧ ¬ gE = p ∧ Blk wx gE 89 #[.string ⟨#[97]⟩, .int .i64 ((ka : Int) + 1), .int .i64 (PC s e.a), .int .i64 (e.a : Nat), .int .i64 ((kb : Int) + 1), .int .i64 (PC s e.b), .int .i64 (e.b : Nat), .string e.t])
        case first =>
          --{1
          by_cases h0 : k = 0
          · have hp := HPre.out
            rw [if_pos h0] at hp
            obtain ⟨rfl, rfl, rfl, hfr⟩ := hR5.out.1 h0
            injection hp with hp1 hp2
            injection hp2 with hp2 hp3
            have HP1 := hide hp1
            have HP2 := hide hp2
            have HP3 := hide hp3
            have H0k := hide h0
            clear hp1 hp2 hp3 hR5 HPre h0
            have hfr5 := hfr.new (.cells #[.int .i64 ((ka : Int) + 1), .int .i64 ((ka : Int) + 1), .slice none 0 0] 57)
            have hB1 : Hid (∀ W1, W1 = w5.alloc (.cells #[.int .i64 ((ka : Int) + 1), .int .i64 ((ka : Int) + 1), .slice none 0 0] 57) → HAt W1 w5.heap.size ⟨(ka : Int) + 1, (ka : Int) + 1, []⟩ (.slice none 0 0) ∧ UFr wl W1 (w.heap.size + 1) w5.heap.size nf nt [] ∧ Blk W1 gE 89 #[.string ⟨#[97]⟩, .int .i64 ((ka : Int) + 1), .int .i64 (PC s e.a), .int .i64 (e.a : Nat), .int .i64 ((kb : Int) + 1), .int .i64 (PC s e.b), .int .i64 (e.b : Nat), .string e.t]) := hide (by
              rintro W1 rfl
              exact ⟨⟨Blk.new _ _ _, rfl, Or.inl ⟨rfl, rfl⟩⟩, hfr5, kE5.alloc _⟩)
            clear hfr5 hfr kE5
            go_upto_region 21 with fail
            refine wp_gen ?_
            intro W1 hW1
            obtain ⟨HA1, FR1, kE1⟩ := hB1.out W1 hW1
            clear hW1 hB1
            have hpE : ¬ gE = w5.heap.size := by omega
            generalize w5.heap.size = q1 at *
            obtain ⟨d, hd⟩ : ∃ d, (Hk.seg (linesB s) (ka - 3) ka).length = d := ⟨_, rfl⟩
            have hd3 : d ≤ 3 := by rw [← hd, Hk.seg_len]; omega
            have hAdd : Hid (Calls Tryz.prog 52 #[.pointer (some ⟨q1, 0, none⟩), .slice L M cL, .int .i64 ((ka : Int) - 3), .int .i64 (ka : Nat)] W1 (fun en w' => ∃ v, en = .returned (.int .i64 (d : Nat)) ∧ HAt w' q1 (Hk.ext ⟨(ka : Int) + 1, (ka : Int) + 1, []⟩ (Hk.seg (linesB s) (ka - 3) ka)) v ∧ HKept q1 W1 w')) := hide (by
              have := addEq_any (linesB s) L cL q1 ⟨(ka : Int) + 1, (ka : Int) + 1, []⟩ _ ((ka : Int) - 3) (ka : Nat) (by omega) (by omega) (by omega) (by have := HM.out; omega) (by simp) W1 (fun W hb => (FR1.low hb).strs HU.out HL.out) HA1
              rw [HM.out] at this
              unfold EqRes at this
              rw [show ((ka : Int) - 3).toNat = ka - 3 by omega, show ((ka : Nat) : Int).toNat = ka by omega, hd] at this
              exact this)
            have HD := hide hd
            clear hd
            go_wp2_with fail
            refine hAdd.out.mono ?_
            rintro en w6 ⟨v6, rfl, HA2, hk2⟩
            have FR2 := FR1.low hk2.below
            have kE2 := hk2.blk _ _ _ hpE (by decide) kE1
            have f6 := (show Blk w6 q1 57 #[.int .i64 ((ka : Int) + 1), .int .i64 ((ka : Int) + 1), v6] from HA2.1).three
            have l6 := HA2.1.lt
            have G1 : Hid (∀ wx, wx = (w6.setCell ⟨q1, 0, none⟩ (.int .i64 ((ka : Int) + 1 - d))).setCell ⟨q1, 1, none⟩ (.int .i64 ((ka : Int) + 1 - d)) → ∃ v, HAt wx q1 cur1 v ∧ UFr wl wx (w.heap.size + 1) q1 nf nt hs1 ∧ Blk wx gE 89 #[.string ⟨#[97]⟩, .int .i64 ((ka : Int) + 1), .int .i64 (PC s e.a), .int .i64 (e.a : Nat), .int .i64 ((kb : Int) + 1), .int .i64 (PC s e.b), .int .i64 (e.b : Nat), .string e.t]) := hide (by
              rintro wx rfl
              obtain ⟨a1, a2⟩ := HA2.setF ((ka : Int) + 1 - d)
              obtain ⟨b1, b2⟩ := a1.setG ((ka : Int) + 1 - d)
              refine ⟨v6, ?_, ?_, b2.blk _ _ _ hpE (by decide) (a2.blk _ _ _ hpE (by decide) kE2)⟩
              · rw [newH_eq (linesB s) _ _ (ka : Int) ka d HD.out] at b1
                rw [HP2.out]; exact b1
              · rw [HP1.out]; exact (FR2.low a2.below).low b2.below)
            clear FR1 FR2 HA1 HA2 kE1 kE2 hk2 hAdd
            go_wp2_with fail
            go_meet
            obtain ⟨v9, g1, g2, g3⟩ := G1.out _ rfl
            exact ⟨_, v9, rfl, by rw [HP3.out], g1, g2, hpE, g3⟩
          · have hp := HPre.out
            rw [if_neg h0] at hp
            have hI := HInv.out (by omega)
            have hput := putN_le s (fs.take k)
            have hput2 := sumT_take fs k
            have hput3 := HSz.out
            rw [List.map_take] at hput
            have hcl := cur_len hI
            have hNs := run_hs (linesB s) ((fs.map (leC s)).take k)
            rw [List.length_take] at hNs
            have hMM := HM.out
            have i1 := hI.le
            have i2 := hI.tl0
            have i3 := hI.tl1
            have i4 := hI.last
            rw [HQ.out] at i4
            obtain ⟨p1, v1, rfl, rfl, rfl, hAt, hfr⟩ := hR5.out.2 (by omega)
            generalize Hk.runS (linesB s) ((fs.map (leC s)).take k) = st at *
            obtain ⟨hs0, cur0, la, tl0⟩ := st
            dsimp only at hp i1 i2 i3 i4 hcl hAt hfr hNs ⊢
            have hla : la ≤ ka := by omega
            have hla2 : la ≤ 100000 := by omega
            have htl2 : tl0 ≤ 1000000000 := by omega
            have hcl2 : cur0.ls.length ≤ 1000000000 := by omega
            have hNs : hs0.length ≤ 100000 := by omega
            have hgp : ¬ gE = p1 := by
              intro e1
              subst e1
              have := Blk.ne_ kE5 hAt.1 (by decide)
              exact this rfl
            have H0k := hide h0
            have HPr2 := hide hp
            clear hput hput2 hput3 hcl hMM i1 i3 i4 hI hR5 hp HPre h0 HQ HInv
            by_cases c1 : ka = la
            · subst c1
              have hp := HPr2.out
              unfold preS at hp
              rw [if_pos rfl] at hp
              injection hp with hp1 hp2
              injection hp2 with hp2 hp3
              have G1 : Hid (HAt w5 p1 cur1 v1 ∧ UFr wl w5 (w.heap.size + 1) p1 nf nt hs1) := hide (by rw [hp1, hp2]; exact ⟨hAt, hfr⟩)
              have HP3 := hide hp3
              have K5 := hide kE5
              clear hp1 hp2 hp3 hAt hfr kE5 HPr2 hla
              go_wp2_with fail
              go_meet
              exact ⟨p1, v1, rfl, by rw [HP3.out], G1.out.1, G1.out.2, hgp, K5.out⟩
            · have c1' : ((ka : Int) == (la : Int)) = false := by simp; omega
              by_cases c2 : ka ≤ la + 6
              · have hp := HPr2.out
                unfold preS at hp
                dsimp only at hp
                rw [if_neg c1, if_pos c2] at hp
                injection hp with hp1 hp2
                injection hp2 with hp2 hp3
                have HP1 := hide hp1
                have HP2 := hide hp2
                have HP3 := hide hp3
                clear hp1 hp2 hp3 HPr2
                have c2' : (ka : Int) ≤ (la : Int) + 6 := by omega
                have hAdd : Hid (Calls Tryz.prog 52 #[.pointer (some ⟨p1, 0, none⟩), .slice L M cL, .int .i64 (la : Nat), .int .i64 (ka : Nat)] w5 (fun en w' => ∃ v d, en = .returned (.int .i64 d) ∧ HAt w' p1 (Hk.ext cur0 (Hk.seg (linesB s) la ka)) v ∧ HKept p1 w5 w')) := hide (by
                  have := addEq_any (linesB s) L cL p1 cur0 v1 (la : Nat) (ka : Nat) (by omega) (by omega) (by omega) (by have := HM.out; omega) hcl2 w5 (fun W hb => (hfr.low hb).strs HU.out HL.out) hAt
                  rw [HM.out] at this
                  refine this.mono ?_
                  rintro en w' ⟨v, h1, h2, h3⟩
                  exact ⟨v, _, h1, h2, h3⟩)
                clear c1
                go_wp2_with fail
                refine hAdd.out.mono ?_
                rintro en w6 ⟨v6, d6, rfl, HA2, hk2⟩
                have G1 : Hid (HAt w6 p1 cur1 v6 ∧ UFr wl w6 (w.heap.size + 1) p1 nf nt hs1 ∧ Blk w6 gE 89 #[.string ⟨#[97]⟩, .int .i64 ((ka : Int) + 1), .int .i64 (PC s e.a), .int .i64 (e.a : Nat), .int .i64 ((kb : Int) + 1), .int .i64 (PC s e.b), .int .i64 (e.b : Nat), .string e.t]) := hide (by
                  rw [HP1.out, HP2.out]
                  exact ⟨HA2, hfr.low hk2.below, hk2.blk _ _ _ hgp (by decide) kE5⟩)
                clear HA2 hk2 hAt hfr kE5 hAdd
                go_wp2_with fail
                go_meet
                exact ⟨p1, v6, rfl, by rw [HP3.out], G1.out.1, G1.out.2.1, hgp, G1.out.2.2⟩
              · have hp := HPr2.out
                unfold preS at hp
                dsimp only at hp
                rw [if_neg c1, if_neg c2] at hp
                injection hp with hp1 hp2
                injection hp2 with hp2 hp3
                have HP1 := hide hp1
                have HP2 := hide hp2
                have HP3 := hide hp3
                clear hp1 hp2 hp3 HPr2
                have c2' : ¬ (ka : Int) ≤ (la : Int) + 6 := by omega
                have hAdd : Hid (Calls Tryz.prog 52 #[.pointer (some ⟨p1, 0, none⟩), .slice L M cL, .int .i64 (la : Nat), .int .i64 ((la : Int) + 3)] w5 (fun en w' => ∃ v d, en = .returned (.int .i64 d) ∧ HAt w' p1 (Hk.ext cur0 (Hk.seg (linesB s) la (la + 3))) v ∧ HKept p1 w5 w')) := hide (by
                  have := addEq_any (linesB s) L cL p1 cur0 v1 (la : Nat) ((la : Int) + 3) (by omega) (by omega) (by omega) (by have := HM.out; omega) hcl2 w5 (fun W hb => (hfr.low hb).strs HU.out HL.out) hAt
                  rw [HM.out, show ((la : Nat) : Int).toNat = la by omega, show ((la : Int) + 3).toNat = la + 3 by omega] at this
                  refine this.mono ?_
                  rintro en w' ⟨v, h1, h2, h3⟩
                  exact ⟨v, _, h1, h2, h3⟩)
                clear c1 c2
                go_wp2_with fail
                refine hAdd.out.mono ?_
                rintro en w6 ⟨v6, d6, rfl, HA2, hk2⟩
                have FR2 := hfr.low hk2.below
                have kE2 := hk2.blk _ _ _ hgp (by decide) kE5
                clear hAt hfr kE5 hAdd hk2
                obtain ⟨vU, ps, kU6, _, hownU, hps, hl6, huB, hvB⟩ := id FR2.2.1
                have lU6 := kU6.lt
                have fU6 := kU6.three
                have hlE := kE2.lt
                have hup : w.heap.size + 1 < p1 := huB
                have hwlw : wl.heap.size ≤ w6.heap.size := Nat.le_trans FR2.2.2.1 FR2.2.2.2
                have HPush : Hid (∀ (w7 : World) (g cap : Nat) (o : Obj), w7.ownsRow wl.heap.size 54 1 (.slice (some ⟨g, 0, none⟩) (hs0.length + 1) cap) (hs0.length + 1) (ps.map ptrV ++ [ptrV p1]) → (w6.alloc o).grownBy w7 vU.ownBlock →
                    UFr wl (w7.setCell ⟨w.heap.size + 1, 2, none⟩ (.slice (some ⟨g, 0, none⟩) (hs0.length + 1) cap)) (w.heap.size + 1) w7.heap.size nf nt (hs0 ++ [Hk.ext cur0 (Hk.seg (linesB s) la (la + 3))]) ∧
                    Blk (w7.setCell ⟨w.heap.size + 1, 2, none⟩ (.slice (some ⟨g, 0, none⟩) (hs0.length + 1) cap)) gE 89 #[.string ⟨#[97]⟩, .int .i64 ((ka : Int) + 1), .int .i64 (PC s e.a), .int .i64 (e.a : Nat), .int .i64 ((kb : Int) + 1), .int .i64 (PC s e.b), .int .i64 (e.b : Nat), .string e.t] ∧ w7.cell? ⟨w.heap.size + 1, 2, none⟩ = some vU ∧ w7.frozen? ⟨w.heap.size + 1, 2, none⟩ = false ∧ w.heap.size + 1 < w7.heap.size) := hide (fun w7 g cap o h1 h2 => by
                  obtain ⟨r1, r2⟩ := FR2.push (o := o) kU6 hownU hps hl6 HA2 hup h1 h2
                  have kU7 : Blk w7 (w.heap.size + 1) 52 #[.string nf, .string nt, vU] := (kU6.alloc o).grown h2 (fun e => by have := own_ge hownU _ e.symm; omega)
                  exact ⟨r1, r2 gE _ _ hlE (by omega) (by decide) kE2, kU7.cell 2, kU7.frozen 2, kU7.lt⟩)
                have HOwnU := hide hownU
                have hbase := FR2.2.2.1
                obtain ⟨N, hN2⟩ : ∃ N, hs0.length = N := ⟨_, rfl⟩
                rw [hN2] at HPush HOwnU hNs
                clear hN2
                obtain ⟨X, hX⟩ : ∃ X, ps.map ptrV = X := ⟨_, rfl⟩
                rw [hX] at HPush HOwnU
                clear hX FR2 HA2 kE2 hl6 kU6 hownU hps hvB hbase
                go_upto_region 21 with (first
                  | (at_builtin; refine wpList_append_lies _ rfl _ _ 50 rfl wl.heap.size 54 j0 _ 1 8 Tryz.underlying50 hj0 hy0 hy1 hyb rfl (by omega) vU N X (by rfl) ((HOwnU.out).alloc _) ⟨w6.heap.size, 0, none⟩ 1 1 [ptrV p1] (by rfl) (by rfl) (World.news_of_block (cs := #[ptrV p1]) (t := 54) (fr := (0, 0)) (heap_alloc_new w6 _)) (by simp [Value.oneCell']) (by omega) (by unfold maxLen; omega) (by omega) (by simp; omega) (w6.heap.size + 1) (by simp) ?_; intro g2 cap2 w7 hown7 hgrow hat hlt2; have hZ := HPush.out _ _ _ _ hown7 hgrow; have hZ1 := hZ.2.2.1; have hZ2 := hZ.2.2.2.1; have HZ := hide hZ; clear hown7 hgrow hat hlt2 hZ))
                refine wp_gen ?_
                intro W1 hW1
                have hB1 : HAt W1 w7.heap.size ⟨(ka : Int) + 1, tl0 + ((ka : Int) - (la : Int)) + 1, []⟩ (.slice none 0 0) ∧ UFr wl W1 (w.heap.size + 1) w7.heap.size nf nt (hs0 ++ [Hk.ext cur0 (Hk.seg (linesB s) la (la + 3))]) ∧ Blk W1 gE 89 #[.string ⟨#[97]⟩, .int .i64 ((ka : Int) + 1), .int .i64 (PC s e.a), .int .i64 (e.a : Nat), .int .i64 ((kb : Int) + 1), .int .i64 (PC s e.b), .int .i64 (e.b : Nat), .string e.t] := by
                  have hz7 : (w7.setCell ⟨w.heap.size + 1, 2, none⟩ (.slice (some ⟨g2, 0, none⟩) (N + 1) cap2)).heap.size = w7.heap.size := by simp [World.setCell]
                  rw [hW1]
                  refine ⟨⟨Blk.newAt hz7, rfl, Or.inl ⟨rfl, rfl⟩⟩, ?_, HZ.out.2.1.alloc _⟩
                  have := HZ.out.1.new (.cells #[.int .i64 ((ka : Int) + 1), .int .i64 (tl0 + ((ka : Int) - (la : Int)) + 1), .slice none 0 0] 57)
                  rw [hz7] at this
                  exact this
                obtain ⟨HA1, FR1, kE1⟩ := hB1
                have hpE : ¬ gE = w7.heap.size := by
                  have := HZ.out.2.1.lt
                  simp [World.setCell] at this
                  omega
                clear hW1 HZ hZ1 hZ2 HPush HOwnU
                generalize w7.heap.size = q1 at *
                obtain ⟨d, hd⟩ : ∃ d, (Hk.seg (linesB s) (ka - 3) ka).length = d := ⟨_, rfl⟩
                have hd3 : d ≤ 3 := by rw [← hd, Hk.seg_len]; omega
                have hAdd : Hid (Calls Tryz.prog 52 #[.pointer (some ⟨q1, 0, none⟩), .slice L M cL, .int .i64 ((ka : Int) - 3), .int .i64 (ka : Nat)] W1 (fun en w' => ∃ v, en = .returned (.int .i64 (d : Nat)) ∧ HAt w' q1 (Hk.ext ⟨(ka : Int) + 1, tl0 + ((ka : Int) - (la : Int)) + 1, []⟩ (Hk.seg (linesB s) (ka - 3) ka)) v ∧ HKept q1 W1 w')) := hide (by
                  have := addEq_any (linesB s) L cL q1 ⟨(ka : Int) + 1, tl0 + ((ka : Int) - (la : Int)) + 1, []⟩ _ ((ka : Int) - 3) (ka : Nat) (by omega) (by omega) (by omega) (by have := HM.out; omega) (by simp) W1 (fun W hb => (FR1.low hb).strs HU.out HL.out) HA1
                  rw [HM.out] at this
                  unfold EqRes at this
                  rw [show ((ka : Int) - 3).toNat = ka - 3 by omega, show ((ka : Nat) : Int).toNat = ka by omega, hd] at this
                  exact this)
                have HD := hide hd
                clear hd
                go_wp2_with fail
                refine hAdd.out.mono ?_
                rintro en w8 ⟨v8, rfl, HA2, hk2⟩
                have FR2 := FR1.low hk2.below
                have kE2 := hk2.blk _ _ _ hpE (by decide) kE1
                have f6 := (show Blk w8 q1 57 #[.int .i64 ((ka : Int) + 1), .int .i64 (tl0 + ((ka : Int) - (la : Int)) + 1), v8] from HA2.1).three
                have l6 := HA2.1.lt
                have G1 : Hid (∀ wx, wx = (w8.setCell ⟨q1, 0, none⟩ (.int .i64 ((ka : Int) + 1 - d))).setCell ⟨q1, 1, none⟩ (.int .i64 (tl0 + ((ka : Int) - (la : Int)) + 1 - d)) → ∃ v, HAt wx q1 cur1 v ∧ UFr wl wx (w.heap.size + 1) q1 nf nt hs1 ∧ Blk wx gE 89 #[.string ⟨#[97]⟩, .int .i64 ((ka : Int) + 1), .int .i64 (PC s e.a), .int .i64 (e.a : Nat), .int .i64 ((kb : Int) + 1), .int .i64 (PC s e.b), .int .i64 (e.b : Nat), .string e.t]) := hide (by
                  rintro wx rfl
                  obtain ⟨a1, a2⟩ := HA2.setF ((ka : Int) + 1 - d)
                  obtain ⟨b1, b2⟩ := a1.setG (tl0 + ((ka : Int) - (la : Int)) + 1 - d)
                  refine ⟨v8, ?_, ?_, b2.blk _ _ _ hpE (by decide) (a2.blk _ _ _ hpE (by decide) kE2)⟩
                  · rw [newH_eq (linesB s) _ _ (tl0 + ((ka : Int) - (la : Int))) ka d HD.out] at b1
                    rw [HP2.out]; exact b1
                  · rw [HP1.out]; exact (FR2.low a2.below).low b2.below)
                clear FR1 FR2 HA1 HA2 kE1 kE2 hk2 hAdd
                go_wp2_with fail
                go_meet
                obtain ⟨v9, g1, g2, g3⟩ := G1.out _ rfl
                exact ⟨_, v9, rfl, by rw [HP3.out], g1, g2, hpE, g3⟩
          --}1
        case rest =>
          --{4
          obtain ⟨p1, v1, rfl, rfl, hAt, hfr, hgp, kE⟩ := hcut
          have hlP := hAt.1.lt
          have D0 : Hid (PRel wc wc p1 cur1 (Hk.mark 0 (Hk.seg (linesB s) ka ka))) := hide ⟨v1, by rw [Hk.seg_self]; simpa [Hk.mark] using hAt, HKept.refl _ _⟩
          have HFR := hide hfr
          have KE := hide kE
          clear hAt hfr kE hR5 kE5 hbW5 HPre HInv HQ
          go_wp2_with fail
          go_loopw [14, 21] (fun lv iv wr => ∃ i : Nat, lv = .int .i64 i ∧ iv = .int .i64 i ∧ ka ≤ i ∧ i ≤ kb ∧ Hid (PRel wc wr p1 cur1 (Hk.mark 0 (Hk.seg (linesB s) ka i)))) (fun _ iv _ => kb - (intOf iv).toNat)
          case atStart => exact ⟨ka, rfl, rfl, Nat.le_refl _, x2, D0⟩
          case round =>
            obtain ⟨i, rfl, rfl, hi1, hi2, hD⟩ := hrel
            clear D0
            by_cases c1 : i < kb
            · have c1' : (i : Int) < (kb : Int) := by omega
              --{2
              have hiM : i < (linesB s).length := by have := HM.out; omega
              obtain ⟨v2, a1, a2⟩ := hD.out
              obtain ⟨bl, ol, rfl, hcl⟩ := (HFR.out.low a2.below).strs HU.out HL.out i hiM
              have hsn := seg_snoc (linesB s) hi1 hiM
              have hx : (linesB s).getD i ByteArray.empty = (linesB s)[i] := by rw [List.getD_eq_getElem?_getD, List.getElem?_eq_getElem hiM]; rfl
              obtain ⟨x, hx2⟩ : ∃ x, (linesB s)[i] = x := ⟨_, rfl⟩
              rw [hx, hx2] at hcl
              rw [hx2] at hsn
              have hpl := a1.1.lt
              have k3 := (show Blk wr p1 57 #[.int .i64 cur1.f, .int .i64 cur1.g, v2] from a1.1).three
              have hll : (cur1.ls ++ Hk.mark 0 (Hk.seg (linesB s) ka i)).length ≤ 1100000000 := by
                rw [List.length_append, Hk.mark_len, Hk.seg_len]; omega
              have HX : Hid (∀ (w1 : World) (g cap : Nat) (o : Obj), w1.ownsRow (p1 + 1) 63 2 (.slice (some ⟨g, 0, none⟩) ((cur1.ls ++ Hk.mark 0 (Hk.seg (linesB s) ka i)).length + 1) cap) ((cur1.ls ++ Hk.mark 0 (Hk.seg (linesB s) ka i)).length + 1) (lnRow (cur1.ls ++ Hk.mark 0 (Hk.seg (linesB s) ka i)) ++ lnCells (0, x)) → (wr.drew.alloc o).grownBy w1 v2.ownBlock →
                  PRel wc (w1.setCell ⟨p1, 2, none⟩ (.slice (some ⟨g, 0, none⟩) ((cur1.ls ++ Hk.mark 0 (Hk.seg (linesB s) ka i)).length + 1) cap)) p1 cur1 (Hk.mark 0 (Hk.seg (linesB s) ka (i + 1)))) := hide (fun w1 g cap o h1 h2 => by
                rw [hsn, mark_snoc]
                exact PRel.push (wd := wr.drew) a1 a2 rfl rfl rfl rfl h1 h2)
              have HOwn := hide a1.2
              have HY : Hid (∀ (w5 : World) (o : Obj), (wr.drew.alloc o).grownBy w5 v2.ownBlock → w5.cell? ⟨p1, 2, none⟩ = some v2 ∧ w5.frozen? ⟨p1, 2, none⟩ = false) := hide (fun w5 o hg => by
                have hb5 : Blk w5 p1 57 #[.int .i64 cur1.f, .int .i64 cur1.g, v2] := (a1.1.drew.alloc o).grown hg (fun e => by have := own_ge a1.2 p1 e.symm; omega)
                exact ⟨hb5.cell 2, hb5.frozen 2⟩)
              dsimp only at HOwn
              obtain ⟨N, hN⟩ : ∃ N, (cur1.ls ++ Hk.mark 0 (Hk.seg (linesB s) ka i)).length = N := ⟨_, rfl⟩
              rw [hN] at HX HOwn hll
              obtain ⟨X, hX⟩ : ∃ X, lnRow (cur1.ls ++ Hk.mark 0 (Hk.seg (linesB s) ka i)) = X := ⟨_, rfl⟩
              rw [hX] at HX HOwn
              have hiM2 : i < M := by omega
              clear hX hN hsn hx hx2 a1 a2 hD hiM
              go_wp2_with fail
              go_region_law (first
                | (refine step_append_lies _ rfl _ _ 55 rfl (p1 + 1) 63 i0 _ 2 24 Tryz.underlying55 hi0 hz0 hz1 hzb rfl (by omega) v2 N X (by rfl) ((HOwn.out).alloc _) ⟨wr.heap.size, 0, none⟩ 1 1 (lnCells (0, x)) (by rfl) (by rfl) (World.news_of_block (cs := (lnCells (0, x)).toArray) (t := 63) (fr := (0, 0)) (heap_alloc_new _ _)) (by simp [Value.oneCell', lnCells]) (by omega) (by unfold maxLen; omega) (by omega) (by simp; omega) (wr.heap.size + 1) (by simp) ?_; intro g2 cap2 w5 hown1 hgrow hat hlt2; have hY := HY.out _ _ hgrow))
              all_goals
                have HR := hide (HX.out _ _ _ _ hown1 hgrow)
                clear hown1 hgrow hY hat
                go_wp2
                go_roundw
                case rel => exact ⟨i + 1, by go_num, by go_num, by omega, by omega, HR⟩
                case measure => simp [intOf]; omega
              --}2
            · obtain rfl : i = kb := by omega
              clear c1
              obtain ⟨v2, a1, a2⟩ := hD.out
              have kE2 := a2.blk _ _ _ hgp (by decide) KE.out
              have fE2 := kE2.eight
              have HA2 := hide a1
              have FR2 := hide (HFR.out.low a2.below)
              have KE2 := hide kE2
              clear hD a1 a2 HFR KE kE2
              have hcur2 : cur1.ls.length + (Hk.mark 0 (Hk.seg (linesB s) ka i)).length + tt.length ≤ 1000000000 := by rw [Hk.mark_len]; exact hcur1
              clear hcur1
              obtain ⟨h2, hh2⟩ : ∃ h2 : Hk.HK ByteArray, h2 = { cur1 with ls := cur1.ls ++ Hk.mark 0 (Hk.seg (linesB s) ka i) } := ⟨_, rfl⟩
              have hl2 : h2.ls.length + tt.length ≤ 1000000000 := by rw [hh2]; simp only [List.length_append]; exact hcur2
              have HA3 : Hid (HAt wr p1 h2 v2) := hide (by rw [hh2]; exact HA2.out)
              have HEnd : Hid (∀ W v, HAt W p1 { h2 with ls := h2.ls ++ Hk.mark 1 tt } v → HKept p1 wr W → URel wl W (w.heap.size + 1) nf nt (linesB s) (fs.map (leC s)) (k + 1) (ptrV p1) (.int .i64 (i : Nat)) (.int .i64 (tl1 + tt.length))) := hide (fun W v h1 h2' => by
                refine ⟨fun h => by omega, fun _ => ⟨p1, v, rfl, ?_, ?_, ?_, ?_⟩⟩
                · rw [HNext.out]
                · rw [HNext.out]
                · rw [HNext.out]
                  unfold Hk.putE
                  simp only
                  rw [hh2] at h1
                  simp only [List.append_assoc] at h1
                  exact h1
                · rw [HNext.out]
                  exact FR2.out.low h2'.below)
              clear hcur2 hh2 HA2 FR2 HNext
              by_cases ht0 : e.t.size = 0
              · have htt : tt = [] := by
                  rw [← HLt.out]
                  unfold linesB
                  have : e.t.data.toList = [] := List.length_eq_zero_iff.1 (by rw [size_list]; exact ht0)
                  rw [this]; rfl
                have hte : e.t = ⟨#[]⟩ := eq_of_list (List.length_eq_zero_iff.1 (by rw [size_list]; exact ht0))
                subst htt
                have hF : Hid (URel wl wr (w.heap.size + 1) nf nt (linesB s) (fs.map (leC s)) (k + 1) (ptrV p1) (.int .i64 (i : Nat)) (.int .i64 tl1)) := hide (by
                  have := HEnd.out wr v2 (by simpa [Hk.mark] using HA3.out) (HKept.refl _ _)
                  simpa using this)
                rw [hte] at fE2
                clear hte HEnd HA3 KE2
                go_wp2
                go_roundw
                case rel => exact ⟨k + 1, by go_num, by omega, hF⟩
                case measure => simp [intOf]; omega
              · have hne := str_ne ht0
                have HS2 := hide (fun W => dSplitLinesF_any e.t (by omega) W)
                unfold LinesResF at HS2
                rw [HLt.out] at HS2
                obtain ⟨tn, htn⟩ : ∃ tn, tt.length = tn := ⟨_, rfl⟩
                rw [htn] at HS2 htlA hl2
                have HTn := hide htn
                have hgE2 := KE2.out.lt
                have hlp := HA3.out.1.lt
                clear htn ht0
                go_wp2_with fail
                refine (HS2.out _).mono ?_
                rintro en w3 ⟨T3, cT3, rfl, _, hT3, hfr3, hb3⟩
                have HT3 := hide hT3
                have HA4 := hide (HA3.out.kept hb3)
                have HK3 : Hid (HKept p1 wr w3) := hide ⟨hb3.mono (Nat.le_of_lt hlp), fun g t cs _ _ hb => hb.kept hb3, hb3.size⟩
                have HFr3 : Hid (∀ W, HKept p1 w3 W → Strs W T3 tt) := hide (fun W hk j hj => by
                  obtain ⟨bl, ol, e1, hc⟩ := hT3 j hj
                  obtain ⟨r1, cs, r2⟩ := hfr3 _ e1
                  have r3 := hk.blk _ _ _ (show bl ≠ p1 by have r1 : wr.heap.size ≤ bl := r1; omega) (by decide) r2
                  exact ⟨bl, ol, e1, by rw [r3.cell, ← r2.cell]; exact hc⟩)
                clear hT3 hb3 HA3 HS2 hfr3
                have D0 : Hid (PRel w3 w3 p1 h2 (Hk.mark 1 (tt.take 0))) := hide ⟨v2, by simpa [Hk.mark] using HA4.out, HKept.refl _ _⟩
                go_wp2_with fail
                go_loopw [15, 160] (fun tv jv wr => ∃ j : Nat, jv = .int .i64 j ∧ j ≤ tn ∧ tv = .int .i64 (tl1 + j) ∧ Hid (PRel w3 wr p1 h2 (Hk.mark 1 (tt.take j)))) (fun _ jv _ => tn - (intOf jv).toNat)
                case atStart => exact ⟨0, rfl, Nat.zero_le _, by simp, D0⟩
                case round =>
                  obtain ⟨j, rfl, hj, rfl, hD2⟩ := hrel
                  clear D0
                  by_cases c1 : j < tn
                  · have c1' : (j : Int) < (tn : Int) := by omega
                    have hjt : j < tt.length := by have := HTn.out; omega
                    --{3
                    obtain ⟨v4, a1, a2⟩ := hD2.out
                    obtain ⟨bl, ol, rfl, hcl2⟩ := HFr3.out wr a2 j hjt
                    have hx : tt.getD j ByteArray.empty = tt[j] := by rw [List.getD_eq_getElem?_getD, List.getElem?_eq_getElem hjt]; rfl
                    obtain ⟨x, hx2⟩ : ∃ x, tt[j] = x := ⟨_, rfl⟩
                    rw [hx, hx2] at hcl2
                    have hsn : tt.take (j + 1) = tt.take j ++ [x] := by rw [List.take_succ_eq_append_getElem hjt, hx2]
                    have hpl := a1.1.lt
                    have k3 := (show Blk wr p1 57 #[.int .i64 h2.f, .int .i64 h2.g, v4] from a1.1).three
                    have hll : (h2.ls ++ Hk.mark 1 (tt.take j)).length ≤ 1100000000 := by
                      rw [List.length_append, Hk.mark_len, List.length_take]; omega
                    have HX : Hid (∀ (w1 : World) (g cap : Nat) (o : Obj), w1.ownsRow (p1 + 1) 63 2 (.slice (some ⟨g, 0, none⟩) ((h2.ls ++ Hk.mark 1 (tt.take j)).length + 1) cap) ((h2.ls ++ Hk.mark 1 (tt.take j)).length + 1) (lnRow (h2.ls ++ Hk.mark 1 (tt.take j)) ++ lnCells (1, x)) → (wr.alloc o).grownBy w1 v4.ownBlock →
                        PRel w3 (w1.setCell ⟨p1, 2, none⟩ (.slice (some ⟨g, 0, none⟩) ((h2.ls ++ Hk.mark 1 (tt.take j)).length + 1) cap)) p1 h2 (Hk.mark 1 (tt.take (j + 1)))) := hide (fun w1 g cap o h1 h2' => by
                      rw [hsn, mark_snoc]
                      exact PRel.push (wd := wr) a1 a2 rfl rfl rfl rfl h1 h2')
                    have HOwn := hide a1.2
                    have HY : Hid (∀ (w5 : World) (o : Obj), (wr.alloc o).grownBy w5 v4.ownBlock → w5.cell? ⟨p1, 2, none⟩ = some v4 ∧ w5.frozen? ⟨p1, 2, none⟩ = false) := hide (fun w5 o hg => by
                      have hb5 : Blk w5 p1 57 #[.int .i64 h2.f, .int .i64 h2.g, v4] := (Blk.alloc a1.1 o).grown hg (fun e => by have := own_ge a1.2 p1 e.symm; omega)
                      exact ⟨hb5.cell 2, hb5.frozen 2⟩)
                    dsimp only at HOwn
                    obtain ⟨N, hN⟩ : ∃ N, (h2.ls ++ Hk.mark 1 (tt.take j)).length = N := ⟨_, rfl⟩
                    rw [hN] at HX HOwn hll
                    obtain ⟨X, hX⟩ : ∃ X, lnRow (h2.ls ++ Hk.mark 1 (tt.take j)) = X := ⟨_, rfl⟩
                    rw [hX] at HX HOwn
                    clear hX hN hsn hx hx2 a1 a2 hD2 hjt
                    go_wp2_with (first
                      | (at_builtin; refine wpList_append_lies _ rfl _ _ 55 rfl (p1 + 1) 63 i0 _ 2 24 Tryz.underlying55 hi0 hz0 hz1 hzb rfl (by omega) v4 N X (by rfl) ((HOwn.out).alloc _) ⟨wr.heap.size, 0, none⟩ 1 1 (lnCells (1, x)) (by rfl) (by rfl) (World.news_of_block (cs := (lnCells (1, x)).toArray) (t := 63) (fr := (0, 0)) (heap_alloc_new wr _)) (by simp [Value.oneCell', lnCells]) (by omega) (by unfold maxLen; omega) (by omega) (by simp; omega) (wr.heap.size + 1) (by simp) ?_; intro g2 cap2 w5 hown1 hgrow hat hlt2; have hY := HY.out _ _ hgrow))
                    have HR := hide (HX.out _ _ _ _ hown1 hgrow)
                    clear hown1 hgrow hY hat
                    go_roundw
                    case rel => exact ⟨j + 1, by go_num, by omega, by go_num, HR⟩
                    case measure => simp [intOf]; omega
                    --}3
                  · obtain rfl : j = tn := by omega
                    clear c1
                    obtain ⟨v4, a1, a2⟩ := hD2.out
                    have htk : tt.take j = tt := by rw [← HTn.out, List.take_length]
                    rw [htk] at a1
                    have hF : Hid (URel wl wr (w.heap.size + 1) nf nt (linesB s) (fs.map (leC s)) (k + 1) (ptrV p1) (.int .i64 (i : Nat)) (.int .i64 (tl1 + (j : Nat)))) := hide (by
                      have := HEnd.out wr v4 a1 (HK3.out.trans a2)
                      rw [HTn.out] at this
                      exact this)
                    clear a1 a2 hD2 htk HEnd HA4 HK3 KE2
                    go_wp2
                    go_roundw
                    case rel => exact ⟨k + 1, by go_num, by omega, hF⟩
                    case measure => simp [intOf]; omega
          --}4
      · obtain rfl : k = m := by omega
        have hk0 : 0 < k := by
          have := HFs.out
          have h1 := HMm.out
          have h2 := HN.out
          unfold fullOf fullC at this
          rcases Nat.eq_zero_or_pos k with e1 | e1
          · exfalso
            have hf0 : fs = [] := List.length_eq_zero_iff.1 (by omega)
            rw [hf0] at this
            split at this
            · rw [if_neg (by omega)] at this; simp at this
            · rw [this] at h2; simp at h2; omega
          · exact e1
        obtain ⟨q, hq1, _⟩ := hkasc_take HLa.out k (by simp; have := HMm.out; omega)
        have htk : (fs.map (leC s)).take k = fs.map (leC s) := by
          rw [List.take_of_length_le]; simp; have := HMm.out; omega
        obtain ⟨p1, v1, rfl, rfl, rfl, hAt, hfr⟩ := hr.out.2 hk0
        rw [htk] at hAt hfr hq1 ⊢
        have hI := Hk.inv_all hq1 (fun e1 => by have := congrArg List.length e1; simp at this; have h1 := HMm.out; rw [this] at h1; simp at h1; omega)
        have hcl := cur_len hI
        have hNs := run_hs (linesB s) (fs.map (leC s))
        have hput := putN_le s fs
        have hsz3 := HSz.out
        have hMM := HM.out
        have i1 := hI.le
        have i5 := HMm.out
        rw [List.length_map] at hNs
        have HEq : Hid (HKs s fs = (Hk.runS (linesB s) (fs.map (leC s))).hs ++ [Hk.ext (Hk.runS (linesB s) (fs.map (leC s))).cur (Hk.seg (linesB s) (Hk.runS (linesB s) (fs.map (leC s))).last ((Hk.runS (linesB s) (fs.map (leC s))).last + 3))]) := hide (by
          unfold HKs Hk.hunksS
          rw [if_neg (by rw [List.length_map]; omega)]
          rfl)
        generalize Hk.runS (linesB s) (fs.map (leC s)) = st at *
        obtain ⟨hs0, cur0, la, tl0⟩ := st
        dsimp only at i1 hcl hNs hAt hfr HEq ⊢
        have hla2 : la ≤ 100000 := by omega
        have hcl2 : cur0.ls.length ≤ 1000000000 := by omega
        have hNs2 : hs0.length ≤ 100000 := by omega
        clear hq1 htk hI hcl hNs hput hsz3 hMM i1 i5 hr
        have hAdd : Hid (Calls Tryz.prog 52 #[.pointer (some ⟨p1, 0, none⟩), .slice L M cL, .int .i64 (la : Nat), .int .i64 ((la : Int) + 3)] wr (fun en w' => ∃ v d, en = .returned (.int .i64 d) ∧ HAt w' p1 (Hk.ext cur0 (Hk.seg (linesB s) la (la + 3))) v ∧ HKept p1 wr w')) := hide (by
          have := addEq_any (linesB s) L cL p1 cur0 v1 (la : Nat) ((la : Int) + 3) (by omega) (by omega) (by omega) (by have := HM.out; omega) hcl2 wr (fun W hb => (hfr.low hb).strs HU.out HL.out) hAt
          rw [HM.out, show ((la : Nat) : Int).toNat = la by omega, show ((la : Int) + 3).toNat = la + 3 by omega] at this
          refine this.mono ?_
          rintro en w' ⟨v, h1, h2, h3⟩
          exact ⟨v, _, h1, h2, h3⟩)
        go_wp2_with fail
        refine hAdd.out.mono ?_
        rintro en w6 ⟨v6, d6, rfl, HA2, hk2⟩
        have FR2 := hfr.low hk2.below
        clear hAt hfr hAdd hk2
        obtain ⟨vU, ps, kU6, _, hownU, hps, hl6, huB, hvB⟩ := id FR2.2.1
        have lU6 := kU6.lt
        have fU6 := kU6.three
        have hup : w.heap.size + 1 < p1 := huB
        have hwlw : wl.heap.size ≤ w6.heap.size := Nat.le_trans FR2.2.2.1 FR2.2.2.2
        have HPush : Hid (∀ (w7 : World) (g cap : Nat) (o : Obj), w7.ownsRow wl.heap.size 54 1 (.slice (some ⟨g, 0, none⟩) (hs0.length + 1) cap) (hs0.length + 1) (ps.map ptrV ++ [ptrV p1]) → (w6.alloc o).grownBy w7 vU.ownBlock →
            UFr wl (w7.setCell ⟨w.heap.size + 1, 2, none⟩ (.slice (some ⟨g, 0, none⟩) (hs0.length + 1) cap)) (w.heap.size + 1) w7.heap.size nf nt (HKs s fs) ∧ w7.cell? ⟨w.heap.size + 1, 2, none⟩ = some vU ∧ w7.frozen? ⟨w.heap.size + 1, 2, none⟩ = false ∧ Blk (w7.setCell ⟨w.heap.size + 1, 2, none⟩ (.slice (some ⟨g, 0, none⟩) (hs0.length + 1) cap)) (w.heap.size + 1) 52 #[.string nf, .string nt, .slice (some ⟨g, 0, none⟩) (hs0.length + 1) cap]) := hide (fun w7 g cap o h1 h2 => by
          obtain ⟨r1, r2⟩ := FR2.push (o := o) kU6 hownU hps hl6 HA2 hup h1 h2
          have kU7 : Blk w7 (w.heap.size + 1) 52 #[.string nf, .string nt, vU] := (kU6.alloc o).grown h2 (fun e => by have := own_ge hownU _ e.symm; omega)
          exact ⟨by rw [HEq.out]; exact r1, kU7.cell 2, kU7.frozen 2, kU7.set_ 2 _⟩)
        have HOwnU := hide hownU
        obtain ⟨N, hN2⟩ : ∃ N, hs0.length = N := ⟨_, rfl⟩
        rw [hN2] at HPush HOwnU hNs2
        clear hN2
        obtain ⟨X, hX⟩ : ∃ X, ps.map ptrV = X := ⟨_, rfl⟩
        rw [hX] at HPush HOwnU
        clear hX FR2 HA2 hl6 kU6 hownU hps hvB
        go_upto_region 44 with (first
          | (at_builtin; refine wpList_append_lies _ rfl _ _ 50 rfl wl.heap.size 54 j0 _ 1 8 Tryz.underlying50 hj0 hy0 hy1 hyb rfl (by omega) vU N X (by rfl) ((HOwnU.out).alloc _) ⟨w6.heap.size, 0, none⟩ 1 1 [ptrV p1] (by rfl) (by rfl) (World.news_of_block (cs := #[ptrV p1]) (t := 54) (fr := (0, 0)) (heap_alloc_new w6 _)) (by simp [Value.oneCell']) (by omega) (by unfold maxLen; omega) (by omega) (by simp; omega) (w6.heap.size + 1) (by simp) ?_; intro g2 cap2 w7 hown7 hgrow hat hlt2; have hZ := HPush.out _ _ _ _ hown7 hgrow; have hZ1 := hZ.2.1; have hZ2 := hZ.2.2.1; have HZ := hide hZ; clear hown7 hgrow hat hlt2 hZ))
        refine wp_gen ?_
        intro W8 hW8
        obtain ⟨hF8, _, _, kU8⟩ := HZ.out
        rw [← hW8] at hF8 kU8
        have kR8 : Blk W8 w.heap.size 52 #[.string ⟨#[]⟩, .string ⟨#[]⟩, .slice none 0 0] := HRl.out.grown hF8.1 (by simp)
        have fU8 := kU8.three
        have fR8 := kR8.three
        have lU8 := kU8.lt
        have lR8 := kR8.lt
        have hbw : Below w.heap.size w W8 := hbl3.out.trans (SX.below hF8.1 (by omega) (by have := hbl3.out.size; omega))
        obtain ⟨hn, hread⟩ := hF8.2.1.read (kU8.cell 2)
        have HFin : Hid (∀ W9, W9 = ((W8.setCell ⟨w.heap.size, 0, none⟩ (.string nf)).setCell ⟨w.heap.size, 1, none⟩ (.string nt)).setCell ⟨w.heap.size, 2, none⟩ (.slice (some ⟨g2, 0, none⟩) (N + 1) cap2) →
            UniRes w nf nt (HKs s fs) (.returned (.agg #[.string nf, .string nt, .slice (some ⟨g2, 0, none⟩) (N + 1) cap2])) W9 ∧ Blk W9 w.heap.size 52 #[.string nf, .string nt, .slice (some ⟨g2, 0, none⟩) (N + 1) cap2]) := hide (by
          rintro W9 rfl
          have far : ∀ k t cs, k ≠ w.heap.size → Blk W8 k t cs → Blk (((W8.setCell ⟨w.heap.size, 0, none⟩ (.string nf)).setCell ⟨w.heap.size, 1, none⟩ (.string nt)).setCell ⟨w.heap.size, 2, none⟩ (.slice (some ⟨g2, 0, none⟩) (N + 1) cap2)) k t cs := fun k t cs hk h => ((h.far (by simpa using hk) _).far (by simpa using hk) _).far (by simpa using hk) _
          have farc : ∀ k o, k ≠ w.heap.size → (((W8.setCell ⟨w.heap.size, 0, none⟩ (.string nf)).setCell ⟨w.heap.size, 1, none⟩ (.string nt)).setCell ⟨w.heap.size, 2, none⟩ (.slice (some ⟨g2, 0, none⟩) (N + 1) cap2)).cell? ⟨k, o, none⟩ = W8.cell? ⟨k, o, none⟩ := fun k o hk => by
            rw [World.cell?_setCell_other _ _ _ _ (by intro e; injection e with e; omega), World.cell?_setCell_other _ _ _ _ (by intro e; injection e with e; omega), World.cell?_setCell_other _ _ _ _ (by intro e; injection e with e; omega)]
          refine ⟨⟨some ⟨g2, 0, none⟩, cap2, by rw [hn], fun i hi => ?_, ?_⟩, aePut3 kR8⟩
          · obtain ⟨b, o, q, e1, e2, ⟨A9, c9, e3, e4⟩, e5, e6⟩ := hread i hi
            refine ⟨b, o, q, e1, by rw [farc _ _ (by omega)]; exact e2, A9, c9, far _ _ _ (by omega) e3, ?_⟩
            intro i2 j2 h1 h2
            obtain ⟨b2, o2, r1, r2⟩ := e4 i2 j2 h1 h2
            refine ⟨b2, o2, r1, ?_⟩
            by_cases hb2 : b2 = w.heap.size
            · exfalso
              obtain ⟨b3, o3, r3, r4⟩ := e4 i2 0 h1 (by omega)
              rw [r1] at r3
              injection r3 with r3
              injection r3 with r3 _
              rw [← r3, hb2, kR8.cell] at r4
              rw [List.length_map] at h1
              have hv : ((((HKs s fs)[i].ls).map lnCells).getD i2 []).getD 0 undef = .int .i64 (((HKs s fs)[i].ls)[i2]).1 := by
                have e0 : (((HKs s fs)[i].ls).map lnCells).getD i2 [] = lnCells (((HKs s fs)[i].ls)[i2]) := by
                  rw [List.getD_eq_getElem?_getD, List.getElem?_map, List.getElem?_eq_getElem h1]; rfl
                rw [e0]; rfl
              rw [hv] at r4
              generalize o3 + (i2 * 2 + 0) = z at r4
              match z, r4 with
              | 0, r4 => simp at r4
              | 1, r4 => simp at r4
              | 2, r4 => simp at r4
              | z + 3, r4 => simp at r4
            · rw [farc _ _ hb2]; exact r2
          · exact (((hbw.setCell (p := ⟨w.heap.size, 0, none⟩) (Nat.le_refl _) _).setCell (p := ⟨w.heap.size, 1, none⟩) (Nat.le_refl _) _).setCell (p := ⟨w.heap.size, 2, none⟩) (Nat.le_refl _) _))
        clear hW8 HZ hF8 kU8 kR8 hbw hn hread
        go_wp2_with fail
        have f9 := (HFin.out _ rfl).2.three
        exact bodyPost_ret (v := .agg #[.string nf, .string nt, .slice (some ⟨g2, 0, none⟩) (N + 1) cap2]) (by simp [results, Tryz.results25, go_sem, f9]) rfl (by rw [HFs.out]; exact (HFin.out _ rfl).1)
end Go.Proofs.YtgegialfhkgggaaGreatDoor
