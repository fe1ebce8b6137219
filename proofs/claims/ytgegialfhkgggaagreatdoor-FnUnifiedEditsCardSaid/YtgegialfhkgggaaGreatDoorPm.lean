/- Plain laws and contracts: hunks of edits of full lines; edits expanded to full lines and merged; what prepareEdits leaves. No condition but sizes. -/
import Derived.Test.YtgegialfhkgggaaGreatDoorPj
set_option linter.unusedVariables false
set_option linter.unusedSimpArgs false
namespace Go.Proofs.YtgegialfhkgggaaGreatDoor.Hk

/-- Lines a to b are left out, lines are put in. -/
structure LE (α : Type) where
  a : Nat
  b : Nat
  t : List α
/-- A hunk: its first lines, and its lines with their kinds. -/
structure HK (α : Type) where
  f : Int
  g : Int
  ls : List (Nat × α)

variable {α : Type}
def olds (ls : List (Nat × α)) : List α := (ls.filter (fun x => decide (x.1 ≠ 1))).map (·.2)
def news (ls : List (Nat × α)) : List α := (ls.filter (fun x => decide (x.1 ≠ 0))).map (·.2)
def mark (k : Nat) (l : List α) : List (Nat × α) := l.map (fun x => (k, x))
def seg (A : List α) (i j : Nat) : List α := (A.drop i).take (j - i)

theorem olds_app (a b : List (Nat × α)) : olds (a ++ b) = olds a ++ olds b := by simp [olds]
theorem news_app (a b : List (Nat × α)) : news (a ++ b) = news a ++ news b := by simp [news]
theorem olds_mark (k : Nat) (l : List α) : olds (mark k l) = if k = 1 then [] else l := by
  unfold olds mark
  induction l with
  | nil => simp
  | cons x r ih =>
    by_cases h : k = 1
    · simp [h]
    · simp only [if_neg h] at ih ⊢
      rw [List.map_cons, List.filter_cons_of_pos (by simpa using h), List.map_cons, ih]
theorem news_mark (k : Nat) (l : List α) : news (mark k l) = if k = 0 then [] else l := by
  unfold news mark
  induction l with
  | nil => simp
  | cons x r ih =>
    by_cases h : k = 0
    · simp [h]
    · simp only [if_neg h] at ih ⊢
      rw [List.map_cons, List.filter_cons_of_pos (by simpa using h), List.map_cons, ih]
theorem mark_len (k : Nat) (l : List α) : (mark k l).length = l.length := by simp [mark]
theorem mark_app (k : Nat) (a b : List α) : mark k (a ++ b) = mark k a ++ mark k b := by simp [mark]

theorem seg_len (A : List α) (i j : Nat) : (seg A i j).length = min (j - i) (A.length - i) := by simp [seg]
theorem seg_self (A : List α) (i : Nat) : seg A i i = [] := by simp [seg]
theorem seg_app (A : List α) {i j k : Nat} (h : i ≤ j) (h2 : j ≤ k) : seg A i j ++ seg A j k = seg A i k := by
  unfold seg
  have e : k - i = (j - i) + (k - j) := by omega
  rw [e, List.take_add, List.drop_drop, show i + (j - i) = j by omega]
theorem seg_clip (A : List α) {i j : Nat} (h : A.length ≤ j) : seg A i j = A.drop i := by
  unfold seg
  exact List.take_of_length_le (by rw [List.length_drop]; omega)
theorem seg_get (A : List α) {i j : Nat} (h : i < j) (h2 : i < A.length) : seg A i j = A[i] :: seg A (i + 1) j := by
  unfold seg
  rw [List.drop_eq_getElem_cons h2, show j - i = (j - (i + 1)) + 1 by omega, List.take_succ_cons]
theorem seg_min (A : List α) (i j : Nat) : seg A i j = seg A i (min j A.length) := by
  by_cases h : j ≤ A.length
  · rw [Nat.min_eq_left h]
  · rw [Nat.min_eq_right (by omega), seg_clip A (by omega), seg_clip A (Nat.le_refl _)]

/-- One hunk on: what is written, and how far the old lines are read. -/
def pstep (A : List α) (p : List α × Nat) (h : HK α) : List α × Nat :=
  (p.1 ++ seg A p.2 (h.f - 1).toNat ++ news h.ls, (h.f - 1).toNat + (olds h.ls).length)
def pst (A : List α) (hs : List (HK α)) : List α × Nat := hs.foldl (pstep A) ([], 0)
theorem pst_snoc (A : List α) (hs : List (HK α)) (h : HK α) : pst A (hs ++ [h]) = pstep A (pst A hs) h := by simp [pst]
/-- A hunk stands in the old lines. -/
def HOk (A : List α) (p : Nat) (h : HK α) : Prop := ∃ q : Nat, h.f = (q : Int) + 1 ∧ p ≤ q ∧ q + (olds h.ls).length ≤ A.length ∧ olds h.ls = seg A q (q + (olds h.ls).length)
def PatOk (A : List α) (hs : List (HK α)) : Prop := ∀ k (h : k < hs.length), HOk A (pst A (hs.take k)).2 hs[k]
theorem patOk_nil (A : List α) : PatOk A [] := fun k h => absurd h (by simp)
theorem patOk_snoc {A : List α} {hs : List (HK α)} {h : HK α} (h1 : PatOk A hs) (h2 : HOk A (pst A hs).2 h) : PatOk A (hs ++ [h]) := by
  intro k hk
  rw [List.length_append, List.length_singleton] at hk
  by_cases e : k < hs.length
  · have := h1 k e
    rw [List.getElem_append_left e, List.take_append_of_le_length (by omega)]
    exact this
  · have e2 : k = hs.length := by omega
    subst e2
    simpa using h2
theorem hok_q {h : HK α} {q : Nat} (hq : h.f = (q : Int) + 1) : (h.f - 1).toNat = q := by rw [hq]; omega
/-- A hunk's lines go on: kept lines. -/
theorem HOk.more {A : List α} {p q : Nat} {h : HK α} (H : HOk A p h) (hq : h.f = (q : Int) + 1) (ls : List (Nat × α)) (ho : olds ls = seg A (q + (olds h.ls).length) (q + (olds h.ls).length + (olds ls).length)) (hl : q + (olds h.ls).length + (olds ls).length ≤ A.length) :
    HOk A p { h with ls := h.ls ++ ls } := by
  obtain ⟨q', h1, h2, h3, h4⟩ := H
  obtain rfl : q' = q := by omega
  refine ⟨q', h1, h2, ?_, ?_⟩
  · simp only [olds_app, List.length_append]; omega
  · simp only [olds_app, List.length_append]
    rw [← Nat.add_assoc, ← seg_app A (show q' ≤ q' + (olds h.ls).length by omega) (Nat.le_add_right _ _), ← h4, ← ho]

/-- How many lines are left out or put in. -/
def chg (ls : List (Nat × α)) : Nat := (ls.filter (fun x => decide (x.1 ≠ 2))).length
theorem chg_app (a b : List (Nat × α)) : chg (a ++ b) = chg a + chg b := by simp [chg]
theorem chg_mark (k : Nat) (l : List α) : chg (mark k l) = if k = 2 then 0 else l.length := by
  unfold chg mark
  induction l with
  | nil => simp
  | cons x r ih =>
    by_cases h : k = 2
    · simp [h]
    · simp only [if_neg h] at ih ⊢
      rw [List.map_cons, List.filter_cons_of_pos (by simpa using h), List.length_cons, ih, List.length_cons]

/-! The hunks of edits. -/
structure St (α : Type) where
  hs : List (HK α)
  cur : HK α
  last : Nat
  tl : Int
def ext (h : HK α) (l : List α) : HK α := { h with ls := h.ls ++ mark 2 l }
def putE (A : List α) (h : HK α) (e : LE α) : HK α := { h with ls := h.ls ++ (mark 0 (seg A e.a e.b) ++ mark 1 e.t) }
/-- A new hunk, with its edge; tl: the line in the new text. -/
def newH (A : List α) (tl : Int) (a : Nat) : HK α := ⟨(a : Int) + 1 - (seg A (a - 3) a).length, tl + 1 - (seg A (a - 3) a).length, mark 2 (seg A (a - 3) a)⟩
def st1 (A : List α) (e : LE α) : St α := ⟨[], putE A (newH A e.a e.a) e, e.b, (e.a : Int) + e.t.length⟩
def stepS (A : List α) (st : St α) (e : LE α) : St α :=
  if e.a = st.last then ⟨st.hs, putE A st.cur e, e.b, st.tl + e.t.length⟩
  else if e.a ≤ st.last + 6 then ⟨st.hs, putE A (ext st.cur (seg A st.last e.a)) e, e.b, st.tl + e.t.length⟩
  else ⟨st.hs ++ [ext st.cur (seg A st.last (st.last + 3))], putE A (newH A (st.tl + ((e.a : Int) - st.last)) e.a) e, e.b, st.tl + ((e.a : Int) - st.last) + e.t.length⟩
def endS (A : List α) (st : St α) : List (HK α) := st.hs ++ [ext st.cur (seg A st.last (st.last + 3))]
/-- The state behind some edits; there is one at least. -/
def runS (A : List α) : List (LE α) → St α
  | [] => ⟨[], ⟨0, 0, []⟩, 0, 0⟩
  | e :: es => es.foldl (stepS A) (st1 A e)
def hunksS (A : List α) (es : List (LE α)) : List (HK α) := if es.length = 0 then [] else endS A (runS A es)
theorem runS_snoc (A : List α) {es : List (LE α)} (h : es ≠ []) (e : LE α) : runS A (es ++ [e]) = stepS A (runS A es) e := by
  cases es with
  | nil => exact absurd rfl h
  | cons x r => simp [runS]

/-- One edit on: what is written, and how far the old lines are read. -/
def eapS (A : List α) (p : List α × Nat) (e : LE α) : List α × Nat := (p.1 ++ seg A p.2 e.a ++ e.t, e.b)
def eap (A : List α) (es : List (LE α)) : List α × Nat := es.foldl (eapS A) ([], 0)
theorem eap_snoc (A : List α) (es : List (LE α)) (e : LE α) : eap A (es ++ [e]) = eapS A (eap A es) e := by simp [eap]
def putN (es : List (LE α)) : Nat := (es.map (fun e => e.t.length)).sum
def cutN (es : List (LE α)) : Nat := (es.map (fun e => e.b - e.a)).sum
theorem putN_snoc (es : List (LE α)) (e : LE α) : putN (es ++ [e]) = putN es + e.t.length := by simp [putN]
theorem cutN_snoc (es : List (LE α)) (e : LE α) : cutN (es ++ [e]) = cutN es + (e.b - e.a) := by simp [cutN]
/-- Edits in order, within the lines. -/
inductive Asc (A : List α) : List (LE α) → Nat → Prop
  | nil : Asc A [] 0
  | snoc {es p e} : Asc A es p → p ≤ e.a → e.a ≤ e.b → e.b ≤ A.length → Asc A (es ++ [e]) e.b
theorem asc_eap {A : List α} {es : List (LE α)} {p : Nat} (h : Asc A es p) : (eap A es).2 = p := by
  cases h with
  | nil => rfl
  | snoc h1 h2 h3 h4 => rw [eap_snoc]; rfl

/-- What is kept of a hunk: kinds, first lines, sizes; n: how many lines are put in. -/
structure HGood (A : List α) (n : Nat) (h : HK α) : Prop where
  kind : ∀ x ∈ h.ls, x.1 ≤ 2
  f1 : 1 ≤ h.f
  f2 : h.f ≤ A.length + 1
  g1 : 1 ≤ h.g
  g2 : h.g ≤ A.length + n + 1
  len : h.ls.length ≤ A.length + n
  both : ∃ x ∈ h.ls, x.1 = 2
/-- The same of the hunk at hand. -/
structure CGood (A : List α) (n : Nat) (hs : List (HK α)) (h : HK α) : Prop where
  kind : ∀ x ∈ h.ls, x.1 ≤ 2
  f1 : 1 ≤ h.f
  f2 : h.f ≤ A.length + 1
  g1 : 1 ≤ h.g
  g2 : h.g ≤ A.length + n + 1
  len : h.ls.length ≤ (olds h.ls).length + n
  both : (∃ x ∈ h.ls, x.1 = 2) ∨ (hs = [] ∧ h.f = 1)
/-- All that is kept behind some edits. -/
structure Inv (A : List α) (es : List (LE α)) (st : St α) : Prop where
  pat : PatOk A (st.hs ++ [st.cur])
  at_ : pst A (st.hs ++ [st.cur]) = (( eap A es).1, st.last)
  last : st.last = (eap A es).2
  le : st.last ≤ A.length
  good : ∀ h ∈ st.hs, HGood A (putN es) h
  cur : CGood A (putN es) st.hs st.cur
  tl0 : 0 ≤ st.tl
  tl1 : st.tl ≤ (st.last : Int) + putN es
  sum : ((st.hs ++ [st.cur]).map (fun h => chg h.ls)).sum = cutN es + putN es
  first : ∃ h r, st.hs ++ [st.cur] = h :: r ∧ h.f = h.g
  some_ : (∀ e ∈ es, 1 ≤ (e.b - e.a) + e.t.length) → ∀ h ∈ st.hs ++ [st.cur], 1 ≤ chg h.ls

theorem mem_mark {k : Nat} {l : List α} {x : Nat × α} (h : x ∈ mark k l) : x.1 = k := by
  unfold mark at h
  obtain ⟨y, _, rfl⟩ := List.mem_map.1 h
  rfl
theorem seg_ne {A : List α} {i j : Nat} (h : i < j) (h2 : i < A.length) : ∃ x ∈ mark 2 (seg A i j), x.1 = 2 := by
  rw [seg_get A h h2]
  exact ⟨(2, A[i]), by simp [mark], rfl⟩
theorem edge_len (A : List α) {a : Nat} (h : a ≤ A.length) : (seg A (a - 3) a).length = min a 3 := by rw [seg_len]; omega
/-- A new hunk stands at its place. -/
theorem newH_ok {A : List α} {p a : Nat} (tl : Int) (hp : p ≤ a - 3) (ha : a ≤ A.length) : HOk A p (newH A tl a) ∧ (newH A tl a).f = ((a - 3 : Nat) : Int) + 1 ∧ (olds (newH A tl a).ls).length = a - (a - 3) := by
  have hl := edge_len A ha
  have hf : (newH A tl a).f = ((a - 3 : Nat) : Int) + 1 := by unfold newH; simp only [hl]; omega
  have ho : olds (newH A tl a).ls = seg A (a - 3) a := by unfold newH; simp only [olds_mark]; rfl
  refine ⟨⟨a - 3, hf, hp, ?_, ?_⟩, hf, ?_⟩
  · rw [ho, hl]; omega
  · rw [ho, hl]; congr 1; omega
  · rw [ho, hl]; omega
/-- The hunk at hand reaches to line q. -/
theorem put_ok {A : List α} {p : Nat} {h : HK α} {e : LE α} (H : HOk A p h) (hq : (h.f - 1).toNat + (olds h.ls).length = e.a) (h1 : e.a ≤ e.b) (h2 : e.b ≤ A.length) :
    HOk A p (putE A h e) ∧ ((putE A h e).f - 1).toNat + (olds (putE A h e).ls).length = e.b ∧ news (putE A h e).ls = news h.ls ++ e.t := by
  have ho : olds (mark 0 (seg A e.a e.b) ++ mark 1 e.t) = seg A e.a e.b := by rw [olds_app, olds_mark, olds_mark]; simp
  have hn : news (mark 0 (seg A e.a e.b) ++ mark 1 e.t) = e.t := by rw [news_app, news_mark, news_mark]; simp
  have hl : (seg A e.a e.b).length = e.b - e.a := by rw [seg_len]; omega
  obtain ⟨q, hf, _, _, _⟩ := id H
  rw [hok_q hf] at hq
  refine ⟨HOk.more H hf _ ?_ ?_, ?_, ?_⟩
  · rw [ho, hl, hq]; congr 1; omega
  · rw [ho, hl, hq]; omega
  · have : ((putE A h e).f - 1).toNat = q := hok_q hf
    rw [this]
    unfold putE
    simp only [olds_app (h.ls), ho, List.length_append, hl]
    omega
  · unfold putE
    simp only [news_app (h.ls), hn]
theorem ext_ok {A : List α} {p q : Nat} {h : HK α} (H : HOk A p h) (hq : (h.f - 1).toNat + (olds h.ls).length = q) (b : Nat) (h1 : q ≤ A.length) (hb : q ≤ b) :
    HOk A p (ext h (seg A q b)) ∧ ((ext h (seg A q b)).f - 1).toNat + (olds (ext h (seg A q b)).ls).length = min b A.length ∧ news (ext h (seg A q b)).ls = news h.ls ++ seg A q b := by
  have ho : olds (mark 2 (seg A q b)) = seg A q b := by rw [olds_mark]; simp
  have hn : news (mark 2 (seg A q b)) = seg A q b := by rw [news_mark]; simp
  have hl : (seg A q b).length = min b A.length - q := by rw [seg_len]; omega
  obtain ⟨q0, hf, _, _, _⟩ := id H
  rw [hok_q hf] at hq
  refine ⟨HOk.more H hf _ ?_ ?_, ?_, ?_⟩
  · rw [ho, hl, hq, seg_min A q b]; congr 1; omega
  · rw [ho, hl, hq]; omega
  · have : ((ext h (seg A q b)).f - 1).toNat = q0 := hok_q hf
    rw [this]
    unfold ext
    simp only [olds_app (h.ls), ho, List.length_append, hl]
    omega
  · unfold ext
    simp only [news_app (h.ls), hn]
theorem chg_put (A : List α) (h : HK α) (e : LE α) (h1 : e.a ≤ e.b) (h2 : e.b ≤ A.length) : chg (putE A h e).ls = chg h.ls + ((e.b - e.a) + e.t.length) := by
  unfold putE
  simp only [chg_app, chg_mark]
  have hl : (seg A e.a e.b).length = e.b - e.a := by rw [seg_len]; omega
  simp [hl]
theorem chg_ext (h : HK α) (l : List α) : chg (ext h l).ls = chg h.ls := by
  unfold ext
  simp [chg_app, chg_mark]
theorem chg_new (A : List α) (tl : Int) (a : Nat) : chg (newH A tl a).ls = 0 := by
  unfold newH
  simp [chg_mark]

theorem getLast_snoc {A : List α} {hs : List (HK α)} {h : HK α} (H : PatOk A (hs ++ [h])) : PatOk A hs ∧ HOk A (pst A hs).2 h := by
  refine ⟨fun k hk => ?_, ?_⟩
  · have := H k (by rw [List.length_append]; omega)
    rw [List.getElem_append_left hk, List.take_append_of_le_length (by omega)] at this
    exact this
  · have := H hs.length (by simp)
    simpa using this
theorem HGood.mono {A : List α} {n m : Nat} {h : HK α} (H : HGood A n h) (hm : n ≤ m) : HGood A m h :=
  ⟨H.kind, H.f1, H.f2, H.g1, by have := H.g2; omega, by have := H.len; omega, H.both⟩
theorem CGood.mono {A : List α} {n m : Nat} {hs : List (HK α)} {h : HK α} (H : CGood A n hs h) (hm : n ≤ m) : CGood A m hs h :=
  ⟨H.kind, H.f1, H.f2, H.g1, by have := H.g2; omega, by have := H.len; omega, H.both⟩
theorem CGood.put {A : List α} {n : Nat} {hs : List (HK α)} {h : HK α} (H : CGood A n hs h) (e : LE α) : CGood A (n + e.t.length) hs (putE A h e) := by
  refine ⟨fun x hx => ?_, H.f1, H.f2, H.g1, by have := H.g2; unfold putE; simp only; omega, ?_, ?_⟩
  · unfold putE at hx
    rcases List.mem_append.1 hx with h1 | h1
    · exact H.kind x h1
    · rcases List.mem_append.1 h1 with h1 | h1 <;> rw [mem_mark h1] <;> omega
  · have := H.len
    unfold putE
    simp only [olds_app, List.length_append, mark_len, olds_mark]
    simp
    omega
  · rcases H.both with ⟨x, hx, hk⟩ | hb
    · exact Or.inl ⟨x, by unfold putE; exact List.mem_append_left _ hx, hk⟩
    · exact Or.inr hb
theorem CGood.ext {A : List α} {n : Nat} {hs : List (HK α)} {h : HK α} (H : CGood A n hs h) (l : List α) : CGood A n hs (ext h l) := by
  refine ⟨fun x hx => ?_, H.f1, H.f2, H.g1, H.g2, ?_, ?_⟩
  · unfold Hk.ext at hx
    rcases List.mem_append.1 hx with h1 | h1
    · exact H.kind x h1
    · rw [mem_mark h1]; omega
  · have := H.len
    unfold Hk.ext
    simp only [olds_app, List.length_append, mark_len, olds_mark]
    simp
    omega
  · rcases H.both with ⟨x, hx, hk⟩ | hb
    · exact Or.inl ⟨x, by unfold Hk.ext; exact List.mem_append_left _ hx, hk⟩
    · exact Or.inr hb
theorem CGood.good {A : List α} {n p : Nat} {hs : List (HK α)} {h : HK α} (H : CGood A n hs h) (ho : HOk A p h) (hb : ∃ x ∈ h.ls, x.1 = 2) : HGood A n h := by
  obtain ⟨q, h1, h2, h3, h4⟩ := ho
  have := H.len
  exact ⟨H.kind, H.f1, H.f2, H.g1, H.g2, by omega, hb⟩
theorem newH_good {A : List α} {n : Nat} {hs : List (HK α)} {tl : Int} {a : Nat} (ha : a ≤ A.length) (h1 : (a : Int) ≤ tl ∨ 3 ≤ tl) (h2 : tl ≤ A.length + n) (h3 : a = 0 → hs = []) : CGood A n hs (newH A tl a) := by
  have hl := edge_len A ha
  have hnew : (newH A tl a).ls = mark 2 (seg A (a - 3) a) := rfl
  have hf : (newH A tl a).f = (a : Int) + 1 - (seg A (a - 3) a).length := rfl
  have hg : (newH A tl a).g = tl + 1 - (seg A (a - 3) a).length := rfl
  refine ⟨fun x hx => ?_, by rw [hf, hl]; omega, by rw [hf, hl]; omega, by rw [hg, hl]; omega, by rw [hg, hl]; omega, ?_, ?_⟩
  · rw [hnew] at hx; rw [mem_mark hx]; omega
  · rw [hnew, olds_mark, mark_len]; simp
  · by_cases h0 : a = 0
    · exact Or.inr ⟨h3 h0, by rw [hf, hl, h0]; simp⟩
    · left
      rw [hnew]
      exact seg_ne (by omega) (by omega)

theorem sum_snoc (l : List Nat) (x : Nat) : (l ++ [x]).sum = l.sum + x := by simp
/-- The first edit. -/
theorem inv_first {A : List α} (e : LE α) (h1 : e.a ≤ e.b) (h2 : e.b ≤ A.length) : Inv A [e] (st1 A e) := by
  obtain ⟨n1, n2, n3⟩ := newH_ok (A := A) (p := 0) (a := e.a) (e.a : Int) (Nat.zero_le _) (by omega)
  obtain ⟨p1, p2, p3⟩ := put_ok n1 (e := e) (by rw [n2, n3]; omega) h1 h2
  have hnl : news (newH A (e.a : Int) e.a).ls = seg A (e.a - 3) e.a := by unfold newH; simp only [news_mark]; rfl
  have hput : putN [e] = e.t.length := by simp [putN]
  have hcut : cutN [e] = e.b - e.a := by simp [cutN]
  have hgood := (newH_good (A := A) (n := 0) (hs := []) (tl := (e.a : Int)) (a := e.a) (by omega) (Or.inl (Int.le_refl _)) (by omega) (fun _ => rfl)).put e
  rw [Nat.zero_add] at hgood
  have hpf : (putE A (newH A (e.a : Int) e.a) e).f = ((e.a - 3 : Nat) : Int) + 1 := n2
  refine ⟨?_, ?_, rfl, h2, fun h hh => absurd hh (by simp [st1]), ?_, by unfold st1; simp only; omega, by rw [hput]; unfold st1; simp only; omega, ?_, ⟨_, [], rfl, ?_⟩, ?_⟩
  · exact patOk_snoc (patOk_nil A) p1
  · show pst A ([] ++ [putE A (newH A (e.a : Int) e.a) e]) = _
    rw [pst_snoc]
    unfold pstep
    rw [p2, p3, hnl, hok_q hpf]
    show ([] ++ seg A 0 (e.a - 3) ++ (seg A (e.a - 3) e.a ++ e.t), e.b) = _
    rw [List.nil_append, ← List.append_assoc, seg_app A (Nat.zero_le _) (by omega)]
    rfl
  · rw [hput]; exact hgood
  · show (([] ++ [putE A (newH A (e.a : Int) e.a) e]).map (fun h : HK α => chg h.ls)).sum = _
    simp only [List.nil_append, List.map_cons, List.map_nil, List.sum_cons, List.sum_nil]
    rw [chg_put A _ e h1 h2, chg_new, hput, hcut]
    omega
  · show (newH A (e.a : Int) e.a).f = (newH A (e.a : Int) e.a).g
    unfold newH; rfl
  · intro hall h hh
    have : h = putE A (newH A (e.a : Int) e.a) e := by simpa [st1] using hh
    subst this
    rw [chg_put A _ e h1 h2, chg_new]
    have := hall e (by simp)
    omega
theorem put_pst {A : List α} {hs : List (HK α)} {h : HK α} {o : List α} {e : LE α} (H : HOk A (pst A hs).2 h) (hp : pst A (hs ++ [h]) = (o, e.a)) (h1 : e.a ≤ e.b) (h2 : e.b ≤ A.length) :
    pst A (hs ++ [putE A h e]) = (o ++ e.t, e.b) := by
  rw [pst_snoc] at hp ⊢
  unfold pstep at hp ⊢
  injection hp with q1 q2
  obtain ⟨p1, p2, p3⟩ := put_ok H q2 h1 h2
  rw [p2, p3, ← q1]
  simp only [List.append_assoc]
  rfl
theorem ext_pst {A : List α} {hs : List (HK α)} {h : HK α} {o : List α} {q : Nat} (H : HOk A (pst A hs).2 h) (hp : pst A (hs ++ [h]) = (o, q)) (b : Nat) (h1 : q ≤ A.length) (hb : q ≤ b) :
    pst A (hs ++ [ext h (seg A q b)]) = (o ++ seg A q b, min b A.length) := by
  rw [pst_snoc] at hp ⊢
  unfold pstep at hp ⊢
  injection hp with q1 q2
  obtain ⟨p1, p2, p3⟩ := ext_ok H q2 b h1 hb
  rw [p2, p3, ← q1]
  simp only [List.append_assoc]
  rfl
theorem first_keep {hs : List (HK α)} {h h' : HK α} (H : ∃ (x : HK α) (r : List (HK α)), hs ++ [h] = x :: r ∧ x.f = x.g) (e : h'.f = h.f) (e2 : h'.g = h.g) 
    : ∃ (x : HK α) (r : List (HK α)), hs ++ [h'] = x :: r ∧ x.f = x.g := by
  obtain ⟨x, r, hx, hxx⟩ := H
  cases hs with
  | nil =>
    simp only [List.nil_append, List.cons.injEq] at hx
    obtain ⟨rfl, _⟩ := hx
    exact ⟨h', [], rfl, by rw [e, e2]; exact hxx⟩
  | cons y r' =>
    simp only [List.cons_append, List.cons.injEq] at hx
    obtain ⟨rfl, _⟩ := hx
    exact ⟨y, r' ++ [h'], rfl, hxx⟩
/-- One edit more. -/
theorem inv_step {A : List α} {es : List (LE α)} {st : St α} (H : Inv A es st) (e : LE α) (h0 : st.last ≤ e.a) (h1 : e.a ≤ e.b) (h2 : e.b ≤ A.length) : Inv A (es ++ [e]) (stepS A st e) := by
  obtain ⟨q1, q2⟩ := getLast_snoc H.pat
  have hlast := H.last
  have hpn := putN_snoc es e
  have hcn := cutN_snoc es e
  have heap : eap A (es ++ [e]) = ((eap A es).1 ++ seg A st.last e.a ++ e.t, e.b) := by rw [eap_snoc]; unfold eapS; rw [← hlast]
  have hat := H.at_
  have hq2 : (st.cur.f - 1).toNat + (olds st.cur.ls).length = st.last := by
    rw [pst_snoc] at hat; unfold pstep at hat; injection hat
  have htl0 := H.tl0
  have htl1 := H.tl1
  have hgoods : ∀ h ∈ st.hs, HGood A (putN (es ++ [e])) h := fun h hh => (H.good h hh).mono (by omega)
  have hsum := H.sum
  rw [List.map_append, List.map_cons, List.map_nil, sum_snoc] at hsum
  unfold stepS
  by_cases c1 : e.a = st.last
  · rw [if_pos c1]
    have hat' : pst A (st.hs ++ [st.cur]) = ((eap A es).1, e.a) := by rw [c1]; exact hat
    obtain ⟨p1, p2, p3⟩ := put_ok q2 (e := e) (by rw [hq2, c1]) h1 h2
    refine ⟨patOk_snoc q1 p1, ?_, by rw [heap], h2, hgoods, ?_, by simp only; omega, by simp only; rw [hpn]; omega, ?_, first_keep H.first rfl rfl, ?_⟩
    · simp only
      rw [put_pst q2 hat' h1 h2, heap, c1, seg_self, List.append_nil]
    · rw [hpn]; exact H.cur.put e
    · simp only
      rw [List.map_append, List.map_cons, List.map_nil, sum_snoc, chg_put A _ e h1 h2, hpn, hcn]; omega
    · intro hall h hh
      simp only at hh
      rcases List.mem_append.1 hh with h3 | h3
      · exact H.some_ (fun x hx => hall x (by simp [hx])) h (by simp [h3])
      · obtain rfl := List.mem_singleton.1 h3
        rw [chg_put A _ e h1 h2]
        have := hall e (by simp)
        omega
  · rw [if_neg c1]
    by_cases c2 : e.a ≤ st.last + 6
    · rw [if_pos c2]
      obtain ⟨x1, x2, x3⟩ := ext_ok q2 hq2 e.a H.le h0
      have hx := ext_pst q2 hat e.a H.le h0
      rw [Nat.min_eq_left (by omega)] at x2 hx
      obtain ⟨p1, p2, p3⟩ := put_ok x1 (e := e) x2 h1 h2
      refine ⟨patOk_snoc q1 p1, ?_, by rw [heap], h2, hgoods, ?_, by simp only; omega, by simp only; rw [hpn]; omega, ?_, first_keep H.first rfl rfl, ?_⟩
      · simp only
        rw [put_pst x1 hx h1 h2, heap]
      · rw [hpn]; exact (H.cur.ext _).put e
      · simp only
        rw [List.map_append, List.map_cons, List.map_nil, sum_snoc, chg_put A _ e h1 h2, chg_ext, hpn, hcn]; omega
      · intro hall h hh
        simp only at hh
        rcases List.mem_append.1 hh with h3 | h3
        · exact H.some_ (fun x hx => hall x (by simp [hx])) h (by simp [h3])
        · obtain rfl := List.mem_singleton.1 h3
          rw [chg_put A _ e h1 h2]
          have := hall e (by simp)
          omega
    · rw [if_neg c2]
      have hext := ext_ok q2 hq2 (st.last + 3) H.le (by omega)
      have hx := ext_pst q2 hat (st.last + 3) H.le (by omega)
      have hlt : st.last < A.length := by omega
      have hb : ∃ x ∈ (ext st.cur (seg A st.last (st.last + 3))).ls, x.1 = 2 := by
        obtain ⟨x, hx, hk⟩ := seg_ne (A := A) (i := st.last) (j := st.last + 3) (by omega) hlt
        exact ⟨x, by unfold ext; exact List.mem_append_right _ hx, hk⟩
      have hg := ((H.cur.ext (seg A st.last (st.last + 3))).mono (show putN es ≤ putN (es ++ [e]) by omega)).good hext.1 hb
      obtain ⟨n1, n2, n3⟩ := newH_ok (A := A) (p := min (st.last + 3) A.length) (a := e.a) (st.tl + ((e.a : Int) - st.last)) (by omega) (by omega)
      obtain ⟨p1, p2, p3⟩ := put_ok n1 (e := e) (by rw [n2, n3]; omega) h1 h2
      have hnl : news (newH A (st.tl + ((e.a : Int) - st.last)) e.a).ls = seg A (e.a - 3) e.a := by unfold newH; simp only [news_mark]; rfl
      have hpf : (putE A (newH A (st.tl + ((e.a : Int) - st.last)) e.a) e).f = ((e.a - 3 : Nat) : Int) + 1 := n2
      have hgood := (newH_good (A := A) (n := putN es) (hs := st.hs ++ [ext st.cur (seg A st.last (st.last + 3))]) (tl := st.tl + ((e.a : Int) - st.last)) (a := e.a) (by omega) (Or.inr (by omega)) (by omega) (fun h => by omega)).put e
      refine ⟨patOk_snoc (patOk_snoc q1 hext.1) (by rw [hx]; exact p1), ?_, by rw [heap], h2, ?_, by rw [hpn]; exact hgood, by simp only; omega, by simp only; rw [hpn]; omega, ?_, ?_, ?_⟩
      · simp only
        rw [pst_snoc, hx]
        unfold pstep
        rw [p2, p3, hnl, hok_q hpf, heap]
        simp only [← List.append_assoc]
        congr 2
        rw [List.append_assoc, List.append_assoc]
        congr 1
        have e1 : seg A (min (st.last + 3) A.length) (e.a - 3) ++ seg A (e.a - 3) e.a = seg A (min (st.last + 3) A.length) e.a := seg_app A (by omega) (by omega)
        rw [e1, seg_min A st.last (st.last + 3), seg_app A (by omega) (by omega)]
      · intro h hh
        rcases List.mem_append.1 hh with h3 | h3
        · exact hgoods h h3
        · obtain rfl := List.mem_singleton.1 h3
          exact hg
      · simp only
        rw [List.map_append, List.map_append, List.map_cons, List.map_nil, List.map_cons, List.map_nil, sum_snoc, sum_snoc, chg_put A _ e h1 h2, chg_ext, chg_new, hpn, hcn]; omega
      · obtain ⟨x, r, hx1, hx2⟩ := first_keep (h' := ext st.cur (seg A st.last (st.last + 3))) H.first rfl rfl
        exact ⟨x, r ++ [_], by simp only; rw [hx1]; rfl, hx2⟩
      · intro hall h hh
        simp only at hh
        rcases List.mem_append.1 hh with h3 | h3
        · rcases List.mem_append.1 h3 with h4 | h4
          · exact H.some_ (fun x hx => hall x (by simp [hx])) h (by simp [h4])
          · obtain rfl := List.mem_singleton.1 h4
            rw [chg_ext]
            exact H.some_ (fun x hx => hall x (by simp [hx])) st.cur (by simp)
        · obtain rfl := List.mem_singleton.1 h3
          rw [chg_put A _ e h1 h2]
          have := hall e (by simp)
          omega
theorem inv_all {A : List α} : ∀ {es : List (LE α)} {p : Nat}, Asc A es p → es ≠ [] → Inv A es (runS A es) := by
  intro es p h
  induction h with
  | nil => intro h; exact absurd rfl h
  | @snoc es p e hs h1 h2 h3 ih =>
    intro _
    by_cases h0 : es = []
    · subst h0
      exact inv_first e h2 h3
    · have hi := ih h0
      rw [runS_snoc A h0]
      exact inv_step hi e (by rw [hi.last, asc_eap hs]; exact h1) h2 h3

/-- What is to be known of the hunks of edits in order. -/
structure Done (A : List α) (es : List (LE α)) (hs : List (HK α)) : Prop where
  pat : PatOk A hs
  text : (pst A hs).1 ++ A.drop (pst A hs).2 = (eap A es).1 ++ A.drop (eap A es).2
  good : ∀ h ∈ hs, (∀ x ∈ h.ls, x.1 ≤ 2) ∧ 1 ≤ h.f ∧ h.f ≤ A.length + 1 ∧ 1 ≤ h.g ∧ h.g ≤ A.length + putN es + 1 ∧ h.ls.length ≤ A.length + putN es
  both : A ≠ [] → (eap A es).1 ++ A.drop (eap A es).2 ≠ [] → ∀ h ∈ hs, 1 ≤ (olds h.ls).length ∧ 1 ≤ (news h.ls).length
  sum : (hs.map (fun h => chg h.ls)).sum = cutN es + putN es
  first : es ≠ [] → ∃ h r, hs = h :: r ∧ h.f = h.g
  none_ : es = [] → hs = []
  some_ : (∀ e ∈ es, 1 ≤ (e.b - e.a) + e.t.length) → ∀ h ∈ hs, 1 ≤ chg h.ls
theorem both_of {ls : List (Nat × α)} (h : ∃ x ∈ ls, x.1 = 2) : 1 ≤ (olds ls).length ∧ 1 ≤ (news ls).length := by
  obtain ⟨x, hx, hk⟩ := h
  have h1 : x.2 ∈ olds ls := by unfold olds; exact List.mem_map.2 ⟨x, List.mem_filter.2 ⟨hx, by simp [hk]⟩, rfl⟩
  have h2 : x.2 ∈ news ls := by unfold news; exact List.mem_map.2 ⟨x, List.mem_filter.2 ⟨hx, by simp [hk]⟩, rfl⟩
  exact ⟨List.length_pos_of_mem h1, List.length_pos_of_mem h2⟩
theorem hunks_done {A : List α} {es : List (LE α)} {p : Nat} (h : Asc A es p) : Done A es (hunksS A es) := by
  by_cases h0 : es = []
  · subst h0
    show Done A [] []
    exact ⟨patOk_nil A, rfl, fun h hh => absurd hh (by simp), fun _ _ h hh => absurd hh (by simp), rfl, fun h => absurd rfl h, fun _ => rfl, fun _ h hh => absurd hh (by simp)⟩
  · have hl : ¬ es.length = 0 := fun h => h0 (List.length_eq_zero_iff.1 h)
    unfold hunksS
    rw [if_neg hl]
    have H := inv_all h h0
    generalize runS A es = st at H
    unfold endS
    obtain ⟨q1, q2⟩ := getLast_snoc H.pat
    have hat := H.at_
    have hq2 : (st.cur.f - 1).toNat + (olds st.cur.ls).length = st.last := by
      rw [pst_snoc] at hat; unfold pstep at hat; injection hat
    have hext := ext_ok q2 hq2 (st.last + 3) H.le (by omega)
    have hx := ext_pst q2 hat (st.last + 3) H.le (by omega)
    have hle := H.le
    have htext : (pst A (st.hs ++ [ext st.cur (seg A st.last (st.last + 3))])).1 ++ A.drop (pst A (st.hs ++ [ext st.cur (seg A st.last (st.last + 3))])).2 = (eap A es).1 ++ A.drop (eap A es).2 := by
      rw [hx, ← H.last]
      simp only
      rw [List.append_assoc]
      congr 1
      rw [← seg_clip A (Nat.le_refl A.length), ← seg_clip A (Nat.le_refl A.length), seg_min A st.last (st.last + 3), seg_app A (by omega) (by omega)]
    have hC := H.cur.ext (seg A st.last (st.last + 3))
    have hsum := H.sum
    refine ⟨patOk_snoc q1 hext.1, htext, fun h hh => ?_, fun hA hout h hh => ?_, ?_, fun _ => first_keep H.first rfl rfl, fun h => absurd h h0, fun hall h hh => ?_⟩
    · rcases List.mem_append.1 hh with h3 | h3
      · have := H.good h h3
        exact ⟨this.kind, this.f1, this.f2, this.g1, this.g2, this.len⟩
      · obtain rfl := List.mem_singleton.1 h3
        obtain ⟨q, _, _, hq3, _⟩ := hext.1
        have := hC.len
        exact ⟨hC.kind, hC.f1, hC.f2, hC.g1, hC.g2, by omega⟩
    · rcases List.mem_append.1 hh with h3 | h3
      · exact both_of (H.good h h3).both
      · obtain rfl := List.mem_singleton.1 h3
        by_cases hlt : st.last < A.length
        · obtain ⟨x, hx, hk⟩ := seg_ne (A := A) (i := st.last) (j := st.last + 3) (by omega) hlt
          exact both_of ⟨x, by unfold ext; exact List.mem_append_right _ hx, hk⟩
        · rcases hC.both with hb | ⟨hb1, hb2⟩
          · exact both_of hb
          · have hlA : A.length ≠ 0 := fun h => hA (List.length_eq_zero_iff.1 h)
            have hx2 := hx
            rw [pst_snoc, hb1] at hx2
            unfold pstep at hx2
            rw [hb2] at hx2
            injection hx2 with e1 e2
            have e3 : seg A (pst A []).2 ((1 : Int) - 1).toNat = [] := rfl
            rw [e3, List.append_nil] at e1
            have e4 : (pst A ([] : List (HK α))).1 = [] := rfl
            rw [e4, List.nil_append] at e1
            refine ⟨by omega, ?_⟩
            rw [← htext, hx] at hout
            simp only at hout
            rw [← e1, List.drop_of_length_le (by omega), List.append_nil] at hout
            exact List.length_pos_iff.2 hout
    · rw [List.map_append, List.map_cons, List.map_nil, sum_snoc] at hsum ⊢
      rw [chg_ext]; exact hsum
    · rcases List.mem_append.1 hh with h3 | h3
      · exact H.some_ hall h (by simp [h3])
      · obtain rfl := List.mem_singleton.1 h3
        rw [chg_ext]
        exact H.some_ hall st.cur (by simp)
end Go.Proofs.YtgegialfhkgggaaGreatDoor.Hk
namespace Go.Proofs.YtgegialfhkgggaaGreatDoor
open Go.RowKit Go.Proofs.YtgegialfhkgggaaGreatDoor.Lines

section
variable (s : ByteArray)
/-- The line and the column that the converter gives for an offset. -/
def PL (k : Nat) : Int := posLine s.size (stTo s s.size) k
def PC (k : Nat) : Int := posCol s.size (stTo s s.size) k
/-- Where the line of an offset begins; where it ends, if the offset is no beginning of a line. -/
def SL (k : Nat) : Nat := k - (PC s k - 1).toNat
def eolN (k : Nat) : Nat := if nlAt (s.extract k s.size).data.toList < (s.extract k s.size).size then nlAt (s.extract k s.size).data.toList + 1 else (s.extract k s.size).size
def NL (k : Nat) : Nat := if 1 < PC s k then k + eolN s k else k
theorem PL_at (k : Nat) (h : k < s.size) : PL s k = (nlTo s k : Int) + 1 ∧ PC s k = (k : Int) - lastNl s k := pos_at s k h
theorem PL_end : PL s s.size = ((stTo s s.size).length : Int) + 1 ∧ PC s s.size = 1 := pos_end s
theorem PL_pos (k : Nat) (h : k ≤ s.size) : 1 ≤ PL s k := pos_line1 s k h
theorem PC_pos (k : Nat) (h : k ≤ s.size) : 1 ≤ PC s k ∧ PC s k ≤ (k : Int) + 1 := by
  by_cases c : k < s.size
  · rw [(PL_at s k c).2]
    have := lastNl_bd s k
    omega
  · obtain rfl : k = s.size := by omega
    rw [(PL_end s).2]; omega
theorem PL_lt (i j : Nat) (hij : i < j) (hj : j ≤ s.size) : PL s i < PL s j ∨ (PL s i = PL s j ∧ PC s i < PC s j) := pos_lt s i j hij hj
theorem PL_mono (i j : Nat) (hij : i ≤ j) (hj : j ≤ s.size) : PL s i ≤ PL s j := by
  by_cases e : i = j
  · rw [e]; exact Int.le_refl _
  · rcases PL_lt s i j (by omega) hj with h | h <;> omega
/-- Places in order have offsets in order. -/
theorem le_of_place (i j : Nat) (hi : i ≤ s.size) (h : PL s i < PL s j ∨ (PL s i = PL s j ∧ PC s i ≤ PC s j)) : i ≤ j := by
  rcases Nat.lt_or_ge j i with c | c
  · rcases PL_lt s j i c hi with h1 | h1 <;> omega
  · exact c
/-- The lines' beginnings: a line and column 1. -/
theorem PL_off (i : Nat) (h : i ≤ (lnL s).length) : PL s (off (lnL s) i) = (i : Int) + 1 ∧ PC s (off (lnL s) i) = 1 := by
  by_cases c : i < (lnL s).length
  · have hlt : off (lnL s) i < s.size := by
      rw [← off_size]
      exact off_lt (linesL_mem s.data.toList) c (Nat.le_refl _)
    obtain ⟨h1, h2⟩ := PL_at s _ hlt
    rw [h1, h2, nlTo_off s i c, lastNl_off s i c]
    omega
  · obtain rfl : i = (lnL s).length := by omega
    rw [off_size, (PL_end s).1, (PL_end s).2, lnL_len]
    omega
theorem PL_le (k : Nat) (h : k ≤ s.size) : PL s k ≤ ((lnL s).length : Int) + 1 := by
  have := PL_mono s k s.size h (Nat.le_refl _)
  rw [(PL_end s).1, ← lnL_len] at this
  exact this
/-- An offset in column 1 is the beginning of its line. -/
theorem off_of_PC (k : Nat) (h : k ≤ s.size) (hc : PC s k = 1) : k = off (lnL s) (PL s k - 1).toNat := by
  have h1 := PL_pos s k h
  have h2 := PL_le s k h
  obtain ⟨e1, e2⟩ := PL_off s (PL s k - 1).toNat (by omega)
  have h3 := off_le s (PL s k - 1).toNat (by omega)
  have a1 := le_of_place s k (off (lnL s) (PL s k - 1).toNat) h (Or.inr ⟨by rw [e1]; omega, by rw [e2, hc]; exact Int.le_refl _⟩)
  have a2 := le_of_place s (off (lnL s) (PL s k - 1).toNat) k h3 (Or.inr ⟨by rw [e1]; omega, by rw [e2, hc]; exact Int.le_refl _⟩)
  omega
theorem SL_le (k : Nat) : SL s k ≤ k := Nat.sub_le _ _
theorem SL_at (k : Nat) (h : k ≤ s.size) : PL s (SL s k) = PL s k ∧ PC s (SL s k) = 1 := by
  by_cases c : k < s.size
  · obtain ⟨h1, h2⟩ := PL_at s k c
    have hb := lastNl_bd s k
    have hn : nlTo s k < (lnL s).length := by rw [lnL_len]; exact nlTo_lt s k c
    have hst := start_at s k s.size c (Nat.le_refl _)
    rw [stTo_off s (nlTo s k) hn] at hst
    have e : SL s k = off (lnL s) (nlTo s k) := by unfold SL; rw [h2]; omega
    rw [e, h1]
    exact PL_off s _ (Nat.le_of_lt hn)
  · obtain rfl : k = s.size := by omega
    have e : SL s s.size = s.size := by unfold SL; rw [(PL_end s).2]; simp
    rw [e]
    exact ⟨rfl, (PL_end s).2⟩
theorem SL_one (k : Nat) (hc : PC s k = 1) : SL s k = k := by unfold SL; rw [hc]; simp
theorem dropE_list (k : Nat) : (s.extract k s.size).data.toList = s.data.toList.drop k := by
  rw [extract_list, List.take_of_length_le (by rw [List.length_drop, size_list]; exact Nat.le_refl _)]
theorem dropE_size (k : Nat) : (s.extract k s.size).size = s.size - k := by rw [ByteArray.size_extract]; omega
theorem nlAt_ne : ∀ (l : List UInt8) (k : Nat), k < nlAt l → ¬ l.getD k 0 = 10
  | [], _, h => by simp [nlAt] at h
  | b :: t, 0, h => by
    rw [nlAt] at h
    by_cases e : b = 10
    · rw [if_pos e] at h; omega
    · simpa using e
  | b :: t, k + 1, h => by
    rw [nlAt] at h
    by_cases e : b = 10
    · rw [if_pos e] at h; omega
    · rw [if_neg e] at h
      have := nlAt_ne t k (by omega)
      simpa using this
theorem nlAt_ten : ∀ (l : List UInt8), nlAt l < l.length → l.getD (nlAt l) 0 = 10
  | [], h => by simp [nlAt] at h
  | b :: t, h => by
    rw [nlAt] at h ⊢
    by_cases e : b = 10
    · rw [if_pos e]; simpa using e
    · rw [if_neg e] at h ⊢
      simpa using nlAt_ten t (by simpa using h)
theorem nlTo_run (k : Nat) : ∀ j, j ≤ nlAt (s.data.toList.drop k) → k + j ≤ s.size → nlTo s (k + j) = nlTo s k ∧ (0 < j → lastNl s (k + j) = lastNl s k) := by
  intro j
  induction j with
  | zero => intro _ _; exact ⟨rfl, fun h => absurd h (Nat.lt_irrefl _)⟩
  | succ j ih =>
    intro h1 h2
    obtain ⟨i1, i2⟩ := ih (by omega) (by omega)
    have hne := nlAt_ne (s.data.toList.drop k) j (by omega)
    rw [bt_drop] at hne
    have hb : ¬ bt s (k + j) = 10 := fun h => hne (bt_ten.1 h)
    rw [← Nat.add_assoc, nlTo_succ s (k + j) (by omega), if_neg hb, i1]
    refine ⟨rfl, fun _ => ?_⟩
    rw [lastNl, if_neg hb]
    by_cases h0 : j = 0
    · subst h0; rfl
    · exact i2 (by omega)
theorem eolN_le (k : Nat) (h : k ≤ s.size) : k + eolN s k ≤ s.size := by
  unfold eolN
  rw [dropE_size]
  split <;> omega
/-- Behind an offset within a line: the beginning of the line after it. -/
theorem NL_in (k : Nat) (h : k < s.size) : PL s (k + eolN s k) = PL s k + 1 ∧ PC s (k + eolN s k) = 1 := by
  obtain ⟨h1, h2⟩ := PL_at s k h
  unfold eolN
  rw [dropE_size, dropE_list]
  have hle := nlAt_le (s.data.toList.drop k)
  rw [List.length_drop, size_list] at hle
  by_cases c : nlAt (s.data.toList.drop k) < s.size - k
  · rw [if_pos c]
    obtain ⟨m, hm⟩ : ∃ m, nlAt (s.data.toList.drop k) = m := ⟨_, rfl⟩
    have hten := nlAt_ten (s.data.toList.drop k) (by rw [List.length_drop, size_list]; exact c)
    obtain ⟨r1, _⟩ := nlTo_run s k m (by omega) (by omega)
    rw [hm] at hten c ⊢
    rw [bt_drop] at hten
    have hb : bt s (k + m) = 10 := bt_ten.2 hten
    by_cases e : k + (m + 1) < s.size
    · obtain ⟨q1, q2⟩ := PL_at s _ e
      rw [q1, q2, h1, ← Nat.add_assoc, nlTo_succ s (k + m) (by omega), if_pos hb, lastNl, if_pos hb, r1]
      omega
    · have e2 : k + (m + 1) = s.size := by omega
      rw [e2, (PL_end s).1, (PL_end s).2, h1]
      have := stTo_length s (k + m) (by omega)
      rw [show k + m + 1 = s.size by omega, r1] at this
      omega
  · rw [if_neg c, show k + (s.size - k) = s.size by omega, (PL_end s).1, (PL_end s).2, h1]
    obtain ⟨r1, _⟩ := nlTo_run s k (s.size - 1 - k) (by omega) (by omega)
    have := stTo_length s (s.size - 1) (by omega)
    rw [show s.size - 1 + 1 = s.size by omega] at this
    rw [show k + (s.size - 1 - k) = s.size - 1 by omega] at r1
    omega
theorem lt_of_PC {k : Nat} (h : k ≤ s.size) (hc : 1 < PC s k) : k < s.size := by
  rcases Nat.lt_or_ge k s.size with c | c
  · exact c
  · obtain rfl : k = s.size := by omega
    rw [(PL_end s).2] at hc; omega
theorem NL_at (k : Nat) (h : k ≤ s.size) : PC s (NL s k) = 1 ∧ PL s (NL s k) = (if 1 < PC s k then PL s k + 1 else PL s k) ∧ k ≤ NL s k ∧ NL s k ≤ s.size := by
  unfold NL
  by_cases c : 1 < PC s k
  · have hlt := lt_of_PC s h c
    rw [if_pos c, if_pos c]
    exact ⟨(NL_in s k hlt).2, (NL_in s k hlt).1, Nat.le_add_right _ _, eolN_le s k h⟩
  · rw [if_neg c, if_neg c]
    have := (PC_pos s k h).1
    exact ⟨by omega, rfl, Nat.le_refl _, h⟩
/-- A later line begins behind the end of this one. -/
theorem NL_SL (b a : Nat) (hb : b ≤ s.size) (ha : a ≤ s.size) (hl : PL s b < PL s a) : NL s b ≤ SL s a := by
  obtain ⟨n1, n2, n3, n4⟩ := NL_at s b hb
  obtain ⟨s1, s2⟩ := SL_at s a ha
  refine le_of_place s _ _ n4 ?_
  rw [n1, n2, s1, s2]
  split <;> omega
end
end Go.Proofs.YtgegialfhkgggaaGreatDoor
namespace Go.Proofs.YtgegialfhkgggaaGreatDoor
open Go.RowKit Go.Proofs.YtgegialfhkgggaaGreatDoor.Lines

/-- An edit at offsets. -/
structure Ct where
  a : Nat
  b : Nat
  t : ByteArray
section
variable (s : ByteArray)
/-- The edit with its lines and columns. -/
def edC (c : Ct) : Ed := ⟨⟨#[97]⟩, PL s c.a, PC s c.a, (c.a : Nat), PL s c.b, PC s c.b, (c.b : Nat), c.t⟩
def ctO (c : Ct) : EdO := ⟨c.a, c.b, c.t.data.toList⟩
theorem toO_edC (c : Ct) : toO (edC s c) = ctO c := by unfold toO edC ctO; simp
/-- An edit expanded to full lines. -/
def closeC (c : Ct) : Ct := ⟨SL s c.a, NL s c.b, s.extract (SL s c.a) c.a ++ c.t ++ s.extract c.b (NL s c.b)⟩
/-- One edit more: it joins the one at hand, or that is done. -/
def stepC (st : List Ct × Ct) (e : Ct) : List Ct × Ct :=
  if PL s e.a ≤ PL s st.2.b then (st.1, ⟨st.2.a, e.b, st.2.t ++ (s.extract st.2.b e.a ++ e.t)⟩) else (st.1 ++ [closeC s st.2], e)
def runC : List Ct → List Ct × Ct
  | [] => ([], ⟨0, 0, ⟨#[]⟩⟩)
  | e :: es => es.foldl (stepC s) ([], e)
def fullC (es : List Ct) : List Ct := if es.length = 0 then [] else (runC s es).1 ++ [closeC s (runC s es).2]
theorem runC_snoc {es : List Ct} (h : es ≠ []) (e : Ct) : runC s (es ++ [e]) = stepC s (runC s es) e := by
  cases es with
  | nil => exact absurd rfl h
  | cons x r => simp [runC]
end

/-- What is written, and how far the old text is read. -/
def foldC (l : List UInt8) (es : List Ct) : List UInt8 × Nat := es.foldl (fun p c => appS l p (ctO c)) ([], 0)
theorem foldC_snoc (l : List UInt8) (es : List Ct) (e : Ct) : foldC l (es ++ [e]) = appS l (foldC l es) (ctO e) := by simp [foldC]
def textC (l : List UInt8) (es : List Ct) : List UInt8 := (foldC l es).1 ++ l.drop (foldC l es).2
/-- Edits in order, within the text. -/
inductive AscC (n : Nat) : List Ct → Nat → Prop
  | nil : AscC n [] 0
  | snoc {es p e} : AscC n es p → p ≤ e.a → e.a ≤ e.b → e.b ≤ n → AscC n (es ++ [e]) e.b
theorem ascC_fold {n : Nat} {es : List Ct} {p : Nat} (l : List UInt8) (h : AscC n es p) : (foldC l es).2 = p := by
  cases h with
  | nil => rfl
  | snoc h1 h2 h3 h4 => rw [foldC_snoc]; rfl
theorem ascC_le {n : Nat} {es : List Ct} {p : Nat} (h : AscC n es p) : p ≤ n := by
  cases h with
  | nil => exact Nat.zero_le _
  | snoc h1 h2 h3 h4 => exact h4
/-- The text up to place x. -/
def upTo (l : List UInt8) (p : List UInt8 × Nat) (x : Nat) : List UInt8 := p.1 ++ (l.drop p.2).take (x - p.2)
theorem upTo_more (l : List UInt8) (p : List UInt8 × Nat) {x y : Nat} (h1 : p.2 ≤ x) (h2 : x ≤ y) : upTo l p y = upTo l p x ++ (l.drop x).take (y - x) := by
  unfold upTo
  rw [slice_off l h1 h2, List.append_assoc]
theorem appS_up (l : List UInt8) (p : List UInt8 × Nat) (e : EdO) (h : p.2 ≤ e.s) : appS l p e = (upTo l p e.s ++ e.t, e.e) := by
  unfold appS upTo
  by_cases c : p.2 < e.s
  · rw [if_pos c]
  · rw [if_neg c, show e.s - p.2 = 0 by omega]; simp
theorem upTo_self (l : List UInt8) (o : List UInt8) (x : Nat) : upTo l (o, x) x = o := by simp [upTo]
theorem upTo_self2 (l : List UInt8) (p : List UInt8 × Nat) : upTo l p p.2 = p.1 := by simp [upTo]
theorem textC_up {n : Nat} (l : List UInt8) (hn : l.length = n) {es : List Ct} {p : Nat} (h : AscC n es p) : textC l es = upTo l (foldC l es) n := by
  have h2 := ascC_fold l h
  have h3 := ascC_le h
  unfold textC upTo
  rw [List.take_of_length_le (by rw [List.length_drop]; omega)]
theorem textC_app {n : Nat} (l : List UInt8) (hn : l.length = n) {es : List Ct} {p : Nat} (h : AscC n es p) (g : Nat → Ed) (hg : ∀ i (hi : i < es.length), toO (g i) = ctO es[i]) : appF l g es.length = textC l es := by
  rw [appF_eq]
  have e : (List.range es.length).map (fun i => toO (g i)) = es.map ctO := by
    apply List.ext_getElem
    · simp
    · intro i h1 h2
      have hi : i < es.length := by simpa using h1
      simp only [List.getElem_map, List.getElem_range]
      exact hg i hi
  rw [e]
  have hf : (es.map ctO).foldl (appS l) ([], 0) = foldC l es := by unfold foldC; rw [List.foldl_map]
  have h2 := ascC_fold l h
  have h3 := ascC_le h
  unfold appL textC
  rw [hf]
  simp only
  by_cases c : (foldC l es).2 < l.length
  · rw [if_pos c]
  · rw [if_neg c, List.drop_of_length_le (by omega), List.append_nil]

/-- The text ends with a newline, or is empty. -/
def endsL (l : List UInt8) : Prop := l = [] ∨ l.getLast? = some 10
def sumT (es : List Ct) : Nat := (es.map (fun c => c.t.size)).sum
theorem sumT_snoc (es : List Ct) (e : Ct) : sumT (es ++ [e]) = sumT es + e.t.size := by simp [sumT]
/-- An edit of full lines. -/
def Full (s : ByteArray) (c : Ct) : Prop := PC s c.a = 1 ∧ PC s c.b = 1
/-- It does something. -/
def Does (c : Ct) : Prop := c.a < c.b ∨ 0 < c.t.size
/-- It never begins behind a last line without a newline, unless there is one that ends there. -/
def Joins (s : ByteArray) (p : Nat) (es : List Ct) (e : Ct) : Prop := e.a < s.size ∨ PL s e.a ≤ 1 ∨ s.data.toList.getLast? = some 10 ∨ (es ≠ [] ∧ p = s.size)
inductive Joined (s : ByteArray) : List Ct → Nat → Prop
  | nil : Joined s [] 0
  | snoc {es p e} : Joined s es p → Joins s p es e → Joined s (es ++ [e]) e.b
/-- All that is kept behind some edits. -/
structure InvC (s : ByteArray) (es : List Ct) (p : Nat) (st : List Ct × Ct) : Prop where
  asc : ∃ q, AscC s.size st.1 q ∧ q ≤ SL s st.2.a
  full : ∀ c ∈ st.1, Full s c
  ab : st.2.a ≤ st.2.b ∧ st.2.b = p ∧ p ≤ s.size
  text : (foldC s.data.toList es).1 = upTo s.data.toList (foldC s.data.toList st.1) st.2.a ++ st.2.t.data.toList
  size : sumT st.1 + st.2.t.size ≤ sumT es + st.1.length * (2 * s.size) + p
  len : st.1.length + 1 ≤ es.length
  does : (∀ e ∈ es, Does e) → (∀ c ∈ st.1, Does c) ∧ Does st.2
  last : Joined s es p → st.2.a < s.size ∨ PL s st.2.a ≤ 1 ∨ s.data.toList.getLast? = some 10
theorem joined_get {s : ByteArray} {es : List Ct} {p : Nat} {e : Ct} (h : Joined s (es ++ [e]) p) : ∃ q, Joined s es q ∧ Joins s q es e ∧ p = e.b := by
  generalize hx : es ++ [e] = x at h
  cases h with
  | nil => simp at hx
  | @snoc es' q e' h1 h2 =>
    obtain ⟨rfl, h3⟩ := List.append_inj' hx rfl
    obtain rfl : e = e' := by simpa using h3
    exact ⟨q, h1, h2, rfl⟩
theorem joined_end {s : ByteArray} {es : List Ct} {p q : Nat} (h1 : AscC s.size es p) (h2 : Joined s es q) : p = q := by
  cases h1 with
  | nil => generalize hx : ([] : List Ct) = x at h2; cases h2 with
           | nil => rfl
           | snoc _ _ => simp at hx
  | snoc _ _ _ _ => obtain ⟨_, _, _, h⟩ := joined_get h2; exact h.symm
theorem Full.close {s : ByteArray} {c : Ct} (h1 : c.a ≤ c.b) (h2 : c.b ≤ s.size) : Full s (closeC s c) := ⟨(SL_at s c.a (by omega)).2, (NL_at s c.b h2).1⟩
theorem app_size (a b : ByteArray) : (a ++ b).size = a.size + b.size := ByteArray.size_append
theorem does_close {s : ByteArray} {c : Ct} (h : Does c) (h2 : c.b ≤ s.size) : Does (closeC s c) := by
  have h3 := SL_le s c.a
  have h4 := (NL_at s c.b h2).2.2.1
  unfold Does closeC at *
  simp only [app_size]
  omega
theorem inv1C (s : ByteArray) (e : Ct) (h1 : e.a ≤ e.b) (h2 : e.b ≤ s.size) : InvC s [e] e.b ([], e) := by
  refine ⟨⟨0, AscC.nil, Nat.zero_le _⟩, fun c hc => absurd hc (by simp), ⟨h1, rfl, h2⟩, ?_, by simp [sumT], by simp, fun h => ⟨fun c hc => absurd hc (by simp), h e (by simp)⟩, fun h => ?_⟩
  · show (appS s.data.toList ([], 0) (ctO e)).1 = _
    rw [appS_up _ _ _ (Nat.zero_le _)]
    rfl
  · obtain ⟨q, _, h3, _⟩ := joined_get (es := []) h
    rcases h3 with h3 | h3 | h3 | h3
    · exact Or.inl h3
    · exact Or.inr (Or.inl h3)
    · exact Or.inr (Or.inr h3)
    · exact absurd rfl h3.1
theorem sliceE (s : ByteArray) {a b : Nat} : (s.extract a b).data.toList = (s.data.toList.drop a).take (b - a) := extract_list s a b
/-- The edit at hand is done. -/
theorem close_ok {s : ByteArray} {es : List Ct} {p : Nat} {st : List Ct × Ct} (H : InvC s es p st) :
    AscC s.size (st.1 ++ [closeC s st.2]) (NL s p) ∧ upTo s.data.toList (foldC s.data.toList (st.1 ++ [closeC s st.2])) (NL s p) = (foldC s.data.toList es).1 ++ (s.data.toList.drop p).take (NL s p - p) := by
  obtain ⟨q, a1, a2⟩ := H.asc
  obtain ⟨b1, b2, b3⟩ := H.ab
  have hs := SL_le s st.2.a
  obtain ⟨n1, n2, n3, n4⟩ := NL_at s p b3
  have hq := ascC_fold s.data.toList a1
  have hnl : NL s p = (closeC s st.2).b := by unfold closeC; rw [b2]
  refine ⟨by rw [hnl]; exact AscC.snoc a1 a2 (by unfold closeC; simp only; rw [b2]; omega) (by unfold closeC; simp only; rw [b2]; exact n4), ?_⟩
  rw [foldC_snoc, appS_up _ _ _ (by rw [hq]; exact a2), hnl]
  show upTo _ (_, (closeC s st.2).b) (closeC s st.2).b = _
  rw [upTo_self, ← hnl, H.text]
  unfold closeC ctO
  simp only [ByteArray.data_append, Array.toList_append, sliceE]
  rw [upTo_more s.data.toList _ (show (foldC s.data.toList st.1).2 ≤ SL s st.2.a by omega) hs, b2]
  simp only [List.append_assoc]
theorem stepC_inv {s : ByteArray} {es : List Ct} {p : Nat} {st : List Ct × Ct} (hes : es ≠ []) (hasc : AscC s.size es p) (H : InvC s es p st) (e : Ct) (h0 : p ≤ e.a) (h1 : e.a ≤ e.b) (h2 : e.b ≤ s.size) : InvC s (es ++ [e]) e.b (stepC s st e) := by
  obtain ⟨q, a1, a2⟩ := H.asc
  obtain ⟨b1, b2, b3⟩ := H.ab
  have hfold : (foldC s.data.toList (es ++ [e])).1 = (foldC s.data.toList es).1 ++ (s.data.toList.drop p).take (e.a - p) ++ e.t.data.toList := by
    have hf := ascC_fold s.data.toList hasc
    rw [foldC_snoc, appS_up _ _ _ (show (foldC s.data.toList es).2 ≤ e.a by omega)]
    show upTo s.data.toList (foldC s.data.toList es) e.a ++ e.t.data.toList = _
    unfold upTo
    rw [hf]
  have hsz := H.size
  have hln := H.len
  unfold stepC
  by_cases c : PL s e.a ≤ PL s st.2.b
  · rw [if_pos c]
    refine ⟨⟨q, a1, a2⟩, H.full, ⟨by simp only; omega, rfl, h2⟩, ?_, ?_, ?_, ?_, ?_⟩
    · simp only
      rw [hfold, H.text, b2]
      simp only [ByteArray.data_append, Array.toList_append, sliceE, List.append_assoc]
    · simp only [app_size, sumT_snoc, ByteArray.size_extract]
      omega
    · simp only [List.length_append, List.length_singleton]; omega
    · intro h
      obtain ⟨d1, d2⟩ := H.does (fun x hx => h x (by simp [hx]))
      refine ⟨d1, ?_⟩
      unfold Does at d2 ⊢
      simp only [app_size]
      omega
    · intro hj
      obtain ⟨q', j1, j2, _⟩ := joined_get hj
      have e1 := joined_end hasc j1
      subst e1
      exact H.last j1
  · rw [if_neg c]
    obtain ⟨k1, k2⟩ := close_ok H
    have hns : NL s p ≤ SL s e.a := NL_SL s p e.a b3 (by omega) (by rw [← b2]; omega)
    have hse := SL_le s e.a
    obtain ⟨n1, n2, n3, n4⟩ := NL_at s p b3
    refine ⟨⟨NL s p, k1, hns⟩, ?_, ⟨h1, rfl, h2⟩, ?_, ?_, ?_, ?_, ?_⟩
    · intro x hx
      rcases List.mem_append.1 hx with h3 | h3
      · exact H.full x h3
      · obtain rfl := List.mem_singleton.1 h3
        exact Full.close b1 (by omega)
    · simp only
      rw [hfold, upTo_more s.data.toList _ (show (foldC s.data.toList (st.1 ++ [closeC s st.2])).2 ≤ NL s p by rw [ascC_fold _ k1]; exact Nat.le_refl _) (show NL s p ≤ e.a by omega), k2]
      congr 1
      rw [slice_off s.data.toList n3 (show NL s p ≤ e.a by omega)]
      simp only [List.append_assoc]
    · simp only [sumT_snoc, List.length_append, List.length_singleton]
      have e1 : (closeC s st.2).t.size ≤ st.2.t.size + 2 * s.size := by
        unfold closeC
        simp only [app_size, ByteArray.size_extract]
        omega
      rw [Nat.add_mul]
      omega
    · simp only [List.length_append, List.length_singleton]; omega
    · intro h
      obtain ⟨d1, d2⟩ := H.does (fun x hx => h x (by simp [hx]))
      refine ⟨?_, h e (by simp)⟩
      intro x hx
      rcases List.mem_append.1 hx with h3 | h3
      · exact d1 x h3
      · obtain rfl := List.mem_singleton.1 h3
        exact does_close d2 (by omega)
    · intro hj
      obtain ⟨q', j1, j2, _⟩ := joined_get hj
      have e1 := joined_end hasc j1
      subst e1
      rcases j2 with j2 | j2 | j2 | j2
      · exact Or.inl j2
      · exact Or.inr (Or.inl j2)
      · exact Or.inr (Or.inr j2)
      · exfalso
        apply c
        rw [b2, j2.2]
        have e2 : e.a = s.size := by omega
        rw [e2]
        exact Int.le_refl _
theorem invC_all {s : ByteArray} : ∀ {es : List Ct} {p : Nat}, AscC s.size es p → es ≠ [] → InvC s es p (runC s es) := by
  intro es p h
  induction h with
  | nil => intro h; exact absurd rfl h
  | @snoc es p e hs h1 h2 h3 ih =>
    intro _
    by_cases h0 : es = []
    · subst h0
      exact inv1C s e h2 h3
    · rw [runC_snoc s h0]
      exact stepC_inv h0 hs (ih h0) e h1 h2 h3

/-- What is to be known of the edits of full lines. -/
structure FullOk (s : ByteArray) (es fs : List Ct) : Prop where
  asc : ∃ p, AscC s.size fs p
  full : ∀ c ∈ fs, Full s c
  text : textC s.data.toList fs = textC s.data.toList es
  does : (∀ e ∈ es, Does e) → ∀ c ∈ fs, Does c
  size : sumT fs ≤ sumT es + es.length * (2 * s.size) + s.size
  len : fs.length ≤ es.length
theorem fullC_ok {s : ByteArray} {es : List Ct} {p : Nat} (h : AscC s.size es p) : FullOk s es (fullC s es) := by
  by_cases h0 : es = []
  · subst h0
    exact ⟨⟨0, AscC.nil⟩, fun c hc => absurd hc (by simp [fullC]), rfl, fun _ c hc => absurd hc (by simp [fullC]), by simp [fullC, sumT], by simp [fullC]⟩
  · have hl : ¬ es.length = 0 := fun h => h0 (List.length_eq_zero_iff.1 h)
    unfold fullC
    rw [if_neg hl]
    have H := invC_all h h0
    generalize runC s es = st at H
    obtain ⟨k1, k2⟩ := close_ok H
    obtain ⟨b1, b2, b3⟩ := H.ab
    obtain ⟨n1, n2, n3, n4⟩ := NL_at s p b3
    have hsz := H.size
    have hln := H.len
    refine ⟨⟨_, k1⟩, ?_, ?_, ?_, ?_, ?_⟩
    · intro x hx
      rcases List.mem_append.1 hx with h3 | h3
      · exact H.full x h3
      · obtain rfl := List.mem_singleton.1 h3
        exact Full.close b1 (by omega)
    · rw [textC_up _ (size_list s) k1, textC_up _ (size_list s) h, upTo_more s.data.toList _ (show (foldC s.data.toList (st.1 ++ [closeC s st.2])).2 ≤ NL s p by rw [ascC_fold _ k1]; exact Nat.le_refl _) n4, k2]
      unfold upTo
      rw [ascC_fold _ h, slice_off s.data.toList n3 n4]
      simp only [List.append_assoc]
    · intro hd
      obtain ⟨d1, d2⟩ := H.does hd
      intro x hx
      rcases List.mem_append.1 hx with h3 | h3
      · exact d1 x h3
      · obtain rfl := List.mem_singleton.1 h3
        exact does_close d2 (by omega)
    · rw [sumT_snoc]
      have e1 : (closeC s st.2).t.size ≤ st.2.t.size + 2 * s.size := by
        unfold closeC
        simp only [app_size, ByteArray.size_extract]
        omega
      have e2 : (st.1.length + 1) * (2 * s.size) ≤ es.length * (2 * s.size) := Nat.mul_le_mul_right _ hln
      rw [Nat.add_mul] at e2
      omega
    · simp only [List.length_append, List.length_singleton]; omega
end Go.Proofs.YtgegialfhkgggaaGreatDoor
namespace Go.Proofs.YtgegialfhkgggaaGreatDoor
open Go.RowKit Stab Go.Proofs.YtgegialfhkgggaaGreatDoor.Lines Mye
attribute [local go_sem ↓] Go.wp_at_zero Go.wp_at_succ

/-- One of the edits lies within a line, or behind the end. -/
def partB (s : ByteArray) (es : List Ct) : Bool := es.any (fun c => partE s.size (edC s c))
/-- What prepareEdits leaves. -/
def PrpC (w : World) (s : ByteArray) (es : List Ct) (e : Ending) (w' : World) : Prop := ∃ p b, e = .returned (.tuple #[.pointer (some ⟨p, 0, none⟩), .slice (some ⟨b, 0, none⟩) es.length es.length, .bool (partB s es)]) ∧
  RowsF w' (some ⟨b, 0, none⟩) es.length (edAt (es.map (edC s))) ∧ Below w.heap.size w w'
/-- Edits that prepareEdits turns into these. -/
def PrepC (s : ByteArray) (es : List Ct) (f : Nat → Ed) : Prop := ∀ A c W, RowsF W A es.length f → Calls Tryz.prog 44 #[.string s, .slice A es.length c] W (PrpC W s es)
theorem partTo_iff (n : Nat) (g : Nat → Ed) (m : Nat) : partTo n g m = true ↔ ∃ i, i < m ∧ partE n (g i) = true := by
  induction m with
  | zero => simp [partTo]
  | succ m ih =>
    rw [partTo, Bool.or_eq_true, ih]
    constructor
    · rintro (⟨i, h1, h2⟩ | h)
      · exact ⟨i, by omega, h2⟩
      · exact ⟨m, by omega, h⟩
    · rintro ⟨i, h1, h2⟩
      by_cases e : i = m
      · subst e; exact Or.inr h2
      · exact Or.inl ⟨i, by omega, h2⟩
theorem edAt_map {s : ByteArray} {es : List Ct} {i : Nat} (h : i < es.length) : edAt (es.map (edC s)) i = edC s es[i] := by
  rw [edAt_get (by simpa using h)]; simp
theorem partB_iff {s : ByteArray} {es : List Ct} : partB s es = true ↔ ∃ i, i < es.length ∧ partE s.size (edAt (es.map (edC s)) i) = true := by
  unfold partB
  rw [List.any_eq_true]
  constructor
  · rintro ⟨c, hc, h⟩
    obtain ⟨i, hi, rfl⟩ := List.getElem_of_mem hc
    exact ⟨i, hi, by rw [edAt_map hi]; exact h⟩
  · rintro ⟨i, hi, h⟩
    rw [edAt_map hi] at h
    exact ⟨_, List.getElem_mem hi, h⟩
theorem prepC_of {s : ByteArray} {es : List Ct} {f : Nat → Ed} {q : Nat → Nat} (hs : s.size ≤ 2147483647) (hn : es.length ≤ 1000000) (hq : Into q es.length)
    (hW : ∀ i, i < es.length → ∀ p W, Conv W p s.size (stTo s s.size) → Calls Tryz.prog 73 #[spV (f i), .iface 101 (.pointer (some ⟨p, 0, none⟩))] W fun e W' => e = .returned (.tuple #[spV (edAt (es.map (edC s)) (q i)), .nilIface]) ∧ Below W.heap.size W W')
    (ht : ∀ i, i < es.length → (edAt (es.map (edC s)) (q i)).t = (f i).t) (hin : ∀ c ∈ es, c.a ≤ c.b ∧ c.b ≤ s.size)
    (hback : ∀ t, Sorted (ltE fun i => edAt (es.map (edC s)) (q i)) t es.length → ∀ i, i < es.length → q (t i) = i) : PrepC s es f := by
  have hpos : ∀ i, i < es.length → (edAt (es.map (edC s)) i).u = ⟨#[97]⟩ ∧ 1 ≤ (edAt (es.map (edC s)) i).l ∧ 1 ≤ (edAt (es.map (edC s)) i).l2 ∧ 0 ≤ (edAt (es.map (edC s)) i).o := fun i hi => by
    rw [edAt_map hi]
    have := hin _ (List.getElem_mem hi)
    exact ⟨rfl, PL_pos s _ (by omega), PL_pos s _ (by omega), by unfold edC; simp⟩
  intro A c W hA
  refine (prep_any s es.length f (fun i => edAt (es.map (edC s)) (q i)) A c hs hn W hA hW ht (fun i hi => ⟨(hpos _ (hq i hi)).2.1, (hpos _ (hq i hi)).2.2.1, (hpos _ (hq i hi)).2.2.2⟩)
    (weak_pos ⟨#[97]⟩ (fun i hi => ⟨(hpos _ (hq i hi)).1, (hpos _ (hq i hi)).2.1, (hpos _ (hq i hi)).2.2.1⟩))).mono ?_
  rintro e w' ⟨p, b, t, rfl, hC, hRw, hS, hb0, hb⟩
  have hb2 := hback t hS
  refine ⟨p, b, ?_, ?_, hb⟩
  · have e1 : partTo s.size (fun i => edAt (es.map (edC s)) (q i)) es.length = partB s es := by
      rw [Bool.eq_iff_iff, partTo_iff, partB_iff]
      constructor
      · rintro ⟨i, h1, h2⟩; exact ⟨q i, hq i h1, h2⟩
      · rintro ⟨i, h1, h2⟩; exact ⟨t i, hS.into i h1, by rw [hb2 i h1]; exact h2⟩
    rw [e1]
  · intro i j hi hj
    refine ⟨b, 0, rfl, ?_⟩
    have := (hRw i hi j hj).1
    rw [this]
    simp only [hb2 i hi]
theorem sorted_congr {g1 g2 : Nat → Ed} {t : Nat → Nat} {n : Nat} (h : ∀ i, i < n → g1 i = g2 i) (hS : Sorted (ltE g1) t n) : Sorted (ltE g2) t n := by
  refine ⟨hS.into, fun i j a b c => ?_⟩
  have h1 := hS.srt i j a b c
  have e : ∀ x y, x < n → y < n → ltE g2 x y = ltE g1 x y := fun x y hx hy => by unfold ltE; rw [h x hx, h y hy]
  have ti := hS.into i (by omega)
  have tj := hS.into j c
  rcases h1 with h1 | ⟨h1, h2⟩
  · exact Or.inl (by rw [e _ _ ti tj]; exact h1)
  · exact Or.inr ⟨by rw [e _ _ tj ti]; exact h1, h2⟩
/-- The edits of a script. -/
def ctOp (s : ByteArray) (lb : List ByteArray) (op : Opn) : Ct := ⟨off (lnL s) (oS op), off (lnL s) (oE op), opText lb op⟩
theorem edC_op {s : ByteArray} {lb : List ByteArray} {op : Opn} (h1 : oS op ≤ oE op) (h2 : oE op ≤ (lnL s).length) : edC s (ctOp s lb op) = gOp s lb op := by
  have a := PL_off s (oS op) (by omega)
  have b := PL_off s (oE op) h2
  unfold edC ctOp gOp
  simp only [a.1, a.2, b.1, b.2]
theorem prepC_ops {s t : ByteArray} {ops : List Opn} (hscr : Script (eqL (linesB s) (linesB t)) ops (linesB s).length (linesB t).length) (hs : s.size ≤ 400000) (hn : ops.length ≤ 10000) : PrepC s (ops.map (ctOp s (linesB t))) (edAt ((ops.map (peOf (linesB t))).map toEd)) := by
  have hasc := script_asc hscr
  have hl : (ops.map (ctOp s (linesB t))).length = ops.length := by simp
  have hb : ∀ i (hi : i < ops.length), oS ops[i] ≤ oE ops[i] ∧ oE ops[i] ≤ (lnL s).length := fun i hi => by
    have := (hasc i hi).1.end_le
    rw [linesB_len] at this
    exact this
  have hg : ∀ i, i < ops.length → edAt ((ops.map (ctOp s (linesB t))).map (edC s)) i = gD s (linesB t) ops i := fun i hi => by
    rw [edAt_map (by simpa using hi), gD_get hi]
    simp only [List.getElem_map]
    exact edC_op (hb i hi).1 (hb i hi).2
  have hf : ∀ i (hi : i < ops.length), edAt ((ops.map (peOf (linesB t))).map toEd) i = edOf ⟨#[97]⟩ (linesB t) ops[i] := fun i hi => by
    rw [edAt_get (by simpa using hi)]
    simp only [List.getElem_map]
    exact toEd_op _ _
  refine prepC_of (q := fun i => i) (by omega) (by omega) (fun i hi => hi) ?_ ?_ ?_ ?_
  · intro i hi p W hC
    rw [hl] at hi
    rw [hf i hi, hg i hi, gD_get hi]
    exact withAll_line ⟨#[97]⟩ s (by omega) (oS ops[i]) (oE ops[i]) (hb i hi).1 (hb i hi).2 p W hC
  · intro i hi
    rw [hl] at hi
    rw [hf i hi, hg i hi, gD_get hi]; rfl
  · intro c hc
    obtain ⟨op, hop, rfl⟩ := List.mem_map.1 hc
    obtain ⟨i, hi, rfl⟩ := List.getElem_of_mem hop
    exact ⟨off_mono _ _ _ (hb i hi).1, off_le s _ (hb i hi).2⟩
  · intro t' hS i hi
    rw [hl] at hi hS
    have hwk : Weak ops.length (ltE (gD s (linesB t) ops)) := weak_pos ⟨#[97]⟩ (fun i hi => by rw [gD_get hi]; unfold gOp; exact ⟨rfl, by dsimp only; omega, by dsimp only; omega⟩)
    have hS2 : Sorted (ltE (gD s (linesB t) ops)) t' ops.length := by
      exact sorted_congr (fun i hi => hg i hi) hS
    exact hS2.same hwk (gD_sorted hasc) i hi
/-- Cuts, told by offsets, in another order. -/
def ctCut (N : Nat → Nat) (T : Nat → ByteArray) (i : Nat) : Ct := ⟨N (2 * i), N (2 * i + 1), T i⟩
theorem edC_cut (s : ByteArray) (N : Nat → Nat) (T : Nat → ByteArray) (i : Nat) : edC s (ctCut N T i) = hOff s N T i := rfl
theorem prepC_cuts {s : ByteArray} {n B : Nat} {ar : Bool} {N : Nat → Nat} {T : Nat → ByteArray} (hc : CutsN s n N) (hs : s.size ≤ 400000) (hn : n ≤ 10000) : PrepC s ((List.range n).map (ctCut N T)) (fun i => toEd (peOff N T (turnIx n B ar i))) := by
  have hl : ((List.range n).map (ctCut N T)).length = n := by simp
  have hg : ∀ i, i < n → edAt (((List.range n).map (ctCut N T)).map (edC s)) i = hOff s N T i := fun i hi => by
    rw [edAt_map (by simpa using hi)]
    simp only [List.getElem_map, List.getElem_range]
    rfl
  have hp : ∀ i, i < n → turnIx n B ar i < n := fun i hi => turnIx_lt (by omega)
  refine prepC_of (q := turnIx n B ar) (by omega) (by omega) (by rw [hl]; exact hp) ?_ ?_ ?_ ?_
  · intro i hi p W hC
    rw [hl] at hi
    have hq := hp i hi
    rw [hg _ hq]
    exact wa_off s N T _ (by omega) (hc.in_ _ hq).2.1 (hc.in_ _ hq).2.2 p W hC
  · intro i hi
    rw [hl] at hi
    have hq := hp i hi
    rw [hg _ hq]; rfl
  · intro c hcm
    obtain ⟨i, hi, rfl⟩ := List.mem_map.1 hcm
    rw [List.mem_range] at hi
    exact (hc.in_ i hi).2
  · intro t' hS i hi
    rw [hl] at hi hS
    have hweak : Weak n (ltE (hOff s N T)) := weak_pos ⟨#[97]⟩ (fun i hi => ⟨rfl, pos_line1 s _ (by have := hc.in_ i hi; omega), pos_line1 s _ (by have := hc.in_ i hi; omega)⟩)
    have hS2 : Sorted (ltE fun i => hOff s N T (turnIx n B ar i)) t' n := sorted_congr (fun i hi => hg _ (hp i hi)) hS
    exact sorted_back (p := turnIx n B ar) hweak hp (fun i j hi hj e => turnIx_inj hi hj e) (hOff_asc T hc) hS2 i hi
end Go.Proofs.YtgegialfhkgggaaGreatDoor
namespace Go.Proofs.YtgegialfhkgggaaGreatDoor
open Go.RowKit Go.Proofs.YtgegialfhkgggaaGreatDoor.Lines Mye

/-- The edits of full lines that ToUnified goes over. -/
def fullOf (s : ByteArray) (es : List Ct) : List Ct := if partB s es then fullC s es else es
/-- An edit of full lines, by lines. -/
def leC (s : ByteArray) (c : Ct) : Hk.LE ByteArray := ⟨(PL s c.a - 1).toNat, (PL s c.b - 1).toNat, linesB c.t⟩
abbrev HKs (s : ByteArray) (fs : List Ct) : List (Hk.HK ByteArray) := Hk.hunksS (linesB s) (fs.map (leC s))
theorem ascC_mem {n : Nat} {es : List Ct} {p : Nat} (h : AscC n es p) : ∀ c ∈ es, c.a ≤ c.b ∧ c.b ≤ n := by
  induction h with
  | nil => intro c hc; simp at hc
  | snoc h1 h2 h3 h4 ih =>
    intro c hc
    rcases List.mem_append.1 hc with h | h
    · exact ih c h
    · obtain rfl := List.mem_singleton.1 h
      exact ⟨h3, h4⟩
theorem fullOf_ok {s : ByteArray} {es : List Ct} {p : Nat} (h : AscC s.size es p) : FullOk s es (fullOf s es) := by
  unfold fullOf
  by_cases c : partB s es = true
  · rw [if_pos c]; exact fullC_ok h
  · rw [if_neg c]
    refine ⟨⟨p, h⟩, fun x hx => ?_, rfl, fun h => h, Nat.le_trans (Nat.le_add_right _ _) (Nat.le_add_right _ _), Nat.le_refl _⟩
    have hx2 := ascC_mem h x hx
    have h1 : ¬ partE s.size (edC s x) = true := fun e => c (by unfold partB; exact List.any_eq_true.2 ⟨x, hx, e⟩)
    unfold partE edC at h1
    simp only [Bool.or_eq_true, decide_eq_true_eq] at h1
    have p1 := (PC_pos s x.a (by omega)).1
    have p2 := (PC_pos s x.b (by omega)).1
    exact ⟨by omega, by omega⟩
theorem leC_asc {s : ByteArray} {fs : List Ct} {p : Nat} (h : AscC s.size fs p) : Hk.Asc (linesB s) (fs.map (leC s)) (if fs = [] then 0 else (PL s p - 1).toNat) := by
  induction h with
  | nil => exact Hk.Asc.nil
  | @snoc es p e h1 h2 h3 h4 ih =>
    rw [if_neg (by simp), List.map_append, List.map_cons, List.map_nil]
    refine Hk.Asc.snoc (e := leC s e) ih ?_ ?_ ?_
    · split
      · exact Nat.zero_le _
      · have := PL_mono s p e.a h2 (by omega)
        unfold leC; simp only; omega
    · have := PL_mono s e.a e.b h3 h4
      unfold leC; simp only; omega
    · have := PL_le s e.b h4
      rw [linesB_len]
      unfold leC; simp only; omega
/-- The bytes of a list of lines. -/
def flatB (l : List ByteArray) : List UInt8 := (l.map (fun x => x.data.toList)).flatten
theorem flatB_app (a b : List ByteArray) : flatB (a ++ b) = flatB a ++ flatB b := by simp [flatB]
theorem flatB_lines (t : ByteArray) : flatB (linesB t) = t.data.toList := by
  unfold flatB linesB
  rw [List.map_map]
  have : ((fun x : ByteArray => x.data.toList) ∘ toB) = id := by funext x; exact toB_list x
  rw [this, List.map_id, linesL_flat]
theorem flatB_seg (s : ByteArray) (i j : Nat) : flatB (Hk.seg (linesB s) i j) = (Hk.seg (lnL s) i j).flatten := by
  unfold flatB Hk.seg
  rw [linesB_lnL, ← List.map_drop, ← List.map_take, List.map_map]
  have : ((fun x : ByteArray => x.data.toList) ∘ toB) = id := by funext x; exact toB_list x
  rw [this, List.map_id]
theorem seg_bytes (s : ByteArray) {i j : Nat} (h : i ≤ j) : (Hk.seg (lnL s) i j).flatten = (s.data.toList.drop (off (lnL s) i)).take (off (lnL s) j - off (lnL s) i) := by
  have h1 := drop_off (lnL s) i
  rw [linesL_flat] at h1
  rw [h1]
  unfold Hk.seg
  have h2 : off (lnL s) j - off (lnL s) i = off ((lnL s).drop i) (j - i) := by
    unfold off
    have e : (lnL s).take j = (lnL s).take i ++ ((lnL s).drop i).take (j - i) := by
      rw [show j = i + (j - i) by omega, List.take_add, show i + (j - i) - i = j - i by omega]
    rw [e, List.flatten_append, List.length_append]; omega
  rw [h2]
  exact (take_off ((lnL s).drop i) (j - i)).symm
theorem off_le_PL {s : ByteArray} {k : Nat} (h : k ≤ s.size) (hc : PC s k = 1) : off (lnL s) (PL s k - 1).toNat = k := (off_of_PC s k h hc).symm
/-- By lines and by bytes the same text. -/
theorem le_text {s : ByteArray} {fs : List Ct} {p : Nat} (h : AscC s.size fs p) : (∀ c ∈ fs, Full s c) →
    flatB (Hk.eap (linesB s) (fs.map (leC s))).1 = (foldC s.data.toList fs).1 ∧ off (lnL s) (Hk.eap (linesB s) (fs.map (leC s))).2 = p := by
  induction h with
  | nil => intro _; exact ⟨rfl, rfl⟩
  | @snoc es p e h1 h2 h3 h4 ih =>
    intro hf
    obtain ⟨i1, i2⟩ := ih (fun c hc => hf c (by simp [hc]))
    obtain ⟨f1, f2⟩ := hf e (by simp)
    have hfold := ascC_fold s.data.toList h1
    have ha := off_le_PL (s := s) (k := e.a) (by omega) f1
    have hb := off_le_PL (s := s) (k := e.b) h4 f2
    rw [List.map_append, List.map_cons, List.map_nil, Hk.eap_snoc, foldC_snoc, appS_up _ _ _ (show (foldC s.data.toList es).2 ≤ e.a by omega)]
    have hq := Hk.asc_eap (leC_asc h1)
    have hle : (Hk.eap (linesB s) (es.map (leC s))).2 ≤ (PL s e.a - 1).toNat := by
      rw [hq]
      split
      · exact Nat.zero_le _
      · have := PL_mono s p e.a h2 (by omega); omega
    generalize Hk.eap (linesB s) (es.map (leC s)) = pp at *
    refine ⟨?_, hb⟩
    show flatB (pp.1 ++ Hk.seg (linesB s) pp.2 (PL s e.a - 1).toNat ++ linesB e.t) = upTo s.data.toList (foldC s.data.toList es) e.a ++ e.t.data.toList
    rw [flatB_app, flatB_app, i1, flatB_seg, seg_bytes s hle, flatB_lines, ha, i2]
    unfold upTo
    rw [hfold]
theorem le_textC {s : ByteArray} {fs : List Ct} {p : Nat} (h : AscC s.size fs p) (hf : ∀ c ∈ fs, Full s c) :
    flatB ((Hk.eap (linesB s) (fs.map (leC s))).1 ++ (linesB s).drop (Hk.eap (linesB s) (fs.map (leC s))).2) = textC s.data.toList fs := by
  obtain ⟨h1, h2⟩ := le_text h hf
  have h3 := ascC_fold s.data.toList h
  rw [flatB_app, h1]
  unfold textC
  rw [h3]
  congr 1
  have h4 := drop_off (lnL s) (Hk.eap (linesB s) (fs.map (leC s))).2
  rw [linesL_flat, h2] at h4
  rw [h4]
  unfold flatB
  rw [linesB_lnL, ← List.map_drop, List.map_map]
  have : ((fun x : ByteArray => x.data.toList) ∘ toB) = id := by funext x; exact toB_list x
  rw [this, List.map_id]
theorem hkasc_take {α : Type} {A : List α} {es : List (Hk.LE α)} {p : Nat} (h : Hk.Asc A es p) : ∀ k, k ≤ es.length → ∃ q, Hk.Asc A (es.take k) q ∧ (∀ hk : k < es.length, q ≤ es[k].a ∧ es[k].a ≤ es[k].b ∧ es[k].b ≤ A.length) := by
  induction h with
  | nil => intro k hk; exact ⟨0, by simp; exact Hk.Asc.nil, fun h => absurd h (by simp)⟩
  | @snoc es p e h1 h2 h3 h4 ih =>
    intro k hk
    rw [List.length_append, List.length_singleton] at hk
    by_cases c : k < es.length
    · obtain ⟨q, q1, q2⟩ := ih k (by omega)
      refine ⟨q, by rw [List.take_append_of_le_length (by omega)]; exact q1, fun _ => ?_⟩
      rw [List.getElem_append_left c]
      exact q2 c
    · by_cases c2 : k = es.length
      · subst c2
        refine ⟨p, by rw [List.take_left]; exact h1, fun _ => ?_⟩
        rw [List.getElem_append_right (Nat.le_refl _)]
        simp only [Nat.sub_self, List.getElem_singleton]
        exact ⟨h2, h3, h4⟩
      · have : k = (es ++ [e]).length := by simp; omega
        subst this
        exact ⟨e.b, by rw [List.take_length]; exact Hk.Asc.snoc h1 h2 h3 h4, fun h => absurd h (Nat.lt_irrefl _)⟩
/-- The state ahead of an edit's own lines. -/
def preS {α : Type} (A : List α) (st : Hk.St α) (a : Nat) : List (Hk.HK α) × Hk.HK α × Int :=
  if a = st.last then (st.hs, st.cur, st.tl) else if a ≤ st.last + 6 then (st.hs, Hk.ext st.cur (Hk.seg A st.last a), st.tl)
  else (st.hs ++ [Hk.ext st.cur (Hk.seg A st.last (st.last + 3))], Hk.newH A (st.tl + ((a : Int) - st.last)) a, st.tl + ((a : Int) - st.last))
theorem stepS_pre {α : Type} (A : List α) (st : Hk.St α) (e : Hk.LE α) : Hk.stepS A st e = ⟨(preS A st e.a).1, Hk.putE A (preS A st e.a).2.1 e, e.b, (preS A st e.a).2.2 + e.t.length⟩ := by
  unfold Hk.stepS preS
  split
  · rfl
  · split <;> rfl
theorem linesB_le_size (t : ByteArray) : (linesB t).length ≤ t.size := by rw [linesB_length]; exact stTo_len t t.size
theorem putN_le (s : ByteArray) (fs : List Ct) : Hk.putN (fs.map (leC s)) ≤ sumT fs := by
  unfold Hk.putN sumT
  induction fs with
  | nil => simp
  | cons c r ih =>
    simp only [List.map_cons, List.sum_cons]
    have := linesB_le_size c.t
    unfold leC
    simp only
    unfold leC at ih
    omega
theorem cur_len {α : Type} {A : List α} {es : List (Hk.LE α)} {st : Hk.St α} (H : Hk.Inv A es st) : st.cur.ls.length ≤ A.length + Hk.putN es := by
  obtain ⟨_, h2⟩ := Hk.getLast_snoc H.pat
  obtain ⟨q, q1, q2, q3, q4⟩ := h2
  have := H.cur.len
  omega
theorem fold_hs {α : Type} (A : List α) : ∀ (es : List (Hk.LE α)) (st : Hk.St α), (es.foldl (Hk.stepS A) st).hs.length ≤ st.hs.length + es.length
  | [], st => by simp
  | e :: es, st => by
    have h1 := fold_hs A es (Hk.stepS A st e)
    have h2 : (Hk.stepS A st e).hs.length ≤ st.hs.length + 1 := by
      unfold Hk.stepS
      split
      · simp
      · split <;> simp
    rw [List.foldl_cons, List.length_cons]
    omega
theorem run_hs {α : Type} (A : List α) (es : List (Hk.LE α)) : (Hk.runS A es).hs.length ≤ es.length := by
  cases es with
  | nil => simp [Hk.runS]
  | cons e r =>
    have := fold_hs A r (Hk.st1 A e)
    have e1 : (Hk.st1 A e).hs.length = 0 := rfl
    show (r.foldl (Hk.stepS A) (Hk.st1 A e)).hs.length ≤ _
    rw [List.length_cons]; omega
end Go.Proofs.YtgegialfhkgggaaGreatDoor
namespace Go.Proofs.YtgegialfhkgggaaGreatDoor
open Go.RowKit Stab Go.Proofs.YtgegialfhkgggaaGreatDoor.Lines Mye

theorem endsL_app {x y : List UInt8} (hx : endsL x) (hy : endsL y) : endsL (x ++ y) := by
  rcases hy with rfl | hy
  · rw [List.append_nil]; exact hx
  · right; rw [List.getLast?_append, hy]; rfl
theorem linesL_app : ∀ (x y : List UInt8), endsL x → linesL (x ++ y) = linesL x ++ linesL y
  | [], y, _ => rfl
  | b :: t, y, h => by
    have ht : b ≠ 10 → t ≠ [] := by
      rintro hb rfl
      rcases h with h | h
      · cases h
      · simp at h; exact hb h
    have he : endsL t := by
      by_cases h0 : t = []
      · exact Or.inl h0
      · right
        rcases h with h | h
        · cases h
        · obtain ⟨c, r, rfl⟩ := List.exists_cons_of_ne_nil h0
          rw [List.getLast?_cons_cons] at h
          exact h
    have ih := linesL_app t y he
    rw [List.cons_append, linesL, linesL]
    by_cases e : b = 10
    · rw [if_pos e, if_pos e, ih]; rfl
    · rw [if_neg e, if_neg e, ih]
      cases hL : linesL t with
      | nil => exact absurd hL (linesL_ne (ht e))
      | cons z r => rfl
theorem linesB_app_len {x y : ByteArray} (h : y.size = 0 ∨ endsL x.data.toList) : (linesB (x ++ y)).length = (linesB x).length + (linesB y).length := by
  unfold linesB
  simp only [List.length_map, ByteArray.data_append, Array.toList_append]
  rcases h with h | h
  · have : y.data.toList = [] := List.length_eq_zero_iff.1 (by rw [size_list]; exact h)
    rw [this]; simp [linesL]
  · rw [linesL_app _ _ h, List.length_append]

/-- How many lines an edit leaves out and puts in. -/
def cntC (s : ByteArray) (c : Ct) : Nat := ((PL s c.b - 1).toNat - (PL s c.a - 1).toNat) + (linesB c.t).length
def sumC (s : ByteArray) (es : List Ct) : Nat := (es.map (cntC s)).sum
theorem sumC_snoc (s : ByteArray) (es : List Ct) (e : Ct) : sumC s (es ++ [e]) = sumC s es + cntC s e := by simp [sumC]
theorem sumC_le (s : ByteArray) (es : List Ct) : sumC s es = Hk.cutN (es.map (leC s)) + Hk.putN (es.map (leC s)) := by
  induction es with
  | nil => rfl
  | cons c r ih =>
    unfold sumC at ih ⊢
    unfold Hk.cutN Hk.putN at ih ⊢
    simp only [List.map_cons, List.sum_cons, ih]
    unfold cntC leC
    simp only
    omega
/-- A text that isn't empty follows none that lacks its newline. -/
inductive EndsC : List Ct → Prop
  | nil : EndsC []
  | snoc {es e} : EndsC es → (0 < e.t.size → ∀ c ∈ es, endsL c.t.data.toList) → EndsC (es ++ [e])
structure InvN (s : ByteArray) (es : List Ct) (st : List Ct × Ct) : Prop where
  sum : sumC s st.1 + cntC s st.2 = sumC s es
  ends : (∀ c ∈ es, endsL c.t.data.toList) → endsL st.2.t.data.toList
  full : Full s st.2
theorem cntC_close {s : ByteArray} {c : Ct} (h : Full s c) : cntC s (closeC s c) = cntC s c := by
  obtain ⟨h1, h2⟩ := h
  have e1 : SL s c.a = c.a := SL_one s c.a h1
  have e2 : NL s c.b = c.b := by unfold NL; rw [if_neg (by omega)]
  unfold cntC closeC
  simp only [e1, e2]
  have e3 : s.extract c.a c.a ++ c.t ++ s.extract c.b c.b = c.t := by
    refine eq_of_list ?_
    simp
  rw [e3]
theorem invN_step {s : ByteArray} {es : List Ct} {p : Nat} {st : List Ct × Ct} (H : InvC s es p st) (N : InvN s es st) (e : Ct) (hf : Full s e) (he : 0 < e.t.size → ∀ c ∈ es, endsL c.t.data.toList) (h0 : p ≤ e.a) (h1 : e.a ≤ e.b) (h2 : e.b ≤ s.size) : InvN s (es ++ [e]) (stepC s st e) := by
  obtain ⟨b1, b2, b3⟩ := H.ab
  obtain ⟨f1, f2⟩ := N.full
  unfold stepC
  by_cases c : PL s e.a ≤ PL s st.2.b
  · rw [if_pos c]
    have heq : e.a = st.2.b := by
      have := le_of_place s e.a st.2.b (by omega) (by
        rcases Int.lt_or_eq_of_le c with h | h
        · exact Or.inl h
        · exact Or.inr ⟨h, by rw [hf.1, f2]; exact Int.le_refl _⟩)
      omega
    have hg : s.extract st.2.b e.a ++ e.t = e.t := by
      rw [heq]
      refine eq_of_list ?_
      simp
    have m1 := PL_mono s st.2.a st.2.b b1 (by omega)
    have m2 := PL_mono s e.a e.b h1 h2
    refine ⟨?_, fun h => ?_, ⟨f1, hf.2⟩⟩
    · have hl : (linesB (st.2.t ++ e.t)).length = (linesB st.2.t).length + (linesB e.t).length := linesB_app_len (by
        rcases Nat.eq_zero_or_pos e.t.size with h | h
        · exact Or.inl h
        · exact Or.inr (N.ends (he h)))
      rw [sumC_snoc, ← N.sum]
      unfold cntC
      simp only [hg, hl]
      rw [heq]
      rw [heq] at m2
      omega
    · simp only [hg, ByteArray.data_append, Array.toList_append]
      exact endsL_app (N.ends (fun x hx => h x (by simp [hx]))) (h e (by simp))
  · rw [if_neg c]
    refine ⟨?_, fun h => h e (by simp), hf⟩
    simp only [sumC_snoc, cntC_close N.full]
    rw [← N.sum]
theorem invN_all {s : ByteArray} : ∀ {es : List Ct} {p : Nat}, AscC s.size es p → (∀ c ∈ es, Full s c) → EndsC es → es ≠ [] → InvN s es (runC s es) := by
  intro es p h
  induction h with
  | nil => intro _ _ h; exact absurd rfl h
  | @snoc es p e hs h1 h2 h3 ih =>
    intro hf hE _
    have hE2 : EndsC es ∧ (0 < e.t.size → ∀ c ∈ es, endsL c.t.data.toList) := by
      generalize hx : es ++ [e] = x at hE
      cases hE with
      | nil => simp at hx
      | @snoc es' e' q1 q2 =>
        obtain ⟨rfl, q3⟩ := List.append_inj' hx rfl
        obtain rfl : e = e' := by simpa using q3
        exact ⟨q1, q2⟩
    by_cases h0 : es = []
    · subst h0
      exact ⟨by simp [runC, sumC], fun h => h e (by simp), hf e (by simp)⟩
    · rw [runC_snoc s h0]
      exact invN_step (invC_all hs h0) (ih (fun c hc => hf c (by simp [hc])) hE2.1 h0) e (hf e (by simp)) hE2.2 h1 h2 h3
theorem sum_full {s : ByteArray} {es : List Ct} {p : Nat} (h : AscC s.size es p) (hf : ∀ c ∈ es, Full s c) (hE : EndsC es) : sumC s (fullOf s es) = sumC s es := by
  unfold fullOf
  split
  · by_cases h0 : es = []
    · subst h0; rfl
    · have N := invN_all h hf hE h0
      unfold fullC
      rw [if_neg (fun e => h0 (List.length_eq_zero_iff.1 e)), sumC_snoc, cntC_close N.full, N.sum]
  · rfl
theorem does_le {s : ByteArray} {c : Ct} (hf : Full s c) (h1 : c.a ≤ c.b) (h2 : c.b ≤ s.size) (h : Does c) : 1 ≤ ((leC s c).b - (leC s c).a) + (leC s c).t.length := by
  rcases h with h | h
  · have p1 := PL_pos s c.a (by omega)
    rcases PL_lt s c.a c.b h h2 with q | q
    · unfold leC; simp only; omega
    · have := hf.1; have := hf.2; omega
  · have : (linesB c.t).length ≠ 0 := by
      unfold linesB
      rw [List.length_map]
      intro e
      have := List.length_eq_zero_iff.1 e
      refine linesL_ne (fun e2 => ?_) this
      have h3 := size_list c.t
      rw [e2] at h3
      simp at h3; omega
    unfold leC; simp only; omega
end Go.Proofs.YtgegialfhkgggaaGreatDoor
namespace Go.Proofs.YtgegialfhkgggaaGreatDoor
open Go.RowKit Stab Go.Proofs.YtgegialfhkgggaaGreatDoor.Lines Mye

theorem ctOp_del (s : ByteArray) (lb : List ByteArray) (a b j : Nat) : ctOp s lb (.del a b j) = ⟨off (lnL s) a, off (lnL s) b, ⟨#[]⟩⟩ := rfl
theorem ctOp_ins_t (s t : ByteArray) (i j k : Nat) : (ctOp s (linesB t) (.ins i j k)).t.data.toList = (((lnL t).drop j).take (k - j)).flatten := opText_data t i j k
theorem ctOp_ins_size (s t : ByteArray) {i j k : Nat} (hjk : j ≤ k) : (ctOp s (linesB t) (.ins i j k)).t.size = off (lnL t) k - off (lnL t) j := by
  rw [← size_list, ctOp_ins_t]
  have h := seg_bytes t hjk
  unfold Hk.seg at h
  rw [h, List.length_take, List.length_drop, size_list]
  have h1 : off (lnL t) k ≤ t.size := by
    have := off_mono (lnL t) k (max k (lnL t).length) (by omega)
    have h2 : off (lnL t) (max k (lnL t).length) = off (lnL t) (lnL t).length := by
      unfold off
      rw [List.take_of_length_le (by omega), List.take_of_length_le (Nat.le_refl _)]
    rw [h2, off_size] at this
    exact this
  omega
theorem last_full {L : List (List UInt8)} (hg : Lines.Good L) {i : Nat} (h : i + 1 < L.length) : (L[i]'(by omega)).getLast? = some 10 := (full_count (good_full hg i h)).2
theorem flat_ends {L : List (List UInt8)} (hg : Lines.Good L) {k : Nat} (h : k < L.length) : endsL (L.take k).flatten := by
  cases k with
  | zero => exact Or.inl rfl
  | succ k => exact Or.inr (good_last hg k h)
theorem drop_take_ends {L : List (List UInt8)} (hg : Lines.Good L) {j k : Nat} (h : k < L.length) (hjk : j ≤ k) : endsL ((L.drop j).take (k - j)).flatten := by
  rcases Nat.eq_or_lt_of_le hjk with e | e
  · subst e; rw [Nat.sub_self, List.take_zero]; exact Or.inl rfl
  · obtain ⟨m, rfl⟩ : ∃ m, k = m + 1 := ⟨k - 1, by omega⟩
    right
    have hl := last_full hg (i := m) (by omega)
    have e2 : (L.drop j).take (m + 1 - j) = (L.drop j).take (m - j) ++ [L[m]] := by
      rw [show m + 1 - j = (m - j) + 1 by omega, List.take_succ_eq_append_getElem (by rw [List.length_drop]; omega)]
      congr 2
      rw [List.getElem_drop]
      congr 1; omega
    rw [e2, List.flatten_append]
    simp [List.getLast?_append, hl]
/-- All of it, by induction on the script. -/
structure OpsE (s t : ByteArray) (es : List Ct) (x y n : Nat) : Prop where
  asc : ∃ p, AscC s.size es p ∧ Joined s es p ∧ p ≤ off (lnL s) x ∧ (x = (lnL s).length → 1 ≤ x → y < (lnL t).length → (es ≠ [] ∧ p = s.size) ∨ s.data.toList.getLast? = some 10)
  full : ∀ c ∈ es, Full s c
  ends : EndsC es
  endsY : y < (lnL t).length → ∀ c ∈ es, endsL c.t.data.toList
  sum : sumT es ≤ off (lnL t) y
  does : ∀ c ∈ es, Does c
  cnt : sumC s es = n
def OpsF (s t : ByteArray) (l : List Opn) (x y : Nat) : Prop := OpsE s t (l.map (ctOp s (linesB t))) x y (cost l)
theorem map_snoc {α β : Type} (f : α → β) (l : List α) (o : α) : (l ++ [o]).map f = l.map f ++ [f o] := by simp
theorem cost_snoc (l : List Opn) (o : Opn) : cost (l ++ [o]) = cost l + cost [o] := cost_append l [o]
theorem endsB_nil : endsL (⟨#[]⟩ : ByteArray).data.toList := Or.inl rfl
theorem ops_f {s t : ByteArray} {l : List Opn} {x y : Nat} (h : Script (eqL (linesB s) (linesB t)) l x y) : x ≤ (lnL s).length → y ≤ (lnL t).length → OpsF s t l x y := by
  have gs := lines_good s.data.toList
  have gt := lines_good t.data.toList
  induction h with
  | nil => intro _ _; exact ⟨⟨0, AscC.nil, Joined.nil, Nat.zero_le _, fun h1 h2 => by omega⟩, fun c hc => absurd hc (by simp), EndsC.nil, fun _ c hc => absurd hc (by simp), by simp [sumT], fun c hc => absurd hc (by simp), rfl⟩
  | @del l x y n hs hn ih =>
    intro hx hy
    have H := ih (by omega) hy
    obtain ⟨p, a1, a2, a3, a4⟩ := H.asc
    have hlt : off (lnL s) x < off (lnL s) (x + n) := off_lt (linesL_mem s.data.toList) (by omega) hx
    have hle := off_le s (x + n) hx
    have f1 := PL_off s x (by omega)
    have f2 := PL_off s (x + n) hx
    have he : Full s (ctOp s (linesB t) (.del x (x + n) y)) := ⟨f1.2, f2.2⟩
    unfold OpsF
    rw [map_snoc, cost_snoc]
    refine ⟨⟨off (lnL s) (x + n), AscC.snoc (e := ctOp s (linesB t) (.del x (x + n) y)) a1 a3 (Nat.le_of_lt hlt) hle, Joined.snoc (e := ctOp s (linesB t) (.del x (x + n) y)) a2 (Or.inl (Nat.lt_of_lt_of_le hlt hle)), Nat.le_refl _, fun h1 _ _ => Or.inl ⟨by simp, by rw [h1, off_size]⟩⟩, ?_, ?_, ?_, ?_, ?_, ?_⟩
    · intro c hc
      rcases List.mem_append.1 hc with h3 | h3
      · exact H.full c h3
      · obtain rfl := List.mem_singleton.1 h3; exact he
    · exact EndsC.snoc H.ends (fun h => absurd h (Nat.lt_irrefl 0))
    · intro hy2 c hc
      rcases List.mem_append.1 hc with h3 | h3
      · exact H.endsY hy2 c h3
      · obtain rfl := List.mem_singleton.1 h3; exact endsB_nil
    · rw [sumT_snoc]; exact H.sum
    · intro c hc
      rcases List.mem_append.1 hc with h3 | h3
      · exact H.does c h3
      · obtain rfl := List.mem_singleton.1 h3; exact Or.inl hlt
    · rw [sumC_snoc, H.cnt]
      congr 1
      unfold cntC ctOp
      simp only [oS, oE, f1.1, f2.1, opText, cost]
      have : (linesB (⟨#[]⟩ : ByteArray)).length = 0 := rfl
      rw [this]; omega
  | @ins l x y n hs hn ih =>
    intro hx hy
    have H := ih hx (by omega)
    obtain ⟨p, a1, a2, a3, a4⟩ := H.asc
    have hle := off_le s x hx
    have f1 := PL_off s x hx
    have he : Full s (ctOp s (linesB t) (.ins x y (y + n))) := ⟨f1.2, f1.2⟩
    have hsz := ctOp_ins_size s t (i := x) (show y ≤ y + n by omega)
    have hlt : off (lnL t) y < off (lnL t) (y + n) := off_lt (linesL_mem t.data.toList) (by omega) hy
    have hjoin : Joins s p (l.map (ctOp s (linesB t))) (ctOp s (linesB t) (.ins x y (y + n))) := by
      by_cases h1 : x < (lnL s).length
      · left
        have := off_lt (linesL_mem s.data.toList) h1 (Nat.le_refl _)
        rw [off_size] at this
        exact this
      · have hxe : x = (lnL s).length := by omega
        by_cases h2 : 1 ≤ x
        · rcases a4 hxe h2 (by omega) with h3 | h3
          · exact Or.inr (Or.inr (Or.inr h3))
          · exact Or.inr (Or.inr (Or.inl h3))
        · right; left
          show PL s (off (lnL s) x) ≤ 1
          rw [f1.1]; omega
    unfold OpsF
    rw [map_snoc, cost_snoc]
    refine ⟨⟨off (lnL s) x, AscC.snoc (e := ctOp s (linesB t) (.ins x y (y + n))) a1 a3 (Nat.le_refl _) hle, Joined.snoc (e := ctOp s (linesB t) (.ins x y (y + n))) a2 hjoin, Nat.le_refl _, fun h1 _ _ => Or.inl ⟨by simp, by rw [h1, off_size]⟩⟩, ?_, ?_, ?_, ?_, ?_, ?_⟩
    · intro c hc
      rcases List.mem_append.1 hc with h3 | h3
      · exact H.full c h3
      · obtain rfl := List.mem_singleton.1 h3; exact he
    · exact EndsC.snoc H.ends (fun _ => H.endsY (by omega))
    · intro hy2 c hc
      rcases List.mem_append.1 hc with h3 | h3
      · exact H.endsY (by omega) c h3
      · obtain rfl := List.mem_singleton.1 h3
        rw [ctOp_ins_t]
        exact drop_take_ends gt hy2 (by omega)
    · rw [sumT_snoc, hsz]
      have := H.sum
      omega
    · intro c hc
      rcases List.mem_append.1 hc with h3 | h3
      · exact H.does c h3
      · obtain rfl := List.mem_singleton.1 h3; exact Or.inr (by omega)
    · rw [sumC_snoc, H.cnt]
      congr 1
      have hl : (linesB (ctOp s (linesB t) (.ins x y (y + n))).t).length = n := by
        rw [linesB_len]
        unfold lnL
        rw [ctOp_ins_t]
        unfold lnL
        rw [lines_cut, List.length_take, List.length_drop]
        unfold lnL at hy
        omega
      unfold cntC
      rw [hl]
      unfold ctOp
      simp only [oS, oE, cost]
      omega
  | @diag l x y hs he ih =>
    intro hx hy
    have H := ih (by omega) (by omega)
    obtain ⟨p, a1, a2, a3, a4⟩ := H.asc
    have hm := off_mono (lnL s) x (x + 1) (by omega)
    refine ⟨⟨p, a1, a2, by omega, fun h1 _ h3 => ?_⟩, H.full, H.ends, fun h1 => H.endsY (by omega), Nat.le_trans H.sum (off_mono _ _ _ (by omega)), H.does, H.cnt⟩
    right
    have hAB := eqL_lines x y (by omega) (by omega) he
    have hl := last_full gt (i := y) h3
    rw [← hAB] at hl
    have e : s.data.toList = ((lnL s).take x).flatten ++ (lnL s)[x] := by
      have h4 := linesL_flat s.data.toList
      have h5 : (linesL s.data.toList) = (lnL s).take x ++ [(lnL s)[x]] := by
        rw [← List.take_succ_eq_append_getElem (by omega), h1, List.take_length]
      rw [h5, List.flatten_append, List.flatten_cons, List.flatten_nil, List.append_nil] at h4
      exact h4.symm
    rw [e, List.getLast?_append, hl]; rfl
/-- The edits of a script turn the old text into the new one. -/
theorem ops_text {s t : ByteArray} {ops : List Opn} (h : Script (eqL (linesB s) (linesB t)) ops (linesB s).length (linesB t).length) : textC s.data.toList (ops.map (ctOp s (linesB t))) = t.data.toList := by
  have hF := ops_f h (by rw [linesB_len]; exact Nat.le_refl _) (by rw [linesB_len]; exact Nat.le_refl _)
  obtain ⟨p, a1, _⟩ := hF.asc
  have h1 := textC_app s.data.toList (size_list s) a1 (gD s (linesB t) ops) (fun i hi => by
    have hi2 : i < ops.length := by simpa using hi
    rw [gD_get hi2]
    simp only [List.getElem_map]
    rw [toO_gOp]
    have : ctO (ctOp s (linesB t) ops[i]) = opE (lnL s) (lnL t) ops[i] := by
      rw [← toO_gOp s t]
      unfold ctO ctOp toO gOp
      simp
    rw [this])
  rw [← h1, List.length_map]
  exact app_ops h
end Go.Proofs.YtgegialfhkgggaaGreatDoor
