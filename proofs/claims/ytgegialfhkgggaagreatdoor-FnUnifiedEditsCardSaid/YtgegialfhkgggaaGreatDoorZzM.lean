/- Walk: (Unified).ZZText. No condition but sizes, and the table that AppendInt reads. -/
import Derived.Test.YtgegialfhkgggaaGreatDoorAppIntM
import Derived.Test.YtgegialfhkgggaaGreatDoorPr
import Derived.Test.YtgegialfhkgggaaGreatDoorPn
import Derived.Deep.RegionHeld3
import Derived.Deep.CutRange
import Derived.Deep.DeepCutAuto
set_option linter.unusedVariables false
set_option linter.unusedSimpArgs false
namespace Go.Proofs.YtgegialfhkgggaaGreatDoor
open Go.RowKit Go.Proofs.YtgegialfhkgggaaGreatDoor.Lines
attribute [local go_sem ↓] Go.wp_at_zero Go.wp_at_succ

/-- What stands while the text is written: the unified edits' block, the bytes so far. -/
structure ZU (g : Nat) (w W : World) (cs : Array Value) (v : Value) (l : List UInt8) : Prop where
  s : Blk W g 52 cs
  b : Byt (g + 1) W v l
  low : Below g w W
  tab : Tab10 (g + 1) W
theorem ZU.nb {g : Nat} {w W W' : World} {cs : Array Value} {v v' : Value} {l l' : List UInt8} (H : ZU g w W cs v l) (hb : Byt (g + 1) W' v' l') (hn : Nb (g + 1) W W') : ZU g w W' cs v' l' :=
  ⟨H.s.below hn.1 (Nat.lt_succ_self _), hb, H.low.trans (hn.1.mono (Nat.le_succ _)), H.tab.on hn.1⟩
/-- What holds all through a region. -/
abbrev SN (B : Nat) (W w' : World) : Prop := (∀ b o, b < B → w'.cell? ⟨b, o, none⟩ = W.cell? ⟨b, o, none⟩) ∧ B ≤ w'.heap.size ∧ Nb B W w'
theorem SN.of {B : Nat} {W w' : World} (h : Nb B W w') (hB : B ≤ W.heap.size) : SN B W w' := ⟨fun b o hb => h.1.cell (p := ⟨b, o, none⟩) hb, Nat.le_trans hB h.2.1, h⟩

theorem SN.ofc {B p i : Nat} {t : TypeId} {W w' : World} {cs : Array Value} {x : Value} (h : Nb B W w') (hB : B ≤ W.heap.size) (hk : Blk W p t cs) (ht : t ≠ 5) (hx : cs[i]? = some x) : (∀ b o, b < B → w'.cell? ⟨b, o, none⟩ = W.cell? ⟨b, o, none⟩) ∧ B ≤ w'.heap.size ∧ Nb B W w' ∧ w'.cell? ⟨p, i, none⟩ = some x :=
  ⟨(SN.of h hB).1, (SN.of h hB).2.1, h, by rw [(h.2.2 p t cs ht hk).cell i, hx]⟩
theorem sz4 {a b c d : UInt8} : ByteArray.size ⟨#[a, b, c, d]⟩ = 4 := rfl
theorem sz2 {a b : UInt8} : ByteArray.size ⟨#[a, b]⟩ = 2 := rfl
theorem hasSuf_ends (l : List UInt8) : Lib.hasSuffix l [10] = endsN l := by
  unfold Lib.hasSuffix endsN
  rw [List.isSuffixOf, List.reverse_singleton, ← List.head?_reverse]
  cases l.reverse with
  | nil => rfl
  | cons a r =>
    simp only [List.isPrefixOf, List.head?_cons, Bool.and_true]
    rw [Bool.eq_iff_iff, beq_iff_eq, beq_iff_eq]
    constructor
    · intro h; rw [h]
    · intro h; injection h with h; exact h.symm
/-- Hunks behind pointers, to be read. -/
def HksRd (w : World) (A : Option Addr) (hks : List (Hk.HK ByteArray)) : Prop := ∀ i (h : i < hks.length), ∃ b o q, A = some ⟨b, o, none⟩ ∧ w.cell? ⟨b, o + i, none⟩ = some (ptrV q) ∧ HRead w q hks[i]
theorem ln_at {w : World} {L : Option Addr} {ls : List (Nat × ByteArray)} (h : RowsAt w L 2 (ls.map lnCells)) {j : Nat} (hj : j < ls.length) : ∃ b o, L = some ⟨b, o, none⟩ ∧ w.cell? ⟨b, o + j * 2, none⟩ = some (.int .i64 ls[j].1) ∧ w.cell? ⟨b, o + j * 2 + 1, none⟩ = some (.string ls[j].2) := by
  obtain ⟨b, o, e, h1⟩ := h j 0 (by simpa using hj) (by omega)
  obtain ⟨b', o', e', h2⟩ := h j 1 (by simpa using hj) (by omega)
  rw [e] at e'
  cases e'
  refine ⟨b, o, e, ?_, ?_⟩
  · rw [Nat.add_zero] at h1
    rw [h1]
    simp [List.getD_eq_getElem?_getD, List.getElem?_map, List.getElem?_eq_getElem hj, lnCells]
  · rw [← Nat.add_assoc] at h2
    rw [h2]
    simp [List.getD_eq_getElem?_getD, List.getElem?_map, List.getElem?_eq_getElem hj, lnCells]
/-- The text behind k hunks; behind j lines of the next one. -/
def preT (nf nt : List UInt8) (hks : List (Hk.HK ByteArray)) (k : Nat) : List UInt8 := uniH nf nt ++ ((hks.take k).map hkT).flatten
def preL (l : List UInt8) (ls : List (Nat × ByteArray)) (j : Nat) : List UInt8 := l ++ ((ls.take j).map lnT).flatten
theorem preT_zero (nf nt : List UInt8) (hks : List (Hk.HK ByteArray)) : preT nf nt hks 0 = uniH nf nt := by simp [preT]
theorem preT_succ (nf nt : List UInt8) {hks : List (Hk.HK ByteArray)} {k : Nat} (h : k < hks.length) : preT nf nt hks (k + 1) = preT nf nt hks k ++ hkT hks[k] := by
  unfold preT; rw [List.take_succ_eq_append_getElem h, List.map_append, List.flatten_append, List.append_assoc]; simp
theorem preL_zero (l : List UInt8) (ls : List (Nat × ByteArray)) : preL l ls 0 = l := by simp [preL]
theorem preL_succ (l : List UInt8) {ls : List (Nat × ByteArray)} {j : Nat} (h : j < ls.length) : preL l ls (j + 1) = preL l ls j ++ lnT ls[j] := by
  unfold preL; rw [List.take_succ_eq_append_getElem h, List.map_append, List.flatten_append, List.append_assoc]; simp
theorem preT_all {nf nt : List UInt8} {hks : List (Hk.HK ByteArray)} (h : hks ≠ []) : preT nf nt hks hks.length = uniT nf nt hks := by
  unfold preT uniT; rw [List.take_length, if_neg h]
theorem preL_all (l : List UInt8) (h : Hk.HK ByteArray) : preL (l ++ hdT h) h.ls h.ls.length = l ++ hkT h := by
  unfold preL hkT; rw [List.take_length, List.append_assoc]
theorem preT_len {nf nt : List UInt8} {hks : List (Hk.HK ByteArray)} (h0 : hks ≠ []) (hl : (uniT nf nt hks).length ≤ 100000000000) {k : Nat} (hk : k < hks.length) :
    (preT nf nt hks k).length + (hkT hks[k]).length ≤ 100000000000 := by
  rw [← List.length_append, ← preT_succ nf nt hk]
  refine Nat.le_trans ?_ hl
  rw [← preT_all h0]
  unfold preT
  have e : hks.map hkT = (hks.take (k + 1)).map hkT ++ (hks.drop (k + 1)).map hkT := by rw [← List.map_append, List.take_append_drop]
  rw [List.take_length, e, List.flatten_append, List.length_append, List.length_append, List.length_append]
  omega
theorem preL_len (l : List UInt8) (h : Hk.HK ByteArray) {j : Nat} (hj : j < h.ls.length) : (preL (l ++ hdT h) h.ls j).length + (lnT h.ls[j]).length ≤ l.length + (hkT h).length := by
  rw [← List.length_append, ← preL_succ _ hj, ← List.length_append, ← preL_all]
  unfold preL
  have e : h.ls.map lnT = (h.ls.take (j + 1)).map lnT ++ (h.ls.drop (j + 1)).map lnT := by rw [← List.map_append, List.take_append_drop]
  rw [List.take_length, e, List.flatten_append]
  simp only [List.length_append]
  omega
theorem cntF_succ {ls : List (Nat × ByteArray)} {j : Nat} (h : j < ls.length) : cntF (ls.take (j + 1)) = cntF (ls.take j) + (if ls[j].1 = 1 then 0 else 1) := by
  rw [List.take_succ_eq_append_getElem h]
  unfold cntF
  rw [List.filter_append, List.length_append]
  by_cases c : ls[j].1 = 1 <;> simp [c]
theorem cntT_succ {ls : List (Nat × ByteArray)} {j : Nat} (h : j < ls.length) : cntT (ls.take (j + 1)) = cntT (ls.take j) + (if ls[j].1 = 0 then 0 else 1) := by
  rw [List.take_succ_eq_append_getElem h]
  unfold cntT
  rw [List.filter_append, List.length_append]
  by_cases c : ls[j].1 = 0 <;> simp [c]

set_option maxHeartbeats 16000000 in
set_option maxRecDepth 100000 in
theorem zz_any (nf nt : ByteArray) (hks : List (Hk.HK ByteArray)) (A : Option Addr) (c : Nat) (w : World) (h0 : hks ≠ []) (h1 : nf.size ≤ 1000) (h2 : nt.size ≤ 1000) (hM : HkMore nf.data.toList nt.data.toList hks) (hR : HksRd w A hks) (hT : Tab10 w.heap.size w) :
    Calls Tryz.prog 26 #[.agg #[.string nf, .string nt, .slice A hks.length c]] w fun e w' => e = .returned (.string (toB (uniT nf.data.toList nt.data.toList hks))) ∧ Below w.heap.size w w' := by
  have hnz : ((hks.length : Int) == 0) = false := beq_eq_false_iff_ne.2 (by have := List.length_pos_iff.2 h0; omega)
  have HT := hide hT
  have HM := hide (fun (_ : World) => hM)
  have HR := hide hR
  have hn : hks.length ≤ 2000 := hM.cnt
  clear hT hM hR
  go_enter Tryz.func26, Tryz.ntmps26
  go_upto_region 4 with fail
  refine wp_gen ?_
  intro W hW
  have hB : w.heap.size + 1 ≤ W.heap.size := by rw [hW]; simp
  have hlow : Below w.heap.size w W := by rw [hW]; go_grown
  have Z0 : Hid (ZU w.heap.size w W #[.string nf, .string nt, .slice A hks.length c] (.slice none 0 0) []) := hide ⟨by rw [hW]; exact Blk.new _ _ _, Byt.nil hB, hlow, fun w' h => HT.out w' (hlow.trans (h.mono (Nat.le_succ _)))⟩
  clear hW hlow
  have f0 : W.cell? ⟨w.heap.size, 0, none⟩ = some (.string nf) := Z0.out.s.cell 0
  have f1 : W.cell? ⟨w.heap.size, 1, none⟩ = some (.string nt) := Z0.out.s.cell 1
  go_cut [3] (fun s3 wx => Byt (w.heap.size + 1) wx s3 ([45, 45, 45, 32] ++ nf.data.toList ++ [10]) ∧ Nb (w.heap.size + 1) W wx)
  case first =>
    have hv0 := Z0.out.b
    --{1
    go_region_held3 (fun w' => (∀ b o, b < w.heap.size + 1 → w'.cell? ⟨b, o, none⟩ = W.cell? ⟨b, o, none⟩) ∧ w.heap.size + 1 ≤ w'.heap.size ∧ Nb (w.heap.size + 1) W w')
      (first | (refine SN.of ?_ hB; exact (by first | assumption | exact Nb.refl _ _ | exact Nb.drew (Nb.refl _ _) | exact Nb.drew (by assumption) | exact Nb.alloc (Nb.refl _ _) (by first | assumption | omega | (simp only [World.size_alloc]; omega) | (show _ ≤ World.heap.size _; simp; omega)) _ | exact Nb.alloc (Nb.drew (Nb.refl _ _)) (by first | assumption | omega | (simp only [World.size_alloc]; omega) | (show _ ≤ World.heap.size _; simp; omega)) _ | exact Nb.drew (Nb.alloc (Nb.refl _ _) (by first | assumption | omega | (simp only [World.size_alloc]; omega) | (show _ ≤ World.heap.size _; simp; omega)) _) | exact Nb.alloc (by assumption) (by first | assumption | omega | (simp only [World.size_alloc]; omega) | (show _ ≤ World.heap.size _; simp; omega)) _ | exact Nb.alloc (Nb.drew (by assumption)) (by first | assumption | omega | (simp only [World.size_alloc]; omega) | (show _ ≤ World.heap.size _; simp; omega)) _ | exact Nb.drew (Nb.alloc (by assumption) (by first | assumption | omega | (simp only [World.size_alloc]; omega) | (show _ ≤ World.heap.size _; simp; omega)) _))))
      (first
        | (refine step_str rfl _ _ rfl (w.heap.size + 1) _ _ (by rfl) (by first | assumption | exact Byt.drew (by assumption) | exact Byt.alloc (by assumption) _ | exact Byt.alloc (Byt.drew (by assumption)) _ | exact Byt.drew (Byt.alloc (by assumption) _)) _ (by rfl) (by first | omega | (simp only [List.length_append, List.length_cons, List.length_nil, size_list, sz4, sz2] <;> omega) | (simp <;> omega)) ?_; intro v1 w1 hv1 hn1 hk1; have hz1 := hv1.2; have hN1 : Nb (w.heap.size + 1) W w1 := Nb.trans (by first | assumption | exact Nb.refl _ _ | exact Nb.drew (Nb.refl _ _) | exact Nb.drew (by assumption) | exact Nb.alloc (Nb.refl _ _) (by first | assumption | omega | (simp only [World.size_alloc]; omega) | (show _ ≤ World.heap.size _; simp; omega)) _ | exact Nb.alloc (Nb.drew (Nb.refl _ _)) (by first | assumption | omega | (simp only [World.size_alloc]; omega) | (show _ ≤ World.heap.size _; simp; omega)) _ | exact Nb.drew (Nb.alloc (Nb.refl _ _) (by first | assumption | omega | (simp only [World.size_alloc]; omega) | (show _ ≤ World.heap.size _; simp; omega)) _) | exact Nb.alloc (by assumption) (by first | assumption | omega | (simp only [World.size_alloc]; omega) | (show _ ≤ World.heap.size _; simp; omega)) _ | exact Nb.alloc (Nb.drew (by assumption)) (by first | assumption | omega | (simp only [World.size_alloc]; omega) | (show _ ≤ World.heap.size _; simp; omega)) _ | exact Nb.drew (Nb.alloc (by assumption) (by first | assumption | omega | (simp only [World.size_alloc]; omega) | (show _ ≤ World.heap.size _; simp; omega)) _)) hn1; (try have hr1 := hk1 (by first | exact Or.inl rfl | exact Or.inr (by first | omega | (simp only [List.length_append, List.length_cons, List.length_nil, size_list]; omega))) _ _ (by first | assumption | exact Blk.new _ _ _ | exact Blk.drew (Blk.new _ _ _) | exact Blk.alloc (by assumption) _)); clear hn1 hk1)
        | (refine step_one rfl _ _ rfl (w.heap.size + 1) _ _ (by rfl) (by first | assumption | exact Byt.drew (by assumption) | exact Byt.alloc (by assumption) _ | exact Byt.alloc (Byt.drew (by assumption)) _ | exact Byt.drew (Byt.alloc (by assumption) _)) _ _ 10 (by rfl) (by first | exact (Blk.cell (by assumption) 0) | (go_simp; done)) (by first | omega | (simp only [List.length_append, List.length_cons, List.length_nil, size_list, sz4, sz2] <;> omega) | (simp <;> omega)) ?_; intro v1 w1 hv1 hn1 hk1; have hz1 := hv1.2; have hN1 : Nb (w.heap.size + 1) W w1 := Nb.trans (by first | assumption | exact Nb.refl _ _ | exact Nb.drew (Nb.refl _ _) | exact Nb.drew (by assumption) | exact Nb.alloc (Nb.refl _ _) (by first | assumption | omega | (simp only [World.size_alloc]; omega) | (show _ ≤ World.heap.size _; simp; omega)) _ | exact Nb.alloc (Nb.drew (Nb.refl _ _)) (by first | assumption | omega | (simp only [World.size_alloc]; omega) | (show _ ≤ World.heap.size _; simp; omega)) _ | exact Nb.drew (Nb.alloc (Nb.refl _ _) (by first | assumption | omega | (simp only [World.size_alloc]; omega) | (show _ ≤ World.heap.size _; simp; omega)) _) | exact Nb.alloc (by assumption) (by first | assumption | omega | (simp only [World.size_alloc]; omega) | (show _ ≤ World.heap.size _; simp; omega)) _ | exact Nb.alloc (Nb.drew (by assumption)) (by first | assumption | omega | (simp only [World.size_alloc]; omega) | (show _ ≤ World.heap.size _; simp; omega)) _ | exact Nb.drew (Nb.alloc (by assumption) (by first | assumption | omega | (simp only [World.size_alloc]; omega) | (show _ ≤ World.heap.size _; simp; omega)) _)) hn1; (try have hr1 := hk1 (by first | exact Or.inl rfl | exact Or.inr (by first | omega | (simp only [List.length_append, List.length_cons, List.length_nil, size_list]; omega))) _ _ (by first | assumption | exact Blk.new _ _ _ | exact Blk.drew (Blk.new _ _ _) | exact Blk.alloc (by assumption) _)); clear hn1 hk1))
    all_goals (go_wp2_with fail)
    all_goals (try go_meet)
    all_goals exact ⟨by simpa using hv1, hN1⟩
    --}1
  case rest =>
    obtain ⟨hb, hn⟩ := hcut
    have Z1 := hide (Z0.out.nb hb hn)
    clear Z0 hb hn f0 f1 hB
    obtain ⟨W1, hW1⟩ : ∃ W1, W1 = wc := ⟨_, rfl⟩
    subst hW1
    have hB : w.heap.size + 1 ≤ W1.heap.size := Z1.out.b.2
    have f0 : W1.cell? ⟨w.heap.size, 0, none⟩ = some (.string nf) := Z1.out.s.cell 0
    have f1 : W1.cell? ⟨w.heap.size, 1, none⟩ = some (.string nt) := Z1.out.s.cell 1
    have hv0 := Z1.out.b
    go_upto_region 5 with fail
    go_cut [3] (fun s4 wy => Byt (w.heap.size + 1) wy s4 (uniH nf.data.toList nt.data.toList) ∧ Nb (w.heap.size + 1) W1 wy)
    case first =>
      --{1
      go_region_held3 (fun w' => (∀ b o, b < w.heap.size + 1 → w'.cell? ⟨b, o, none⟩ = W1.cell? ⟨b, o, none⟩) ∧ w.heap.size + 1 ≤ w'.heap.size ∧ Nb (w.heap.size + 1) W1 w')
        (first | (refine SN.of ?_ hB; exact (by first | assumption | exact Nb.refl _ _ | exact Nb.drew (Nb.refl _ _) | exact Nb.drew (by assumption) | exact Nb.alloc (Nb.refl _ _) (by first | assumption | omega | (simp only [World.size_alloc]; omega) | (show _ ≤ World.heap.size _; simp; omega)) _ | exact Nb.alloc (Nb.drew (Nb.refl _ _)) (by first | assumption | omega | (simp only [World.size_alloc]; omega) | (show _ ≤ World.heap.size _; simp; omega)) _ | exact Nb.drew (Nb.alloc (Nb.refl _ _) (by first | assumption | omega | (simp only [World.size_alloc]; omega) | (show _ ≤ World.heap.size _; simp; omega)) _) | exact Nb.alloc (by assumption) (by first | assumption | omega | (simp only [World.size_alloc]; omega) | (show _ ≤ World.heap.size _; simp; omega)) _ | exact Nb.alloc (Nb.drew (by assumption)) (by first | assumption | omega | (simp only [World.size_alloc]; omega) | (show _ ≤ World.heap.size _; simp; omega)) _ | exact Nb.drew (Nb.alloc (by assumption) (by first | assumption | omega | (simp only [World.size_alloc]; omega) | (show _ ≤ World.heap.size _; simp; omega)) _))))
        (first
          | (refine step_str rfl _ _ rfl (w.heap.size + 1) _ _ (by rfl) (by first | assumption | exact Byt.drew (by assumption) | exact Byt.alloc (by assumption) _ | exact Byt.alloc (Byt.drew (by assumption)) _ | exact Byt.drew (Byt.alloc (by assumption) _)) _ (by rfl) (by first | omega | (simp only [List.length_append, List.length_cons, List.length_nil, size_list, sz4, sz2] <;> omega) | (simp <;> omega)) ?_; intro v1 w1 hv1 hn1 hk1; have hz1 := hv1.2; have hN1 : Nb (w.heap.size + 1) W1 w1 := Nb.trans (by first | assumption | exact Nb.refl _ _ | exact Nb.drew (Nb.refl _ _) | exact Nb.drew (by assumption) | exact Nb.alloc (Nb.refl _ _) (by first | assumption | omega | (simp only [World.size_alloc]; omega) | (show _ ≤ World.heap.size _; simp; omega)) _ | exact Nb.alloc (Nb.drew (Nb.refl _ _)) (by first | assumption | omega | (simp only [World.size_alloc]; omega) | (show _ ≤ World.heap.size _; simp; omega)) _ | exact Nb.drew (Nb.alloc (Nb.refl _ _) (by first | assumption | omega | (simp only [World.size_alloc]; omega) | (show _ ≤ World.heap.size _; simp; omega)) _) | exact Nb.alloc (by assumption) (by first | assumption | omega | (simp only [World.size_alloc]; omega) | (show _ ≤ World.heap.size _; simp; omega)) _ | exact Nb.alloc (Nb.drew (by assumption)) (by first | assumption | omega | (simp only [World.size_alloc]; omega) | (show _ ≤ World.heap.size _; simp; omega)) _ | exact Nb.drew (Nb.alloc (by assumption) (by first | assumption | omega | (simp only [World.size_alloc]; omega) | (show _ ≤ World.heap.size _; simp; omega)) _)) hn1; (try have hr1 := hk1 (by first | exact Or.inl rfl | exact Or.inr (by first | omega | (simp only [List.length_append, List.length_cons, List.length_nil, size_list]; omega))) _ _ (by first | assumption | exact Blk.new _ _ _ | exact Blk.drew (Blk.new _ _ _) | exact Blk.alloc (by assumption) _)); clear hn1 hk1)
          | (refine step_one rfl _ _ rfl (w.heap.size + 1) _ _ (by rfl) (by first | assumption | exact Byt.drew (by assumption) | exact Byt.alloc (by assumption) _ | exact Byt.alloc (Byt.drew (by assumption)) _ | exact Byt.drew (Byt.alloc (by assumption) _)) _ _ 10 (by rfl) (by first | exact (Blk.cell (by assumption) 0) | (go_simp; done)) (by first | omega | (simp only [List.length_append, List.length_cons, List.length_nil, size_list, sz4, sz2] <;> omega) | (simp <;> omega)) ?_; intro v1 w1 hv1 hn1 hk1; have hz1 := hv1.2; have hN1 : Nb (w.heap.size + 1) W1 w1 := Nb.trans (by first | assumption | exact Nb.refl _ _ | exact Nb.drew (Nb.refl _ _) | exact Nb.drew (by assumption) | exact Nb.alloc (Nb.refl _ _) (by first | assumption | omega | (simp only [World.size_alloc]; omega) | (show _ ≤ World.heap.size _; simp; omega)) _ | exact Nb.alloc (Nb.drew (Nb.refl _ _)) (by first | assumption | omega | (simp only [World.size_alloc]; omega) | (show _ ≤ World.heap.size _; simp; omega)) _ | exact Nb.drew (Nb.alloc (Nb.refl _ _) (by first | assumption | omega | (simp only [World.size_alloc]; omega) | (show _ ≤ World.heap.size _; simp; omega)) _) | exact Nb.alloc (by assumption) (by first | assumption | omega | (simp only [World.size_alloc]; omega) | (show _ ≤ World.heap.size _; simp; omega)) _ | exact Nb.alloc (Nb.drew (by assumption)) (by first | assumption | omega | (simp only [World.size_alloc]; omega) | (show _ ≤ World.heap.size _; simp; omega)) _ | exact Nb.drew (Nb.alloc (by assumption) (by first | assumption | omega | (simp only [World.size_alloc]; omega) | (show _ ≤ World.heap.size _; simp; omega)) _)) hn1; (try have hr1 := hk1 (by first | exact Or.inl rfl | exact Or.inr (by first | omega | (simp only [List.length_append, List.length_cons, List.length_nil, size_list]; omega))) _ _ (by first | assumption | exact Blk.new _ _ _ | exact Blk.drew (Blk.new _ _ _) | exact Blk.alloc (by assumption) _)); clear hn1 hk1))
      all_goals (go_wp2_with fail)
      all_goals (try go_meet)
      all_goals exact ⟨by unfold uniH; simpa [List.append_assoc] using hv1, hN1⟩
      --}1
    case rest =>
      obtain ⟨hb, hn⟩ := hcut
      have Z2 := hide (Z1.out.nb hb hn)
      clear Z1 hb hn f0 f1 hB hv0
      obtain ⟨W2, hW2⟩ : ∃ W2, W2 = wc := ⟨_, rfl⟩
      subst hW2
      have f2 : W2.cell? ⟨w.heap.size, 2, none⟩ = some (.slice A hks.length c) := Z2.out.s.cell 2
      go_wp2_with fail
      go_loopw [3, 33] (fun sv iv wr => ∃ k : Nat, iv = .int .i64 k ∧ k ≤ hks.length ∧ Hid (ZU w.heap.size w wr #[.string nf, .string nt, .slice A hks.length c] sv (preT nf.data.toList nt.data.toList hks k))) (fun _ iv _ => hks.length - (intOf iv).toNat)
      case atStart => exact ⟨0, rfl, Nat.zero_le _, hide (by rw [preT_zero]; exact Z2.out)⟩
      case round =>
        obtain ⟨k, rfl, hk, hz⟩ := hrel
        clear Z2 f2
        by_cases hlt : k < hks.length
        · obtain ⟨b, o, q, rfl, hcell, L, cL, hQ, hrows⟩ := HR.out k hlt
          have hl := hz.out.low
          have hc1 : wr.cell? ⟨b, o + k, none⟩ = some (ptrV q) := (hl.cell (p := ⟨b, o + k, none⟩) (lt_of_cell hcell)).trans hcell
          have kq := hQ.below hl hQ.lt
          have fq := kq.three
          have KQ := hide (fun (_ : World) => hQ)
          clear kq
          have HRW := hide hrows
          have hM := HM.out w
          have HLen := hide (fun (_ : World) => preT_len h0 hM.len hlt)
          obtain ⟨g1, g2, g3, g4, g5, g6⟩ := hM.num hks[k] (List.getElem_mem _)
          have HKind := hide (hM.kind hks[k] (List.getElem_mem _))
          have HNext := hide (fun (_ : World) => preT_succ nf.data.toList nt.data.toList hlt)
          obtain ⟨h, hh⟩ : ∃ h, hks[k] = h := ⟨_, rfl⟩
          simp only [hh] at fq KQ HRW HLen g1 g2 g3 g4 g5 g6 HKind HNext
          clear hl hcell hQ hrows hM hh
          obtain ⟨F, hF⟩ := Int.eq_ofNat_of_zero_le (show 0 ≤ h.f by omega)
          obtain ⟨G, hG⟩ := Int.eq_ofNat_of_zero_le (show 0 ≤ h.g by omega)
          have EF := hide (fun (_ : World) => hF)
          have EG := hide (fun (_ : World) => hG)
          rw [hF, hG] at fq KQ
          rw [hF] at g1 g2
          rw [hG] at g3 g4
          clear hF hG
          have nF : F ≤ 1000000000 := by omega
          have nG : G ≤ 1000000000 := by omega
          clear g1 g2 g3 g4
          have hll : h.ls.length ≤ 100000000000 := by
            have h1 := HLen.out w
            have h2 := preL_all [] h
            have h3 : h.ls.length ≤ (preL ([] ++ hdT h) h.ls h.ls.length).length := by
              unfold preL
              rw [List.take_length, List.length_append]
              have : ∀ l : List (Nat × ByteArray), l.length ≤ ((l.map lnT).flatten).length := by
                intro l
                induction l with
                | nil => simp
                | cons a r ih => rw [List.map_cons, List.flatten_cons, List.length_append, List.length_cons]; have hla : 1 ≤ (lnT a).length := (by unfold lnT; simp); omega
              have := this h.ls
              omega
            rw [h2, List.nil_append] at h3
            omega
          go_wp2_with fail
          go_loopw [6, 7, 42] (fun fv tv jv wr2 => ∃ j : Nat, jv = .int .i64 j ∧ j ≤ h.ls.length ∧ fv = .int .i64 (cntF (h.ls.take j)) ∧ tv = .int .i64 (cntT (h.ls.take j)) ∧ Hid (ZU w.heap.size w wr2 #[.string nf, .string nt, .slice (some ⟨b, o, none⟩) hks.length c] u3 (preT nf.data.toList nt.data.toList hks k))) (fun _ _ jv _ => h.ls.length - (intOf jv).toNat)
          case atStart => exact ⟨0, rfl, Nat.zero_le _, by simp [cntF], by simp [cntT], hz⟩
          case round =>
            obtain ⟨j, rfl, hj, rfl, rfl, hz2⟩ := hrel
            clear hz hc1 fq
            by_cases hjl : j < h.ls.length
            · obtain ⟨b2, o2, rfl, hk1, hk2⟩ := ln_at HRW.out hjl
              have hl := hz2.out.low
              have hd1 := (hl.cell (p := ⟨b2, o2 + j * 2, none⟩) (lt_of_cell hk1)).trans hk1
              have hd2 := (hl.cell (p := ⟨b2, o2 + j * 2 + 1, none⟩) (lt_of_cell hk2)).trans hk2
              have hB : w.heap.size + 1 ≤ wr.heap.size := hz2.out.b.2
              have HZ3 : Hid (∀ (_ : World), ZU w.heap.size w (wr.alloc (.cells #[.int .i64 h.ls[j].1, .string h.ls[j].2] 63)) #[.string nf, .string nt, .slice (some ⟨b, o, none⟩) hks.length c] u3 (preT nf.data.toList nt.data.toList hks k)) := hide (fun _ => hz2.out.nb (hz2.out.b.alloc _) (Nb.alloc (Nb.refl _ _) hB _))
              have hkd := HKind.out h.ls[j] (List.getElem_mem hjl)
              have c1 := cntF_succ hjl
              have c2 := cntT_succ hjl
              have b1 : cntF (h.ls.take j) ≤ 100000000000 := Nat.le_trans (List.length_filter_le _ _) (by rw [List.length_take]; omega)
              have b2' : cntT (h.ls.take j) ≤ 100000000000 := Nat.le_trans (List.length_filter_le _ _) (by rw [List.length_take]; omega)
              clear hl hk1 hk2 hz2 hB
              generalize h.ls[j] = x at *
              obtain ⟨kd, tx⟩ := x
              dsimp only at hkd c1 c2 hd1 hd2 HZ3
              have C1 := hide (fun (_ : World) => c1)
              have C2 := hide (fun (_ : World) => c2)
              clear c1 c2
              obtain rfl | rfl | rfl : kd = 0 ∨ kd = 1 ∨ kd = 2 := by omega
              · go_wp2
                go_roundw
                case rel => exact ⟨j + 1, by go_num, by omega, by rw [C1.out w]; go_num, by rw [C2.out w]; go_num, hide (HZ3.out w)⟩
                case measure => simp [intOf]; omega
              · go_wp2
                go_roundw
                case rel => exact ⟨j + 1, by go_num, by omega, by rw [C1.out w]; go_num, by rw [C2.out w]; go_num, hide (HZ3.out w)⟩
                case measure => simp [intOf]; omega
              · go_wp2
                go_roundw
                case rel => exact ⟨j + 1, by go_num, by omega, by rw [C1.out w]; go_num, by rw [C2.out w]; go_num, hide (HZ3.out w)⟩
                case measure => simp [intOf]; omega
            · have e : j = h.ls.length := by omega
              subst e
              rw [List.take_length]
              obtain ⟨n, hcn⟩ : ∃ n, cntF h.ls = n := ⟨_, rfl⟩
              obtain ⟨m, hcm⟩ : ∃ m, cntT h.ls = m := ⟨_, rfl⟩
              rw [hcn] at g5 ⊢
              rw [hcm] at g6 ⊢
              have CN := hide (fun (_ : World) => hcn)
              have CM := hide (fun (_ : World) => hcm)
              clear hcn hcm
              obtain ⟨l0, hl0⟩ : ∃ l0, preT nf.data.toList nt.data.toList hks k = l0 := ⟨_, rfl⟩
              have EL0 := hide (fun (_ : World) => hl0)
              have hlen0 : l0.length + (hkT h).length ≤ 100000000000 := by rw [← hl0]; exact HLen.out w
              rw [hl0] at hz2
              clear hl0 HLen
              have nN : n ≤ 1000000000 := by omega
              have nM : m ≤ 1000000000 := by omega
              have eF := itoa_len F (by omega) (by omega)
              have eG := itoa_len G (by omega) (by omega)
              have eN := itoa_len n (by omega) (by omega)
              have eM := itoa_len m (by omega) (by omega)
              go_wp2_with (at_builtin; refine wpl_str rfl _ _ rfl (w.heap.size + 1) _ l0 rfl hz2.out.b ⟨#[64, 64]⟩ rfl (by rw [sz2]; omega) ?_)
              intro v4 w4 hv hn4 hkp
              have Z4 := hide (hz2.out.nb (show Byt _ _ _ (l0 ++ [64, 64]) from hv) hn4)
              clear hkp hv hn4 hz2
              obtain ⟨l1, hl1⟩ : ∃ l1, l0 ++ [64, 64] = l1 := ⟨_, rfl⟩
              have hl1' : l1.length ≤ 100000000010 := by rw [← hl1]; simp only [List.length_append, List.length_cons, List.length_nil]; omega
              have hl1q : 2 ≤ l1.length := by rw [← hl1]; simp only [List.length_append, List.length_cons, List.length_nil]; omega
              have EL1 := hide (fun (_ : World) => hl1)
              rw [hl1] at Z4
              clear hl1
              have hB : w.heap.size + 1 ≤ w4.heap.size := Z4.out.b.2
              have fq := Blk.three ((KQ.out w).below Z4.out.low (KQ.out w).lt)
              have hq1 : q < w.heap.size + 1 := by have := (KQ.out w).lt; omega
              have hv0 := Z4.out.b
              go_upto_if 64 with fail
              go_cut [3] (fun s5 wx => Byt (w.heap.size + 1) wx s5 (l1 ++ numT 45 (F : Int) n) ∧ Nb (w.heap.size + 1) w4 wx)
              case first =>
                --{2
                by_cases hc : (1 : Int) < (n : Int)
                · have hnt : numT 45 (F : Int) n = [32, 45] ++ Lib.itoa (F : Int) ++ 44 :: Lib.itoa (n : Int) := by unfold numT; rw [if_pos (by omega)]
                  have HNT := hide (fun (_ : World) => hnt)
                  clear hnt
                  go_wp2_with fail
                  go_region_held3 (fun w' => (∀ b o, b < w.heap.size + 1 → w'.cell? ⟨b, o, none⟩ = w4.cell? ⟨b, o, none⟩) ∧ w.heap.size + 1 ≤ w'.heap.size ∧ Nb (w.heap.size + 1) w4 w')
                    (first | (refine SN.of ?_ hB; exact (by first | assumption | exact Nb.refl _ _ | exact Nb.drew (Nb.refl _ _) | exact Nb.drew (by assumption) | exact Nb.alloc (Nb.refl _ _) (by first | assumption | omega | (simp only [World.size_alloc]; omega) | (show _ ≤ World.heap.size _; simp; omega)) _ | exact Nb.alloc (Nb.drew (Nb.refl _ _)) (by first | assumption | omega | (simp only [World.size_alloc]; omega) | (show _ ≤ World.heap.size _; simp; omega)) _ | exact Nb.drew (Nb.alloc (Nb.refl _ _) (by first | assumption | omega | (simp only [World.size_alloc]; omega) | (show _ ≤ World.heap.size _; simp; omega)) _) | exact Nb.alloc (by assumption) (by first | assumption | omega | (simp only [World.size_alloc]; omega) | (show _ ≤ World.heap.size _; simp; omega)) _ | exact Nb.alloc (Nb.drew (by assumption)) (by first | assumption | omega | (simp only [World.size_alloc]; omega) | (show _ ≤ World.heap.size _; simp; omega)) _ | exact Nb.drew (Nb.alloc (by assumption) (by first | assumption | omega | (simp only [World.size_alloc]; omega) | (show _ ≤ World.heap.size _; simp; omega)) _))))
                    (first
                      | (refine step_str rfl _ _ rfl (w.heap.size + 1) _ _ (by rfl) (by first | assumption | exact Byt.drew (by assumption) | exact Byt.alloc (by assumption) _ | exact Byt.alloc (Byt.drew (by assumption)) _ | exact Byt.drew (Byt.alloc (by assumption) _)) _ (by rfl) (by first | omega | (simp only [List.length_append, List.length_cons, List.length_nil, size_list, sz4, sz2] <;> omega) | (simp <;> omega)) ?_; intro v1 w1 hv1 hn1 hk1; have hz1 := hv1.2; have hN1 : Nb (w.heap.size + 1) w4 w1 := Nb.trans (by first | assumption | exact Nb.refl _ _ | exact Nb.drew (Nb.refl _ _) | exact Nb.drew (by assumption) | exact Nb.alloc (Nb.refl _ _) (by first | assumption | omega | (simp only [World.size_alloc]; omega) | (show _ ≤ World.heap.size _; simp; omega)) _ | exact Nb.alloc (Nb.drew (Nb.refl _ _)) (by first | assumption | omega | (simp only [World.size_alloc]; omega) | (show _ ≤ World.heap.size _; simp; omega)) _ | exact Nb.drew (Nb.alloc (Nb.refl _ _) (by first | assumption | omega | (simp only [World.size_alloc]; omega) | (show _ ≤ World.heap.size _; simp; omega)) _) | exact Nb.alloc (by assumption) (by first | assumption | omega | (simp only [World.size_alloc]; omega) | (show _ ≤ World.heap.size _; simp; omega)) _ | exact Nb.alloc (Nb.drew (by assumption)) (by first | assumption | omega | (simp only [World.size_alloc]; omega) | (show _ ≤ World.heap.size _; simp; omega)) _ | exact Nb.drew (Nb.alloc (by assumption) (by first | assumption | omega | (simp only [World.size_alloc]; omega) | (show _ ≤ World.heap.size _; simp; omega)) _)) hn1; (try have hr1 := hk1 (by first | exact Or.inl rfl | exact Or.inr (by first | omega | (simp only [List.length_append, List.length_cons, List.length_nil, size_list]; omega))) _ _ (by first | assumption | exact Blk.new _ _ _ | exact Blk.drew (Blk.new _ _ _) | exact Blk.alloc (by assumption) _)); clear hn1 hk1)
                      | (refine step_one rfl _ _ rfl (w.heap.size + 1) _ _ (by rfl) (by first | assumption | exact Byt.drew (by assumption) | exact Byt.alloc (by assumption) _ | exact Byt.alloc (Byt.drew (by assumption)) _ | exact Byt.drew (Byt.alloc (by assumption) _)) _ _ 44 (by rfl) (by first | exact (Blk.cell (by assumption) 0) | (go_simp; done)) (by first | omega | (simp only [List.length_append, List.length_cons, List.length_nil, size_list, sz4, sz2] <;> omega) | (simp <;> omega)) ?_; intro v1 w1 hv1 hn1 hk1; have hz1 := hv1.2; have hN1 : Nb (w.heap.size + 1) w4 w1 := Nb.trans (by first | assumption | exact Nb.refl _ _ | exact Nb.drew (Nb.refl _ _) | exact Nb.drew (by assumption) | exact Nb.alloc (Nb.refl _ _) (by first | assumption | omega | (simp only [World.size_alloc]; omega) | (show _ ≤ World.heap.size _; simp; omega)) _ | exact Nb.alloc (Nb.drew (Nb.refl _ _)) (by first | assumption | omega | (simp only [World.size_alloc]; omega) | (show _ ≤ World.heap.size _; simp; omega)) _ | exact Nb.drew (Nb.alloc (Nb.refl _ _) (by first | assumption | omega | (simp only [World.size_alloc]; omega) | (show _ ≤ World.heap.size _; simp; omega)) _) | exact Nb.alloc (by assumption) (by first | assumption | omega | (simp only [World.size_alloc]; omega) | (show _ ≤ World.heap.size _; simp; omega)) _ | exact Nb.alloc (Nb.drew (by assumption)) (by first | assumption | omega | (simp only [World.size_alloc]; omega) | (show _ ≤ World.heap.size _; simp; omega)) _ | exact Nb.drew (Nb.alloc (by assumption) (by first | assumption | omega | (simp only [World.size_alloc]; omega) | (show _ ≤ World.heap.size _; simp; omega)) _)) hn1; (try have hr1 := hk1 (by first | exact Or.inl rfl | exact Or.inr (by first | omega | (simp only [List.length_append, List.length_cons, List.length_nil, size_list]; omega))) _ _ (by first | assumption | exact Blk.new _ _ _ | exact Blk.drew (Blk.new _ _ _) | exact Blk.alloc (by assumption) _)); clear hn1 hk1)
                      | (go_at_call 53; refine (appInt_any (w.heap.size + 1) _ (by omega) _ _ _ (by first | assumption | exact Byt.drew (by assumption) | exact Byt.alloc (by assumption) _ | exact Byt.alloc (Byt.drew (by assumption)) _ | exact Byt.drew (Byt.alloc (by assumption) _)) (by first | omega | (simp only [List.length_append, List.length_cons, List.length_nil, size_list, sz4, sz2] <;> omega) | (simp <;> omega)) (Z4.out.tab.on (And.left (show Nb (w.heap.size + 1) w4 _ from (by first | assumption | exact Nb.refl _ _ | exact Nb.drew (Nb.refl _ _) | exact Nb.drew (by assumption) | exact Nb.alloc (Nb.refl _ _) (by first | assumption | omega | (simp only [World.size_alloc]; omega) | (show _ ≤ World.heap.size _; simp; omega)) _ | exact Nb.alloc (Nb.drew (Nb.refl _ _)) (by first | assumption | omega | (simp only [World.size_alloc]; omega) | (show _ ≤ World.heap.size _; simp; omega)) _ | exact Nb.drew (Nb.alloc (Nb.refl _ _) (by first | assumption | omega | (simp only [World.size_alloc]; omega) | (show _ ≤ World.heap.size _; simp; omega)) _) | exact Nb.alloc (by assumption) (by first | assumption | omega | (simp only [World.size_alloc]; omega) | (show _ ≤ World.heap.size _; simp; omega)) _ | exact Nb.alloc (Nb.drew (by assumption)) (by first | assumption | omega | (simp only [World.size_alloc]; omega) | (show _ ≤ World.heap.size _; simp; omega)) _ | exact Nb.drew (Nb.alloc (by assumption) (by first | assumption | omega | (simp only [World.size_alloc]; omega) | (show _ ≤ World.heap.size _; simp; omega)) _)))))).mono ?_; rintro e w1 ⟨v1, rfl, hv1, hn1, hk1⟩; have hz1 := hv1.2; have hN1 : Nb (w.heap.size + 1) w4 w1 := Nb.trans (by first | assumption | exact Nb.refl _ _ | exact Nb.drew (Nb.refl _ _) | exact Nb.drew (by assumption) | exact Nb.alloc (Nb.refl _ _) (by first | assumption | omega | (simp only [World.size_alloc]; omega) | (show _ ≤ World.heap.size _; simp; omega)) _ | exact Nb.alloc (Nb.drew (Nb.refl _ _)) (by first | assumption | omega | (simp only [World.size_alloc]; omega) | (show _ ≤ World.heap.size _; simp; omega)) _ | exact Nb.drew (Nb.alloc (Nb.refl _ _) (by first | assumption | omega | (simp only [World.size_alloc]; omega) | (show _ ≤ World.heap.size _; simp; omega)) _) | exact Nb.alloc (by assumption) (by first | assumption | omega | (simp only [World.size_alloc]; omega) | (show _ ≤ World.heap.size _; simp; omega)) _ | exact Nb.alloc (Nb.drew (by assumption)) (by first | assumption | omega | (simp only [World.size_alloc]; omega) | (show _ ≤ World.heap.size _; simp; omega)) _ | exact Nb.drew (Nb.alloc (by assumption) (by first | assumption | omega | (simp only [World.size_alloc]; omega) | (show _ ≤ World.heap.size _; simp; omega)) _)) hn1; (try have hr1 := hk1 (by first | exact Or.inl rfl | exact Or.inr (by first | omega | (simp only [List.length_append, List.length_cons, List.length_nil, size_list]; omega))) _ _ (by first | assumption | exact Blk.new _ _ _ | exact Blk.drew (Blk.new _ _ _) | exact Blk.alloc (by assumption) _)); clear hn1 hk1))
                  all_goals (go_wp2_with fail)
                  all_goals (try go_meet)
                  all_goals exact ⟨by rw [HNT.out w]; simpa [List.append_assoc] using hv1, hN1⟩
                · have hnt : numT 45 (F : Int) n = [32, 45] ++ Lib.itoa (F : Int) := by unfold numT; rw [if_neg (by omega), List.append_nil]
                  have HNT := hide (fun (_ : World) => hnt)
                  clear hnt
                  go_wp2_with fail
                  go_region_held3 (fun w' => (∀ b o, b < w.heap.size + 1 → w'.cell? ⟨b, o, none⟩ = w4.cell? ⟨b, o, none⟩) ∧ w.heap.size + 1 ≤ w'.heap.size ∧ Nb (w.heap.size + 1) w4 w')
                    (first | (refine SN.of ?_ hB; exact (by first | assumption | exact Nb.refl _ _ | exact Nb.drew (Nb.refl _ _) | exact Nb.drew (by assumption) | exact Nb.alloc (Nb.refl _ _) (by first | assumption | omega | (simp only [World.size_alloc]; omega) | (show _ ≤ World.heap.size _; simp; omega)) _ | exact Nb.alloc (Nb.drew (Nb.refl _ _)) (by first | assumption | omega | (simp only [World.size_alloc]; omega) | (show _ ≤ World.heap.size _; simp; omega)) _ | exact Nb.drew (Nb.alloc (Nb.refl _ _) (by first | assumption | omega | (simp only [World.size_alloc]; omega) | (show _ ≤ World.heap.size _; simp; omega)) _) | exact Nb.alloc (by assumption) (by first | assumption | omega | (simp only [World.size_alloc]; omega) | (show _ ≤ World.heap.size _; simp; omega)) _ | exact Nb.alloc (Nb.drew (by assumption)) (by first | assumption | omega | (simp only [World.size_alloc]; omega) | (show _ ≤ World.heap.size _; simp; omega)) _ | exact Nb.drew (Nb.alloc (by assumption) (by first | assumption | omega | (simp only [World.size_alloc]; omega) | (show _ ≤ World.heap.size _; simp; omega)) _))))
                    (first
                      | (refine step_str rfl _ _ rfl (w.heap.size + 1) _ _ (by rfl) (by first | assumption | exact Byt.drew (by assumption) | exact Byt.alloc (by assumption) _ | exact Byt.alloc (Byt.drew (by assumption)) _ | exact Byt.drew (Byt.alloc (by assumption) _)) _ (by rfl) (by first | omega | (simp only [List.length_append, List.length_cons, List.length_nil, size_list, sz4, sz2] <;> omega) | (simp <;> omega)) ?_; intro v1 w1 hv1 hn1 hk1; have hz1 := hv1.2; have hN1 : Nb (w.heap.size + 1) w4 w1 := Nb.trans (by first | assumption | exact Nb.refl _ _ | exact Nb.drew (Nb.refl _ _) | exact Nb.drew (by assumption) | exact Nb.alloc (Nb.refl _ _) (by first | assumption | omega | (simp only [World.size_alloc]; omega) | (show _ ≤ World.heap.size _; simp; omega)) _ | exact Nb.alloc (Nb.drew (Nb.refl _ _)) (by first | assumption | omega | (simp only [World.size_alloc]; omega) | (show _ ≤ World.heap.size _; simp; omega)) _ | exact Nb.drew (Nb.alloc (Nb.refl _ _) (by first | assumption | omega | (simp only [World.size_alloc]; omega) | (show _ ≤ World.heap.size _; simp; omega)) _) | exact Nb.alloc (by assumption) (by first | assumption | omega | (simp only [World.size_alloc]; omega) | (show _ ≤ World.heap.size _; simp; omega)) _ | exact Nb.alloc (Nb.drew (by assumption)) (by first | assumption | omega | (simp only [World.size_alloc]; omega) | (show _ ≤ World.heap.size _; simp; omega)) _ | exact Nb.drew (Nb.alloc (by assumption) (by first | assumption | omega | (simp only [World.size_alloc]; omega) | (show _ ≤ World.heap.size _; simp; omega)) _)) hn1; (try have hr1 := hk1 (by first | exact Or.inl rfl | exact Or.inr (by first | omega | (simp only [List.length_append, List.length_cons, List.length_nil, size_list]; omega))) _ _ (by first | assumption | exact Blk.new _ _ _ | exact Blk.drew (Blk.new _ _ _) | exact Blk.alloc (by assumption) _)); clear hn1 hk1)
                      | (go_at_call 53; refine (appInt_any (w.heap.size + 1) _ (by omega) _ _ _ (by first | assumption | exact Byt.drew (by assumption) | exact Byt.alloc (by assumption) _ | exact Byt.alloc (Byt.drew (by assumption)) _ | exact Byt.drew (Byt.alloc (by assumption) _)) (by first | omega | (simp only [List.length_append, List.length_cons, List.length_nil, size_list, sz4, sz2] <;> omega) | (simp <;> omega)) (Z4.out.tab.on (And.left (show Nb (w.heap.size + 1) w4 _ from (by first | assumption | exact Nb.refl _ _ | exact Nb.drew (Nb.refl _ _) | exact Nb.drew (by assumption) | exact Nb.alloc (Nb.refl _ _) (by first | assumption | omega | (simp only [World.size_alloc]; omega) | (show _ ≤ World.heap.size _; simp; omega)) _ | exact Nb.alloc (Nb.drew (Nb.refl _ _)) (by first | assumption | omega | (simp only [World.size_alloc]; omega) | (show _ ≤ World.heap.size _; simp; omega)) _ | exact Nb.drew (Nb.alloc (Nb.refl _ _) (by first | assumption | omega | (simp only [World.size_alloc]; omega) | (show _ ≤ World.heap.size _; simp; omega)) _) | exact Nb.alloc (by assumption) (by first | assumption | omega | (simp only [World.size_alloc]; omega) | (show _ ≤ World.heap.size _; simp; omega)) _ | exact Nb.alloc (Nb.drew (by assumption)) (by first | assumption | omega | (simp only [World.size_alloc]; omega) | (show _ ≤ World.heap.size _; simp; omega)) _ | exact Nb.drew (Nb.alloc (by assumption) (by first | assumption | omega | (simp only [World.size_alloc]; omega) | (show _ ≤ World.heap.size _; simp; omega)) _)))))).mono ?_; rintro e w1 ⟨v1, rfl, hv1, hn1, hk1⟩; have hz1 := hv1.2; have hN1 : Nb (w.heap.size + 1) w4 w1 := Nb.trans (by first | assumption | exact Nb.refl _ _ | exact Nb.drew (Nb.refl _ _) | exact Nb.drew (by assumption) | exact Nb.alloc (Nb.refl _ _) (by first | assumption | omega | (simp only [World.size_alloc]; omega) | (show _ ≤ World.heap.size _; simp; omega)) _ | exact Nb.alloc (Nb.drew (Nb.refl _ _)) (by first | assumption | omega | (simp only [World.size_alloc]; omega) | (show _ ≤ World.heap.size _; simp; omega)) _ | exact Nb.drew (Nb.alloc (Nb.refl _ _) (by first | assumption | omega | (simp only [World.size_alloc]; omega) | (show _ ≤ World.heap.size _; simp; omega)) _) | exact Nb.alloc (by assumption) (by first | assumption | omega | (simp only [World.size_alloc]; omega) | (show _ ≤ World.heap.size _; simp; omega)) _ | exact Nb.alloc (Nb.drew (by assumption)) (by first | assumption | omega | (simp only [World.size_alloc]; omega) | (show _ ≤ World.heap.size _; simp; omega)) _ | exact Nb.drew (Nb.alloc (by assumption) (by first | assumption | omega | (simp only [World.size_alloc]; omega) | (show _ ≤ World.heap.size _; simp; omega)) _)) hn1; (try have hr1 := hk1 (by first | exact Or.inl rfl | exact Or.inr (by first | omega | (simp only [List.length_append, List.length_cons, List.length_nil, size_list]; omega))) _ _ (by first | assumption | exact Blk.new _ _ _ | exact Blk.drew (Blk.new _ _ _) | exact Blk.alloc (by assumption) _)); clear hn1 hk1))
                  all_goals (go_wp2_with fail)
                  all_goals (try go_meet)
                  all_goals exact ⟨by rw [HNT.out w]; simpa [List.append_assoc] using hv1, hN1⟩
                --}2
              case rest =>
              obtain ⟨hb, hn'⟩ := hcut
              have Z5 := hide (Z4.out.nb hb hn')
              clear Z4 hb hn' hB fq hv0
              obtain ⟨W5, hW'⟩ : ∃ W', W' = wc := ⟨_, rfl⟩
              subst hW'
              obtain ⟨l2, hEq⟩ : ∃ x, l1 ++ numT 45 (F : Int) n = x := ⟨_, rfl⟩
              have hl2 : l2.length ≤ 100000000010 + 43 := by rw [← hEq, List.length_append]; have := numT_len 45 (F : Int) n (by omega) (by omega) (by omega); omega
              have hl2q : 2 ≤ l2.length := by rw [← hEq, List.length_append]; omega
              have El2 := hide (fun (_ : World) => hEq)
              rw [hEq] at Z5
              clear hEq
              have hB : w.heap.size + 1 ≤ W5.heap.size := Z5.out.b.2
              have fq := Blk.three ((KQ.out w).below Z5.out.low (KQ.out w).lt)
              have hv0 := Z5.out.b
              go_upto_if 84 with fail
              go_cut [3] (fun s5 wx => Byt (w.heap.size + 1) wx s5 (l2 ++ numT 43 (G : Int) m) ∧ Nb (w.heap.size + 1) W5 wx)
              case first =>
                --{3
                by_cases hc : (1 : Int) < (m : Int)
                · have hnt : numT 43 (G : Int) m = [32, 43] ++ Lib.itoa (G : Int) ++ 44 :: Lib.itoa (m : Int) := by unfold numT; rw [if_pos (by omega)]
                  have HNT := hide (fun (_ : World) => hnt)
                  clear hnt
                  go_wp2_with fail
                  go_region_held3 (fun w' => (∀ b o, b < w.heap.size + 1 → w'.cell? ⟨b, o, none⟩ = W5.cell? ⟨b, o, none⟩) ∧ w.heap.size + 1 ≤ w'.heap.size ∧ Nb (w.heap.size + 1) W5 w')
                    (first | (refine SN.of ?_ hB; exact (by first | assumption | exact Nb.refl _ _ | exact Nb.drew (Nb.refl _ _) | exact Nb.drew (by assumption) | exact Nb.alloc (Nb.refl _ _) (by first | assumption | omega | (simp only [World.size_alloc]; omega) | (show _ ≤ World.heap.size _; simp; omega)) _ | exact Nb.alloc (Nb.drew (Nb.refl _ _)) (by first | assumption | omega | (simp only [World.size_alloc]; omega) | (show _ ≤ World.heap.size _; simp; omega)) _ | exact Nb.drew (Nb.alloc (Nb.refl _ _) (by first | assumption | omega | (simp only [World.size_alloc]; omega) | (show _ ≤ World.heap.size _; simp; omega)) _) | exact Nb.alloc (by assumption) (by first | assumption | omega | (simp only [World.size_alloc]; omega) | (show _ ≤ World.heap.size _; simp; omega)) _ | exact Nb.alloc (Nb.drew (by assumption)) (by first | assumption | omega | (simp only [World.size_alloc]; omega) | (show _ ≤ World.heap.size _; simp; omega)) _ | exact Nb.drew (Nb.alloc (by assumption) (by first | assumption | omega | (simp only [World.size_alloc]; omega) | (show _ ≤ World.heap.size _; simp; omega)) _))))
                    (first
                      | (refine step_str rfl _ _ rfl (w.heap.size + 1) _ _ (by rfl) (by first | assumption | exact Byt.drew (by assumption) | exact Byt.alloc (by assumption) _ | exact Byt.alloc (Byt.drew (by assumption)) _ | exact Byt.drew (Byt.alloc (by assumption) _)) _ (by rfl) (by first | omega | (simp only [List.length_append, List.length_cons, List.length_nil, size_list, sz4, sz2] <;> omega) | (simp <;> omega)) ?_; intro v1 w1 hv1 hn1 hk1; have hz1 := hv1.2; have hN1 : Nb (w.heap.size + 1) W5 w1 := Nb.trans (by first | assumption | exact Nb.refl _ _ | exact Nb.drew (Nb.refl _ _) | exact Nb.drew (by assumption) | exact Nb.alloc (Nb.refl _ _) (by first | assumption | omega | (simp only [World.size_alloc]; omega) | (show _ ≤ World.heap.size _; simp; omega)) _ | exact Nb.alloc (Nb.drew (Nb.refl _ _)) (by first | assumption | omega | (simp only [World.size_alloc]; omega) | (show _ ≤ World.heap.size _; simp; omega)) _ | exact Nb.drew (Nb.alloc (Nb.refl _ _) (by first | assumption | omega | (simp only [World.size_alloc]; omega) | (show _ ≤ World.heap.size _; simp; omega)) _) | exact Nb.alloc (by assumption) (by first | assumption | omega | (simp only [World.size_alloc]; omega) | (show _ ≤ World.heap.size _; simp; omega)) _ | exact Nb.alloc (Nb.drew (by assumption)) (by first | assumption | omega | (simp only [World.size_alloc]; omega) | (show _ ≤ World.heap.size _; simp; omega)) _ | exact Nb.drew (Nb.alloc (by assumption) (by first | assumption | omega | (simp only [World.size_alloc]; omega) | (show _ ≤ World.heap.size _; simp; omega)) _)) hn1; (try have hr1 := hk1 (by first | exact Or.inl rfl | exact Or.inr (by first | omega | (simp only [List.length_append, List.length_cons, List.length_nil, size_list]; omega))) _ _ (by first | assumption | exact Blk.new _ _ _ | exact Blk.drew (Blk.new _ _ _) | exact Blk.alloc (by assumption) _)); clear hn1 hk1)
                      | (refine step_one rfl _ _ rfl (w.heap.size + 1) _ _ (by rfl) (by first | assumption | exact Byt.drew (by assumption) | exact Byt.alloc (by assumption) _ | exact Byt.alloc (Byt.drew (by assumption)) _ | exact Byt.drew (Byt.alloc (by assumption) _)) _ _ 44 (by rfl) (by first | exact (Blk.cell (by assumption) 0) | (go_simp; done)) (by first | omega | (simp only [List.length_append, List.length_cons, List.length_nil, size_list, sz4, sz2] <;> omega) | (simp <;> omega)) ?_; intro v1 w1 hv1 hn1 hk1; have hz1 := hv1.2; have hN1 : Nb (w.heap.size + 1) W5 w1 := Nb.trans (by first | assumption | exact Nb.refl _ _ | exact Nb.drew (Nb.refl _ _) | exact Nb.drew (by assumption) | exact Nb.alloc (Nb.refl _ _) (by first | assumption | omega | (simp only [World.size_alloc]; omega) | (show _ ≤ World.heap.size _; simp; omega)) _ | exact Nb.alloc (Nb.drew (Nb.refl _ _)) (by first | assumption | omega | (simp only [World.size_alloc]; omega) | (show _ ≤ World.heap.size _; simp; omega)) _ | exact Nb.drew (Nb.alloc (Nb.refl _ _) (by first | assumption | omega | (simp only [World.size_alloc]; omega) | (show _ ≤ World.heap.size _; simp; omega)) _) | exact Nb.alloc (by assumption) (by first | assumption | omega | (simp only [World.size_alloc]; omega) | (show _ ≤ World.heap.size _; simp; omega)) _ | exact Nb.alloc (Nb.drew (by assumption)) (by first | assumption | omega | (simp only [World.size_alloc]; omega) | (show _ ≤ World.heap.size _; simp; omega)) _ | exact Nb.drew (Nb.alloc (by assumption) (by first | assumption | omega | (simp only [World.size_alloc]; omega) | (show _ ≤ World.heap.size _; simp; omega)) _)) hn1; (try have hr1 := hk1 (by first | exact Or.inl rfl | exact Or.inr (by first | omega | (simp only [List.length_append, List.length_cons, List.length_nil, size_list]; omega))) _ _ (by first | assumption | exact Blk.new _ _ _ | exact Blk.drew (Blk.new _ _ _) | exact Blk.alloc (by assumption) _)); clear hn1 hk1)
                      | (go_at_call 53; refine (appInt_any (w.heap.size + 1) _ (by omega) _ _ _ (by first | assumption | exact Byt.drew (by assumption) | exact Byt.alloc (by assumption) _ | exact Byt.alloc (Byt.drew (by assumption)) _ | exact Byt.drew (Byt.alloc (by assumption) _)) (by first | omega | (simp only [List.length_append, List.length_cons, List.length_nil, size_list, sz4, sz2] <;> omega) | (simp <;> omega)) (Z5.out.tab.on (And.left (show Nb (w.heap.size + 1) W5 _ from (by first | assumption | exact Nb.refl _ _ | exact Nb.drew (Nb.refl _ _) | exact Nb.drew (by assumption) | exact Nb.alloc (Nb.refl _ _) (by first | assumption | omega | (simp only [World.size_alloc]; omega) | (show _ ≤ World.heap.size _; simp; omega)) _ | exact Nb.alloc (Nb.drew (Nb.refl _ _)) (by first | assumption | omega | (simp only [World.size_alloc]; omega) | (show _ ≤ World.heap.size _; simp; omega)) _ | exact Nb.drew (Nb.alloc (Nb.refl _ _) (by first | assumption | omega | (simp only [World.size_alloc]; omega) | (show _ ≤ World.heap.size _; simp; omega)) _) | exact Nb.alloc (by assumption) (by first | assumption | omega | (simp only [World.size_alloc]; omega) | (show _ ≤ World.heap.size _; simp; omega)) _ | exact Nb.alloc (Nb.drew (by assumption)) (by first | assumption | omega | (simp only [World.size_alloc]; omega) | (show _ ≤ World.heap.size _; simp; omega)) _ | exact Nb.drew (Nb.alloc (by assumption) (by first | assumption | omega | (simp only [World.size_alloc]; omega) | (show _ ≤ World.heap.size _; simp; omega)) _)))))).mono ?_; rintro e w1 ⟨v1, rfl, hv1, hn1, hk1⟩; have hz1 := hv1.2; have hN1 : Nb (w.heap.size + 1) W5 w1 := Nb.trans (by first | assumption | exact Nb.refl _ _ | exact Nb.drew (Nb.refl _ _) | exact Nb.drew (by assumption) | exact Nb.alloc (Nb.refl _ _) (by first | assumption | omega | (simp only [World.size_alloc]; omega) | (show _ ≤ World.heap.size _; simp; omega)) _ | exact Nb.alloc (Nb.drew (Nb.refl _ _)) (by first | assumption | omega | (simp only [World.size_alloc]; omega) | (show _ ≤ World.heap.size _; simp; omega)) _ | exact Nb.drew (Nb.alloc (Nb.refl _ _) (by first | assumption | omega | (simp only [World.size_alloc]; omega) | (show _ ≤ World.heap.size _; simp; omega)) _) | exact Nb.alloc (by assumption) (by first | assumption | omega | (simp only [World.size_alloc]; omega) | (show _ ≤ World.heap.size _; simp; omega)) _ | exact Nb.alloc (Nb.drew (by assumption)) (by first | assumption | omega | (simp only [World.size_alloc]; omega) | (show _ ≤ World.heap.size _; simp; omega)) _ | exact Nb.drew (Nb.alloc (by assumption) (by first | assumption | omega | (simp only [World.size_alloc]; omega) | (show _ ≤ World.heap.size _; simp; omega)) _)) hn1; (try have hr1 := hk1 (by first | exact Or.inl rfl | exact Or.inr (by first | omega | (simp only [List.length_append, List.length_cons, List.length_nil, size_list]; omega))) _ _ (by first | assumption | exact Blk.new _ _ _ | exact Blk.drew (Blk.new _ _ _) | exact Blk.alloc (by assumption) _)); clear hn1 hk1))
                  all_goals (go_wp2_with fail)
                  all_goals (try go_meet)
                  all_goals exact ⟨by rw [HNT.out w]; simpa [List.append_assoc] using hv1, hN1⟩
                · have hnt : numT 43 (G : Int) m = [32, 43] ++ Lib.itoa (G : Int) := by unfold numT; rw [if_neg (by omega), List.append_nil]
                  have HNT := hide (fun (_ : World) => hnt)
                  clear hnt
                  go_wp2_with fail
                  go_region_held3 (fun w' => (∀ b o, b < w.heap.size + 1 → w'.cell? ⟨b, o, none⟩ = W5.cell? ⟨b, o, none⟩) ∧ w.heap.size + 1 ≤ w'.heap.size ∧ Nb (w.heap.size + 1) W5 w')
                    (first | (refine SN.of ?_ hB; exact (by first | assumption | exact Nb.refl _ _ | exact Nb.drew (Nb.refl _ _) | exact Nb.drew (by assumption) | exact Nb.alloc (Nb.refl _ _) (by first | assumption | omega | (simp only [World.size_alloc]; omega) | (show _ ≤ World.heap.size _; simp; omega)) _ | exact Nb.alloc (Nb.drew (Nb.refl _ _)) (by first | assumption | omega | (simp only [World.size_alloc]; omega) | (show _ ≤ World.heap.size _; simp; omega)) _ | exact Nb.drew (Nb.alloc (Nb.refl _ _) (by first | assumption | omega | (simp only [World.size_alloc]; omega) | (show _ ≤ World.heap.size _; simp; omega)) _) | exact Nb.alloc (by assumption) (by first | assumption | omega | (simp only [World.size_alloc]; omega) | (show _ ≤ World.heap.size _; simp; omega)) _ | exact Nb.alloc (Nb.drew (by assumption)) (by first | assumption | omega | (simp only [World.size_alloc]; omega) | (show _ ≤ World.heap.size _; simp; omega)) _ | exact Nb.drew (Nb.alloc (by assumption) (by first | assumption | omega | (simp only [World.size_alloc]; omega) | (show _ ≤ World.heap.size _; simp; omega)) _))))
                    (first
                      | (refine step_str rfl _ _ rfl (w.heap.size + 1) _ _ (by rfl) (by first | assumption | exact Byt.drew (by assumption) | exact Byt.alloc (by assumption) _ | exact Byt.alloc (Byt.drew (by assumption)) _ | exact Byt.drew (Byt.alloc (by assumption) _)) _ (by rfl) (by first | omega | (simp only [List.length_append, List.length_cons, List.length_nil, size_list, sz4, sz2] <;> omega) | (simp <;> omega)) ?_; intro v1 w1 hv1 hn1 hk1; have hz1 := hv1.2; have hN1 : Nb (w.heap.size + 1) W5 w1 := Nb.trans (by first | assumption | exact Nb.refl _ _ | exact Nb.drew (Nb.refl _ _) | exact Nb.drew (by assumption) | exact Nb.alloc (Nb.refl _ _) (by first | assumption | omega | (simp only [World.size_alloc]; omega) | (show _ ≤ World.heap.size _; simp; omega)) _ | exact Nb.alloc (Nb.drew (Nb.refl _ _)) (by first | assumption | omega | (simp only [World.size_alloc]; omega) | (show _ ≤ World.heap.size _; simp; omega)) _ | exact Nb.drew (Nb.alloc (Nb.refl _ _) (by first | assumption | omega | (simp only [World.size_alloc]; omega) | (show _ ≤ World.heap.size _; simp; omega)) _) | exact Nb.alloc (by assumption) (by first | assumption | omega | (simp only [World.size_alloc]; omega) | (show _ ≤ World.heap.size _; simp; omega)) _ | exact Nb.alloc (Nb.drew (by assumption)) (by first | assumption | omega | (simp only [World.size_alloc]; omega) | (show _ ≤ World.heap.size _; simp; omega)) _ | exact Nb.drew (Nb.alloc (by assumption) (by first | assumption | omega | (simp only [World.size_alloc]; omega) | (show _ ≤ World.heap.size _; simp; omega)) _)) hn1; (try have hr1 := hk1 (by first | exact Or.inl rfl | exact Or.inr (by first | omega | (simp only [List.length_append, List.length_cons, List.length_nil, size_list]; omega))) _ _ (by first | assumption | exact Blk.new _ _ _ | exact Blk.drew (Blk.new _ _ _) | exact Blk.alloc (by assumption) _)); clear hn1 hk1)
                      | (go_at_call 53; refine (appInt_any (w.heap.size + 1) _ (by omega) _ _ _ (by first | assumption | exact Byt.drew (by assumption) | exact Byt.alloc (by assumption) _ | exact Byt.alloc (Byt.drew (by assumption)) _ | exact Byt.drew (Byt.alloc (by assumption) _)) (by first | omega | (simp only [List.length_append, List.length_cons, List.length_nil, size_list, sz4, sz2] <;> omega) | (simp <;> omega)) (Z5.out.tab.on (And.left (show Nb (w.heap.size + 1) W5 _ from (by first | assumption | exact Nb.refl _ _ | exact Nb.drew (Nb.refl _ _) | exact Nb.drew (by assumption) | exact Nb.alloc (Nb.refl _ _) (by first | assumption | omega | (simp only [World.size_alloc]; omega) | (show _ ≤ World.heap.size _; simp; omega)) _ | exact Nb.alloc (Nb.drew (Nb.refl _ _)) (by first | assumption | omega | (simp only [World.size_alloc]; omega) | (show _ ≤ World.heap.size _; simp; omega)) _ | exact Nb.drew (Nb.alloc (Nb.refl _ _) (by first | assumption | omega | (simp only [World.size_alloc]; omega) | (show _ ≤ World.heap.size _; simp; omega)) _) | exact Nb.alloc (by assumption) (by first | assumption | omega | (simp only [World.size_alloc]; omega) | (show _ ≤ World.heap.size _; simp; omega)) _ | exact Nb.alloc (Nb.drew (by assumption)) (by first | assumption | omega | (simp only [World.size_alloc]; omega) | (show _ ≤ World.heap.size _; simp; omega)) _ | exact Nb.drew (Nb.alloc (by assumption) (by first | assumption | omega | (simp only [World.size_alloc]; omega) | (show _ ≤ World.heap.size _; simp; omega)) _)))))).mono ?_; rintro e w1 ⟨v1, rfl, hv1, hn1, hk1⟩; have hz1 := hv1.2; have hN1 : Nb (w.heap.size + 1) W5 w1 := Nb.trans (by first | assumption | exact Nb.refl _ _ | exact Nb.drew (Nb.refl _ _) | exact Nb.drew (by assumption) | exact Nb.alloc (Nb.refl _ _) (by first | assumption | omega | (simp only [World.size_alloc]; omega) | (show _ ≤ World.heap.size _; simp; omega)) _ | exact Nb.alloc (Nb.drew (Nb.refl _ _)) (by first | assumption | omega | (simp only [World.size_alloc]; omega) | (show _ ≤ World.heap.size _; simp; omega)) _ | exact Nb.drew (Nb.alloc (Nb.refl _ _) (by first | assumption | omega | (simp only [World.size_alloc]; omega) | (show _ ≤ World.heap.size _; simp; omega)) _) | exact Nb.alloc (by assumption) (by first | assumption | omega | (simp only [World.size_alloc]; omega) | (show _ ≤ World.heap.size _; simp; omega)) _ | exact Nb.alloc (Nb.drew (by assumption)) (by first | assumption | omega | (simp only [World.size_alloc]; omega) | (show _ ≤ World.heap.size _; simp; omega)) _ | exact Nb.drew (Nb.alloc (by assumption) (by first | assumption | omega | (simp only [World.size_alloc]; omega) | (show _ ≤ World.heap.size _; simp; omega)) _)) hn1; (try have hr1 := hk1 (by first | exact Or.inl rfl | exact Or.inr (by first | omega | (simp only [List.length_append, List.length_cons, List.length_nil, size_list]; omega))) _ _ (by first | assumption | exact Blk.new _ _ _ | exact Blk.drew (Blk.new _ _ _) | exact Blk.alloc (by assumption) _)); clear hn1 hk1))
                  all_goals (go_wp2_with fail)
                  all_goals (try go_meet)
                  all_goals exact ⟨by rw [HNT.out w]; simpa [List.append_assoc] using hv1, hN1⟩
                --}3
              case rest =>
              obtain ⟨hb, hn'⟩ := hcut
              have Z6 := hide (Z5.out.nb hb hn')
              clear Z5 hb hn' hB fq hv0
              obtain ⟨W6, hW'⟩ : ∃ W', W' = wc := ⟨_, rfl⟩
              subst hW'
              obtain ⟨l3, hEq⟩ : ∃ x, l2 ++ numT 43 (G : Int) m = x := ⟨_, rfl⟩
              have hl3 : l3.length ≤ 100000000010 + 86 := by rw [← hEq, List.length_append]; have := numT_len 43 (G : Int) m (by omega) (by omega) (by omega); omega
              have hl3q : 2 ≤ l3.length := by rw [← hEq, List.length_append]; omega
              have El3 := hide (fun (_ : World) => hEq)
              rw [hEq] at Z6
              clear hEq
              have fq := Blk.three ((KQ.out w).below Z6.out.low (KQ.out w).lt)
              go_wp2_with (at_builtin; refine wpl_str rfl _ _ rfl (w.heap.size + 1) _ l3 rfl Z6.out.b ⟨#[32, 64, 64, 10]⟩ rfl (by rw [sz4]; omega) ?_)
              intro v7 w7 hv hn7 hkp
              have Z7 := hide (Z6.out.nb (show Byt _ _ _ (l3 ++ [32, 64, 64, 10]) from hv) hn7)
              clear hkp hv hn7 Z6 fq
              obtain ⟨l4, hEq⟩ : ∃ x, l3 ++ [32, 64, 64, 10] = x := ⟨_, rfl⟩
              have hE4 : l4 = l0 ++ hdT h := by
                unfold hdT
                rw [EF.out w, EG.out w, CN.out w, CM.out w, ← hEq, ← El3.out w, ← El2.out w, ← EL1.out w]
                simp only [List.append_assoc]
              have hl4q : 2 ≤ l4.length := by rw [← hEq, List.length_append]; omega
              have E4 := hide (fun (_ : World) => hE4)
              rw [hEq] at Z7
              clear hEq hE4 EF EG CN CM El3 El2 EL1
              have fq := Blk.three ((KQ.out w).below Z7.out.low (KQ.out w).lt)
              go_wp2_with fail
              go_loopw [3, 110] (fun sv jv wr3 => ∃ j : Nat, jv = .int .i64 j ∧ j ≤ h.ls.length ∧ Hid (ZU w.heap.size w wr3 #[.string nf, .string nt, .slice (some ⟨b, o, none⟩) hks.length c] sv (preL l4 h.ls j))) (fun _ jv _ => h.ls.length - (intOf jv).toNat)
              case atStart => exact ⟨0, rfl, Nat.zero_le _, hide (by rw [preL_zero]; exact Z7.out)⟩
              case round =>
                obtain ⟨j, rfl, hj3, hz3⟩ := hrel
                clear Z7 fq
                by_cases hjl : j < h.ls.length
                · obtain ⟨b2, o2, rfl, hk1, hk2⟩ := ln_at HRW.out hjl
                  have hl := hz3.out.low
                  have hd1 := (hl.cell (p := ⟨b2, o2 + j * 2, none⟩) (lt_of_cell hk1)).trans hk1
                  have hd2 := (hl.cell (p := ⟨b2, o2 + j * 2 + 1, none⟩) (lt_of_cell hk2)).trans hk2
                  have hB : w.heap.size + 1 ≤ wr.heap.size := hz3.out.b.2
                  have hkd := HKind.out h.ls[j] (List.getElem_mem hjl)
                  have ps := preL_succ l4 hjl
                  have hln : (preL l4 h.ls j).length + (lnT h.ls[j]).length ≤ 100000000000 := by
                    have h1 := preL_len l0 h hjl
                    rw [← E4.out w] at h1
                    omega
                  have hp2 : 2 ≤ (preL l4 h.ls j).length := by unfold preL; rw [List.length_append]; omega
                  have htx : h.ls[j].2.size ≤ 100000000000 ∧ (preL l4 h.ls j).length ≤ 100000000000 := by
                    have : h.ls[j].2.size ≤ (lnT h.ls[j]).length := by unfold lnT; rw [List.length_cons, List.length_append, size_list]; omega
                    omega
                  clear hl hk1 hk2 hln
                  generalize h.ls[j] = x at *
                  obtain ⟨kd, tx⟩ := x
                  dsimp only at hkd hd1 hd2 htx ps
                  obtain ⟨ht1, ht2⟩ := htx
                  have ht3 : tx.data.toList.length ≤ 100000000000 := by rw [size_list]; exact ht1
                  have PS := hide (fun (_ : World) => ps)
                  clear ps
                  obtain rfl | rfl | rfl : kd = 0 ∨ kd = 1 ∨ kd = 2 := by omega
                  · go_upto_region 35 with fail
                    refine wp_gen ?_
                    intro W8 hW8
                    have kL := blk1_1 hW8
                    have hz8 : Hid (ZU w.heap.size w W8 #[.string nf, .string nt, .slice (some ⟨b, o, none⟩) hks.length c] u3 (preL l4 h.ls j)) := hide (by rw [hW8]; exact hz3.out.nb (hz3.out.b.alloc _) (Nb.alloc (Nb.refl _ _) hB _))
                    clear hW8 hz3 hB
                    have hB : w.heap.size + 1 ≤ W8.heap.size := hz8.out.b.2
                    have hv0 := hz8.out.b
                    have fL : W8.cell? ⟨wr.heap.size, 1, none⟩ = some (.string tx) := kL.cell 1
                    go_region_held3 (fun w' => (∀ b o, b < w.heap.size + 1 → w'.cell? ⟨b, o, none⟩ = W8.cell? ⟨b, o, none⟩) ∧ w.heap.size + 1 ≤ w'.heap.size ∧ Nb (w.heap.size + 1) W8 w' ∧ w'.cell? ⟨wr.heap.size, 1, none⟩ = some (.string tx))
                      (first | (refine SN.ofc ?_ hB kL (by decide) rfl; exact (by first | assumption | exact Nb.refl _ _ | exact Nb.drew (Nb.refl _ _) | exact Nb.drew (by assumption) | exact Nb.alloc (Nb.refl _ _) (by first | assumption | omega | (simp only [World.size_alloc]; omega) | (show _ ≤ World.heap.size _; simp; omega)) _ | exact Nb.alloc (Nb.drew (Nb.refl _ _)) (by first | assumption | omega | (simp only [World.size_alloc]; omega) | (show _ ≤ World.heap.size _; simp; omega)) _ | exact Nb.drew (Nb.alloc (Nb.refl _ _) (by first | assumption | omega | (simp only [World.size_alloc]; omega) | (show _ ≤ World.heap.size _; simp; omega)) _) | exact Nb.alloc (by assumption) (by first | assumption | omega | (simp only [World.size_alloc]; omega) | (show _ ≤ World.heap.size _; simp; omega)) _ | exact Nb.alloc (Nb.drew (by assumption)) (by first | assumption | omega | (simp only [World.size_alloc]; omega) | (show _ ≤ World.heap.size _; simp; omega)) _ | exact Nb.drew (Nb.alloc (by assumption) (by first | assumption | omega | (simp only [World.size_alloc]; omega) | (show _ ≤ World.heap.size _; simp; omega)) _))))
                      (first
                        | (refine step_str rfl _ _ rfl (w.heap.size + 1) _ _ (by rfl) (by first | assumption | exact Byt.drew (by assumption) | exact Byt.alloc (by assumption) _ | exact Byt.alloc (Byt.drew (by assumption)) _ | exact Byt.drew (Byt.alloc (by assumption) _)) _ (by rfl) (by first | omega | (simp only [List.length_append, List.length_cons, List.length_nil, size_list, sz4, sz2] <;> omega) | (simp <;> omega)) ?_; intro v1 w1 hv1 hn1 hk1; have hz1 := hv1.2; have hN1 : Nb (w.heap.size + 1) W8 w1 := Nb.trans (by first | assumption | exact Nb.refl _ _ | exact Nb.drew (Nb.refl _ _) | exact Nb.drew (by assumption) | exact Nb.alloc (Nb.refl _ _) (by first | assumption | omega | (simp only [World.size_alloc]; omega) | (show _ ≤ World.heap.size _; simp; omega)) _ | exact Nb.alloc (Nb.drew (Nb.refl _ _)) (by first | assumption | omega | (simp only [World.size_alloc]; omega) | (show _ ≤ World.heap.size _; simp; omega)) _ | exact Nb.drew (Nb.alloc (Nb.refl _ _) (by first | assumption | omega | (simp only [World.size_alloc]; omega) | (show _ ≤ World.heap.size _; simp; omega)) _) | exact Nb.alloc (by assumption) (by first | assumption | omega | (simp only [World.size_alloc]; omega) | (show _ ≤ World.heap.size _; simp; omega)) _ | exact Nb.alloc (Nb.drew (by assumption)) (by first | assumption | omega | (simp only [World.size_alloc]; omega) | (show _ ≤ World.heap.size _; simp; omega)) _ | exact Nb.drew (Nb.alloc (by assumption) (by first | assumption | omega | (simp only [World.size_alloc]; omega) | (show _ ≤ World.heap.size _; simp; omega)) _)) hn1; (try have hr1 := hk1 (by first | exact Or.inl rfl | exact Or.inr (by first | omega | (simp only [List.length_append, List.length_cons, List.length_nil, size_list]; omega))) _ _ (by first | assumption | exact Blk.new _ _ _ | exact Blk.drew (Blk.new _ _ _) | exact Blk.alloc (by assumption) _)); clear hn1 hk1)
                        | (refine step_one rfl _ _ rfl (w.heap.size + 1) _ _ (by rfl) (by first | assumption | exact Byt.drew (by assumption) | exact Byt.alloc (by assumption) _ | exact Byt.alloc (Byt.drew (by assumption)) _ | exact Byt.drew (Byt.alloc (by assumption) _)) _ _ 45 (by rfl) (by first | exact (Blk.cell (by assumption) 0) | (go_simp; done)) (by first | omega | (simp only [List.length_append, List.length_cons, List.length_nil, size_list, sz4, sz2] <;> omega) | (simp <;> omega)) ?_; intro v1 w1 hv1 hn1 hk1; have hz1 := hv1.2; have hN1 : Nb (w.heap.size + 1) W8 w1 := Nb.trans (by first | assumption | exact Nb.refl _ _ | exact Nb.drew (Nb.refl _ _) | exact Nb.drew (by assumption) | exact Nb.alloc (Nb.refl _ _) (by first | assumption | omega | (simp only [World.size_alloc]; omega) | (show _ ≤ World.heap.size _; simp; omega)) _ | exact Nb.alloc (Nb.drew (Nb.refl _ _)) (by first | assumption | omega | (simp only [World.size_alloc]; omega) | (show _ ≤ World.heap.size _; simp; omega)) _ | exact Nb.drew (Nb.alloc (Nb.refl _ _) (by first | assumption | omega | (simp only [World.size_alloc]; omega) | (show _ ≤ World.heap.size _; simp; omega)) _) | exact Nb.alloc (by assumption) (by first | assumption | omega | (simp only [World.size_alloc]; omega) | (show _ ≤ World.heap.size _; simp; omega)) _ | exact Nb.alloc (Nb.drew (by assumption)) (by first | assumption | omega | (simp only [World.size_alloc]; omega) | (show _ ≤ World.heap.size _; simp; omega)) _ | exact Nb.drew (Nb.alloc (by assumption) (by first | assumption | omega | (simp only [World.size_alloc]; omega) | (show _ ≤ World.heap.size _; simp; omega)) _)) hn1; (try have hr1 := hk1 (by first | exact Or.inl rfl | exact Or.inr (by first | omega | (simp only [List.length_append, List.length_cons, List.length_nil, size_list]; omega))) _ _ (by first | assumption | exact Blk.new _ _ _ | exact Blk.drew (Blk.new _ _ _) | exact Blk.alloc (by assumption) _)); clear hn1 hk1))
                    rename_i hHH
                    clear hHH
                    have hz9 := hide (hz8.out.nb hv1 hN1)
                    have kL' := hN1.2.2 _ _ _ (by decide) kL
                    clear fL
                    have fL : w1.cell? ⟨wr.heap.size, 1, none⟩ = some (.string tx) := kL'.cell 1
                    clear hz8 hv1 hN1 hB hv0 kL kL'
                    go_wp2_with fail
                    refine (Tryz.strings_HasSuffix tx ⟨#[10]⟩ _ (by omega)).mono ?_
                    rintro e w10 ⟨rfl, hw10⟩
                    subst w10
                    cases hsx : Lib.hasSuffix tx.data.toList [10]
                    · have HX := hide (fun (_ : World) => show lnT (0, tx) = [45] ++ tx.data.toList ++ 10 :: noNl by rw [hasSuf_ends] at hsx; unfold lnT; simp [signB, hsx])
                      go_wp2_with (at_builtin; refine wpl_str rfl _ _ rfl (w.heap.size + 1) _ (preL l4 h.ls j ++ [45] ++ tx.data.toList) rfl hz9.out.b ⟨(10 :: noNl).toArray⟩ rfl (by simp only [List.length_append, List.length_cons, List.length_nil, size_list]; show _ + 29 ≤ _; omega) ?_)
                      intro v11 w11 hv hn11 hkp
                      have hz11 := hide (hz9.out.nb hv hn11)
                      clear hkp hv hn11 hz9
                      go_wp2
                      go_roundw
                      case rel => exact ⟨j + 1, by go_num, by omega, hide (by rw [PS.out w, HX.out w]; simpa [List.append_assoc] using hz11.out)⟩
                      case measure => simp [intOf]; omega
                    · have HX := hide (fun (_ : World) => show lnT (0, tx) = [45] ++ tx.data.toList by rw [hasSuf_ends] at hsx; unfold lnT; simp [signB, hsx])
                      go_wp2
                      go_roundw
                      case rel => exact ⟨j + 1, by go_num, by omega, hide (by rw [PS.out w, HX.out w]; simpa [List.append_assoc] using hz9.out)⟩
                      case measure => simp [intOf]; omega
                  · go_upto_region 37 with fail
                    refine wp_gen ?_
                    intro W8 hW8
                    have kL := blk1_1 hW8
                    have hz8 : Hid (ZU w.heap.size w W8 #[.string nf, .string nt, .slice (some ⟨b, o, none⟩) hks.length c] u3 (preL l4 h.ls j)) := hide (by rw [hW8]; exact hz3.out.nb (hz3.out.b.alloc _) (Nb.alloc (Nb.refl _ _) hB _))
                    clear hW8 hz3 hB
                    have hB : w.heap.size + 1 ≤ W8.heap.size := hz8.out.b.2
                    have hv0 := hz8.out.b
                    have fL : W8.cell? ⟨wr.heap.size, 1, none⟩ = some (.string tx) := kL.cell 1
                    go_region_held3 (fun w' => (∀ b o, b < w.heap.size + 1 → w'.cell? ⟨b, o, none⟩ = W8.cell? ⟨b, o, none⟩) ∧ w.heap.size + 1 ≤ w'.heap.size ∧ Nb (w.heap.size + 1) W8 w' ∧ w'.cell? ⟨wr.heap.size, 1, none⟩ = some (.string tx))
                      (first | (refine SN.ofc ?_ hB kL (by decide) rfl; exact (by first | assumption | exact Nb.refl _ _ | exact Nb.drew (Nb.refl _ _) | exact Nb.drew (by assumption) | exact Nb.alloc (Nb.refl _ _) (by first | assumption | omega | (simp only [World.size_alloc]; omega) | (show _ ≤ World.heap.size _; simp; omega)) _ | exact Nb.alloc (Nb.drew (Nb.refl _ _)) (by first | assumption | omega | (simp only [World.size_alloc]; omega) | (show _ ≤ World.heap.size _; simp; omega)) _ | exact Nb.drew (Nb.alloc (Nb.refl _ _) (by first | assumption | omega | (simp only [World.size_alloc]; omega) | (show _ ≤ World.heap.size _; simp; omega)) _) | exact Nb.alloc (by assumption) (by first | assumption | omega | (simp only [World.size_alloc]; omega) | (show _ ≤ World.heap.size _; simp; omega)) _ | exact Nb.alloc (Nb.drew (by assumption)) (by first | assumption | omega | (simp only [World.size_alloc]; omega) | (show _ ≤ World.heap.size _; simp; omega)) _ | exact Nb.drew (Nb.alloc (by assumption) (by first | assumption | omega | (simp only [World.size_alloc]; omega) | (show _ ≤ World.heap.size _; simp; omega)) _))))
                      (first
                        | (refine step_str rfl _ _ rfl (w.heap.size + 1) _ _ (by rfl) (by first | assumption | exact Byt.drew (by assumption) | exact Byt.alloc (by assumption) _ | exact Byt.alloc (Byt.drew (by assumption)) _ | exact Byt.drew (Byt.alloc (by assumption) _)) _ (by rfl) (by first | omega | (simp only [List.length_append, List.length_cons, List.length_nil, size_list, sz4, sz2] <;> omega) | (simp <;> omega)) ?_; intro v1 w1 hv1 hn1 hk1; have hz1 := hv1.2; have hN1 : Nb (w.heap.size + 1) W8 w1 := Nb.trans (by first | assumption | exact Nb.refl _ _ | exact Nb.drew (Nb.refl _ _) | exact Nb.drew (by assumption) | exact Nb.alloc (Nb.refl _ _) (by first | assumption | omega | (simp only [World.size_alloc]; omega) | (show _ ≤ World.heap.size _; simp; omega)) _ | exact Nb.alloc (Nb.drew (Nb.refl _ _)) (by first | assumption | omega | (simp only [World.size_alloc]; omega) | (show _ ≤ World.heap.size _; simp; omega)) _ | exact Nb.drew (Nb.alloc (Nb.refl _ _) (by first | assumption | omega | (simp only [World.size_alloc]; omega) | (show _ ≤ World.heap.size _; simp; omega)) _) | exact Nb.alloc (by assumption) (by first | assumption | omega | (simp only [World.size_alloc]; omega) | (show _ ≤ World.heap.size _; simp; omega)) _ | exact Nb.alloc (Nb.drew (by assumption)) (by first | assumption | omega | (simp only [World.size_alloc]; omega) | (show _ ≤ World.heap.size _; simp; omega)) _ | exact Nb.drew (Nb.alloc (by assumption) (by first | assumption | omega | (simp only [World.size_alloc]; omega) | (show _ ≤ World.heap.size _; simp; omega)) _)) hn1; (try have hr1 := hk1 (by first | exact Or.inl rfl | exact Or.inr (by first | omega | (simp only [List.length_append, List.length_cons, List.length_nil, size_list]; omega))) _ _ (by first | assumption | exact Blk.new _ _ _ | exact Blk.drew (Blk.new _ _ _) | exact Blk.alloc (by assumption) _)); clear hn1 hk1)
                        | (refine step_one rfl _ _ rfl (w.heap.size + 1) _ _ (by rfl) (by first | assumption | exact Byt.drew (by assumption) | exact Byt.alloc (by assumption) _ | exact Byt.alloc (Byt.drew (by assumption)) _ | exact Byt.drew (Byt.alloc (by assumption) _)) _ _ 43 (by rfl) (by first | exact (Blk.cell (by assumption) 0) | (go_simp; done)) (by first | omega | (simp only [List.length_append, List.length_cons, List.length_nil, size_list, sz4, sz2] <;> omega) | (simp <;> omega)) ?_; intro v1 w1 hv1 hn1 hk1; have hz1 := hv1.2; have hN1 : Nb (w.heap.size + 1) W8 w1 := Nb.trans (by first | assumption | exact Nb.refl _ _ | exact Nb.drew (Nb.refl _ _) | exact Nb.drew (by assumption) | exact Nb.alloc (Nb.refl _ _) (by first | assumption | omega | (simp only [World.size_alloc]; omega) | (show _ ≤ World.heap.size _; simp; omega)) _ | exact Nb.alloc (Nb.drew (Nb.refl _ _)) (by first | assumption | omega | (simp only [World.size_alloc]; omega) | (show _ ≤ World.heap.size _; simp; omega)) _ | exact Nb.drew (Nb.alloc (Nb.refl _ _) (by first | assumption | omega | (simp only [World.size_alloc]; omega) | (show _ ≤ World.heap.size _; simp; omega)) _) | exact Nb.alloc (by assumption) (by first | assumption | omega | (simp only [World.size_alloc]; omega) | (show _ ≤ World.heap.size _; simp; omega)) _ | exact Nb.alloc (Nb.drew (by assumption)) (by first | assumption | omega | (simp only [World.size_alloc]; omega) | (show _ ≤ World.heap.size _; simp; omega)) _ | exact Nb.drew (Nb.alloc (by assumption) (by first | assumption | omega | (simp only [World.size_alloc]; omega) | (show _ ≤ World.heap.size _; simp; omega)) _)) hn1; (try have hr1 := hk1 (by first | exact Or.inl rfl | exact Or.inr (by first | omega | (simp only [List.length_append, List.length_cons, List.length_nil, size_list]; omega))) _ _ (by first | assumption | exact Blk.new _ _ _ | exact Blk.drew (Blk.new _ _ _) | exact Blk.alloc (by assumption) _)); clear hn1 hk1))
                    rename_i hHH
                    clear hHH
                    have hz9 := hide (hz8.out.nb hv1 hN1)
                    have kL' := hN1.2.2 _ _ _ (by decide) kL
                    clear fL
                    have fL : w1.cell? ⟨wr.heap.size, 1, none⟩ = some (.string tx) := kL'.cell 1
                    clear hz8 hv1 hN1 hB hv0 kL kL'
                    go_wp2_with fail
                    refine (Tryz.strings_HasSuffix tx ⟨#[10]⟩ _ (by omega)).mono ?_
                    rintro e w10 ⟨rfl, hw10⟩
                    subst w10
                    cases hsx : Lib.hasSuffix tx.data.toList [10]
                    · have HX := hide (fun (_ : World) => show lnT (1, tx) = [43] ++ tx.data.toList ++ 10 :: noNl by rw [hasSuf_ends] at hsx; unfold lnT; simp [signB, hsx])
                      go_wp2_with (at_builtin; refine wpl_str rfl _ _ rfl (w.heap.size + 1) _ (preL l4 h.ls j ++ [43] ++ tx.data.toList) rfl hz9.out.b ⟨(10 :: noNl).toArray⟩ rfl (by simp only [List.length_append, List.length_cons, List.length_nil, size_list]; show _ + 29 ≤ _; omega) ?_)
                      intro v11 w11 hv hn11 hkp
                      have hz11 := hide (hz9.out.nb hv hn11)
                      clear hkp hv hn11 hz9
                      go_wp2
                      go_roundw
                      case rel => exact ⟨j + 1, by go_num, by omega, hide (by rw [PS.out w, HX.out w]; simpa [List.append_assoc] using hz11.out)⟩
                      case measure => simp [intOf]; omega
                    · have HX := hide (fun (_ : World) => show lnT (1, tx) = [43] ++ tx.data.toList by rw [hasSuf_ends] at hsx; unfold lnT; simp [signB, hsx])
                      go_wp2
                      go_roundw
                      case rel => exact ⟨j + 1, by go_num, by omega, hide (by rw [PS.out w, HX.out w]; simpa [List.append_assoc] using hz9.out)⟩
                      case measure => simp [intOf]; omega
                  · go_upto_region 33 with fail
                    refine wp_gen ?_
                    intro W8 hW8
                    have kL := blk1_1 hW8
                    have hz8 : Hid (ZU w.heap.size w W8 #[.string nf, .string nt, .slice (some ⟨b, o, none⟩) hks.length c] u3 (preL l4 h.ls j)) := hide (by rw [hW8]; exact hz3.out.nb (hz3.out.b.alloc _) (Nb.alloc (Nb.refl _ _) hB _))
                    clear hW8 hz3 hB
                    have hB : w.heap.size + 1 ≤ W8.heap.size := hz8.out.b.2
                    have hv0 := hz8.out.b
                    have fL : W8.cell? ⟨wr.heap.size, 1, none⟩ = some (.string tx) := kL.cell 1
                    go_region_held3 (fun w' => (∀ b o, b < w.heap.size + 1 → w'.cell? ⟨b, o, none⟩ = W8.cell? ⟨b, o, none⟩) ∧ w.heap.size + 1 ≤ w'.heap.size ∧ Nb (w.heap.size + 1) W8 w' ∧ w'.cell? ⟨wr.heap.size, 1, none⟩ = some (.string tx))
                      (first | (refine SN.ofc ?_ hB kL (by decide) rfl; exact (by first | assumption | exact Nb.refl _ _ | exact Nb.drew (Nb.refl _ _) | exact Nb.drew (by assumption) | exact Nb.alloc (Nb.refl _ _) (by first | assumption | omega | (simp only [World.size_alloc]; omega) | (show _ ≤ World.heap.size _; simp; omega)) _ | exact Nb.alloc (Nb.drew (Nb.refl _ _)) (by first | assumption | omega | (simp only [World.size_alloc]; omega) | (show _ ≤ World.heap.size _; simp; omega)) _ | exact Nb.drew (Nb.alloc (Nb.refl _ _) (by first | assumption | omega | (simp only [World.size_alloc]; omega) | (show _ ≤ World.heap.size _; simp; omega)) _) | exact Nb.alloc (by assumption) (by first | assumption | omega | (simp only [World.size_alloc]; omega) | (show _ ≤ World.heap.size _; simp; omega)) _ | exact Nb.alloc (Nb.drew (by assumption)) (by first | assumption | omega | (simp only [World.size_alloc]; omega) | (show _ ≤ World.heap.size _; simp; omega)) _ | exact Nb.drew (Nb.alloc (by assumption) (by first | assumption | omega | (simp only [World.size_alloc]; omega) | (show _ ≤ World.heap.size _; simp; omega)) _))))
                      (first
                        | (refine step_str rfl _ _ rfl (w.heap.size + 1) _ _ (by rfl) (by first | assumption | exact Byt.drew (by assumption) | exact Byt.alloc (by assumption) _ | exact Byt.alloc (Byt.drew (by assumption)) _ | exact Byt.drew (Byt.alloc (by assumption) _)) _ (by rfl) (by first | omega | (simp only [List.length_append, List.length_cons, List.length_nil, size_list, sz4, sz2] <;> omega) | (simp <;> omega)) ?_; intro v1 w1 hv1 hn1 hk1; have hz1 := hv1.2; have hN1 : Nb (w.heap.size + 1) W8 w1 := Nb.trans (by first | assumption | exact Nb.refl _ _ | exact Nb.drew (Nb.refl _ _) | exact Nb.drew (by assumption) | exact Nb.alloc (Nb.refl _ _) (by first | assumption | omega | (simp only [World.size_alloc]; omega) | (show _ ≤ World.heap.size _; simp; omega)) _ | exact Nb.alloc (Nb.drew (Nb.refl _ _)) (by first | assumption | omega | (simp only [World.size_alloc]; omega) | (show _ ≤ World.heap.size _; simp; omega)) _ | exact Nb.drew (Nb.alloc (Nb.refl _ _) (by first | assumption | omega | (simp only [World.size_alloc]; omega) | (show _ ≤ World.heap.size _; simp; omega)) _) | exact Nb.alloc (by assumption) (by first | assumption | omega | (simp only [World.size_alloc]; omega) | (show _ ≤ World.heap.size _; simp; omega)) _ | exact Nb.alloc (Nb.drew (by assumption)) (by first | assumption | omega | (simp only [World.size_alloc]; omega) | (show _ ≤ World.heap.size _; simp; omega)) _ | exact Nb.drew (Nb.alloc (by assumption) (by first | assumption | omega | (simp only [World.size_alloc]; omega) | (show _ ≤ World.heap.size _; simp; omega)) _)) hn1; (try have hr1 := hk1 (by first | exact Or.inl rfl | exact Or.inr (by first | omega | (simp only [List.length_append, List.length_cons, List.length_nil, size_list]; omega))) _ _ (by first | assumption | exact Blk.new _ _ _ | exact Blk.drew (Blk.new _ _ _) | exact Blk.alloc (by assumption) _)); clear hn1 hk1)
                        | (refine step_one rfl _ _ rfl (w.heap.size + 1) _ _ (by rfl) (by first | assumption | exact Byt.drew (by assumption) | exact Byt.alloc (by assumption) _ | exact Byt.alloc (Byt.drew (by assumption)) _ | exact Byt.drew (Byt.alloc (by assumption) _)) _ _ 32 (by rfl) (by first | exact (Blk.cell (by assumption) 0) | (go_simp; done)) (by first | omega | (simp only [List.length_append, List.length_cons, List.length_nil, size_list, sz4, sz2] <;> omega) | (simp <;> omega)) ?_; intro v1 w1 hv1 hn1 hk1; have hz1 := hv1.2; have hN1 : Nb (w.heap.size + 1) W8 w1 := Nb.trans (by first | assumption | exact Nb.refl _ _ | exact Nb.drew (Nb.refl _ _) | exact Nb.drew (by assumption) | exact Nb.alloc (Nb.refl _ _) (by first | assumption | omega | (simp only [World.size_alloc]; omega) | (show _ ≤ World.heap.size _; simp; omega)) _ | exact Nb.alloc (Nb.drew (Nb.refl _ _)) (by first | assumption | omega | (simp only [World.size_alloc]; omega) | (show _ ≤ World.heap.size _; simp; omega)) _ | exact Nb.drew (Nb.alloc (Nb.refl _ _) (by first | assumption | omega | (simp only [World.size_alloc]; omega) | (show _ ≤ World.heap.size _; simp; omega)) _) | exact Nb.alloc (by assumption) (by first | assumption | omega | (simp only [World.size_alloc]; omega) | (show _ ≤ World.heap.size _; simp; omega)) _ | exact Nb.alloc (Nb.drew (by assumption)) (by first | assumption | omega | (simp only [World.size_alloc]; omega) | (show _ ≤ World.heap.size _; simp; omega)) _ | exact Nb.drew (Nb.alloc (by assumption) (by first | assumption | omega | (simp only [World.size_alloc]; omega) | (show _ ≤ World.heap.size _; simp; omega)) _)) hn1; (try have hr1 := hk1 (by first | exact Or.inl rfl | exact Or.inr (by first | omega | (simp only [List.length_append, List.length_cons, List.length_nil, size_list]; omega))) _ _ (by first | assumption | exact Blk.new _ _ _ | exact Blk.drew (Blk.new _ _ _) | exact Blk.alloc (by assumption) _)); clear hn1 hk1))
                    rename_i hHH
                    clear hHH
                    have hz9 := hide (hz8.out.nb hv1 hN1)
                    have kL' := hN1.2.2 _ _ _ (by decide) kL
                    clear fL
                    have fL : w1.cell? ⟨wr.heap.size, 1, none⟩ = some (.string tx) := kL'.cell 1
                    clear hz8 hv1 hN1 hB hv0 kL kL'
                    go_wp2_with fail
                    refine (Tryz.strings_HasSuffix tx ⟨#[10]⟩ _ (by omega)).mono ?_
                    rintro e w10 ⟨rfl, hw10⟩
                    subst w10
                    cases hsx : Lib.hasSuffix tx.data.toList [10]
                    · have HX := hide (fun (_ : World) => show lnT (2, tx) = [32] ++ tx.data.toList ++ 10 :: noNl by rw [hasSuf_ends] at hsx; unfold lnT; simp [signB, hsx])
                      go_wp2_with (at_builtin; refine wpl_str rfl _ _ rfl (w.heap.size + 1) _ (preL l4 h.ls j ++ [32] ++ tx.data.toList) rfl hz9.out.b ⟨(10 :: noNl).toArray⟩ rfl (by simp only [List.length_append, List.length_cons, List.length_nil, size_list]; show _ + 29 ≤ _; omega) ?_)
                      intro v11 w11 hv hn11 hkp
                      have hz11 := hide (hz9.out.nb hv hn11)
                      clear hkp hv hn11 hz9
                      go_wp2
                      go_roundw
                      case rel => exact ⟨j + 1, by go_num, by omega, hide (by rw [PS.out w, HX.out w]; simpa [List.append_assoc] using hz11.out)⟩
                      case measure => simp [intOf]; omega
                    · have HX := hide (fun (_ : World) => show lnT (2, tx) = [32] ++ tx.data.toList by rw [hasSuf_ends] at hsx; unfold lnT; simp [signB, hsx])
                      go_wp2
                      go_roundw
                      case rel => exact ⟨j + 1, by go_num, by omega, hide (by rw [PS.out w, HX.out w]; simpa [List.append_assoc] using hz9.out)⟩
                      case measure => simp [intOf]; omega
                · have e : j = h.ls.length := by omega
                  subst e
                  have hz4 : Hid (ZU w.heap.size w wr #[.string nf, .string nt, .slice (some ⟨b, o, none⟩) hks.length c] u3 (preT nf.data.toList nt.data.toList hks (k + 1))) := hide (by
                    have e1 := preL_all l0 h
                    rw [← E4.out w] at e1
                    rw [HNext.out w, EL0.out w, ← e1]
                    exact hz3.out)
                  clear hz3
                  go_wp2
                  go_roundw
                  case rel => exact ⟨k + 1, by go_num, by omega, hz4⟩
                  case measure => simp [intOf]; omega
        · have e : k = hks.length := by omega
          subst e
          have hz1 := hz.out
          rw [preT_all h0] at hz1
          have hz' := hide hz1
          have hpos : 0 < (uniT nf.data.toList nt.data.toList hks).length := by unfold uniT uniH; rw [if_neg h0]; simp
          have hcv := byt_string hz1.b hpos
          clear hz1 hz
          go_wp2
          go_ret
          exact ⟨rfl, hz'.out.low⟩
end Go.Proofs.YtgegialfhkgggaaGreatDoor
