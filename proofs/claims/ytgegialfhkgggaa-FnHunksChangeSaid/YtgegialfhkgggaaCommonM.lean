/- Walk: spec.Common: the length of a longest common list of lines. No condition but sizes. -/
import Derived.Test.YtgegialfhkgggaaPi
set_option linter.unusedVariables false
set_option linter.unusedSimpArgs false
namespace Go.Proofs.Ytgegialfhkgggaa
open Go.RowKit Go.Proofs.Ytgegialfhkgggaa.Lines Mye
attribute [local go_sem ↓] Go.wp_at_zero Go.wp_at_succ

/-- The row of numbers behind i lines of the one list and k of the other. -/
def rowAt (eq : Nat → Nat → Bool) (i k q : Nat) : Nat := if q ≤ k then lcs eq (i + 1) q else lcs eq i q
theorem rowAt_old (eq : Nat → Nat → Bool) (i k q : Nat) (h : k < q) : rowAt eq i k q = lcs eq i q := by unfold rowAt; rw [if_neg (by omega)]
theorem rowAt_new (eq : Nat → Nat → Bool) (i k q : Nat) (h : q ≤ k) : rowAt eq i k q = lcs eq (i + 1) q := by unfold rowAt; rw [if_pos h]
theorem rowAt_zero (eq : Nat → Nat → Bool) (i q : Nat) : rowAt eq i 0 q = lcs eq i q := by
  unfold rowAt
  by_cases h : q ≤ 0
  · have : q = 0 := by omega
    subst this; rw [if_pos h, lcs_zero_right, lcs_zero_right]
  · rw [if_neg h]
/-- The numbers in memory. -/
def NumsAt (w : World) (b n : Nat) (f : Nat → Nat) : Prop := ∀ q, q < n → w.cell? ⟨b, q, none⟩ = some (.int .i64 (f q)) ∧ w.frozen? ⟨b, q, none⟩ = false
theorem NumsAt.set {w : World} {b n : Nat} {f : Nat → Nat} (h : NumsAt w b n f) (i v : Nat) : NumsAt (w.setCell ⟨b, i, none⟩ (.int .i64 v)) b n (fun q => if q = i then v else f q) := by
  intro q hq
  refine ⟨?_, by rw [World.frozen?_setCell]; exact (h q hq).2⟩
  by_cases e : q = i
  · subst e; rw [World.cell?_setCell_same _ _ _ (h q hq).1]; simp
  · rw [World.cell?_setCell_other _ _ _ _ (by intro e2; injection e2 with _ e2; exact e e2.symm), (h q hq).1]; simp [e]
theorem lcs_le_right (eq : Nat → Nat → Bool) : ∀ i j, lcs eq i j ≤ j := by
  intro i
  induction i with
  | zero => intro j; rw [lcs_zero_left]; exact Nat.zero_le _
  | succ i ih =>
    intro j
    induction j with
    | zero => rw [lcs_zero_right]; exact Nat.le_refl _
    | succ j jh =>
      rw [lcs_succ]
      have := ih j
      have := ih (j + 1)
      split <;> omega
theorem rowAt_step (eq : Nat → Nat → Bool) (i k v : Nat) (h : v = lcs eq (i + 1) (k + 1)) : (fun q => if q = k + 1 then v else rowAt eq i k q) = rowAt eq i (k + 1) := by
  funext q
  unfold rowAt
  by_cases e : q = k + 1
  · subst e; rw [if_pos rfl, if_pos (Nat.le_refl _)]; exact h
  · rw [if_neg e]
    by_cases e2 : q ≤ k
    · rw [if_pos e2, if_pos (by omega)]
    · rw [if_neg e2, if_neg (by omega)]
theorem NumsAt.kept {w w1 : World} {b n : Nat} {f : Nat → Nat} (h : NumsAt w b n f) (hb : Below w.heap.size w w1) : NumsAt w1 b n f :=
  fun q hq => ⟨kcell hb (h q hq).1, kfrozen hb (h q hq).1 (h q hq).2⟩
theorem NumsAt.congr {w : World} {b n : Nat} {f g : Nat → Nat} (h : NumsAt w b n f) (e : ∀ q, q < n → f q = g q) : NumsAt w b n g := fun q hq => by rw [← e q hq]; exact h q hq
theorem nums_zero {wc w1 : World} {n : Nat} (hown : w1.ownsRow wc.heap.size 3 1 (.slice (some ⟨wc.heap.size, 0, none⟩) n n) n (madeCells (Value.int .i64 0).cells (n * 1)).toList) : NumsAt w1 wc.heap.size n (fun _ => 0) := by
  obtain ⟨cur, hb, hsz, hget⟩ := own_made (z := .int .i64 0) rfl hown
  intro q hq
  exact ⟨by rw [hb.cell]; exact hget q hq, hb.frozen q⟩

def CmRel (w wr : World) (N : Nat) (f : Nat → Nat) : Prop := NumsAt wr w.heap.size (N + 1) f ∧ Below w.heap.size w wr
set_option maxHeartbeats 4000000 in
set_option maxRecDepth 100000 in
theorem common_any (la lb : List ByteArray) (A B : Option Addr) (ca cb M N : Nat) (hM : la.length = M) (hN : lb.length = N) (hM1 : M ≤ 1000000) (hN1 : N ≤ 1000000) (w : World) (hA : Strs w A la) (hB : Strs w B lb) :
    Calls Try.prog 22 #[.slice A M ca, .slice B N cb] w fun e w' => e = .returned (.int .i64 (lcs (eqL la lb) M N)) ∧ Below w.heap.size w w' := by
  obtain ⟨i0, hi0, hz0, hz1, hzb⟩ := info_parts info_int
  have HA := hide hA
  have HB := hide hB
  obtain ⟨eq, he⟩ : ∃ eq, eqL la lb = eq := ⟨_, rfl⟩
  rw [he]
  have HE := hide he
  have HM := hide hM
  have HN := hide hN
  clear hA hB he hM hN
  go_enter Try.func22, Try.ntmps22
  go_wp2_with (first
    | (refine wpList_make_full _ rfl _ _ 28 rfl w.heap.size 3 i0 _ 1 Try.underlying28 hi0 hz0 hz1 .i64 .i64 _ _ (N + 1) (by rfl) (by rfl) (by omega) (by omega) (by rw [hzb]; omega) (by unfold maxLen; omega) (Nat.le_refl _) ?_; intro w1 hown1 hg1))
  have hR0 : Hid (CmRel w w1 N (lcs eq 0)) := hide ⟨(nums_zero hown1).congr (fun q _ => rfl), grown_none hg1⟩
  clear hown1 hg1
  go_loopw [18] (fun iv wr => ∃ i : Nat, iv = .int .i64 i ∧ i ≤ M ∧ Hid (CmRel w wr N (lcs eq i))) (fun iv _ => M - (intOf iv).toNat)
  case atStart => exact ⟨0, rfl, Nat.zero_le _, hR0⟩
  case round =>
    obtain ⟨i, rfl, hi, hcr⟩ := hrel
    clear hR0
    by_cases hlt : i < M
    · have hbl := hcr.out.2
      obtain ⟨ba, oa, rfl, hca⟩ := HA.out.kept hbl i (by have := HM.out; omega)
      have im : (i : Int) < (M : Int) := by omega
      obtain ⟨x, hx⟩ : ∃ x, la.getD i ByteArray.empty = x := ⟨_, rfl⟩
      rw [hx] at hca
      have HX := hide hx
      obtain ⟨wo, hwo⟩ : ∃ wo : World, wo = wr := ⟨_, rfl⟩
      subst hwo
      have HR := hide (show CmRel w wo N (rowAt eq i 0) from ⟨hcr.out.1.congr (fun q _ => (rowAt_zero eq i q).symm), hbl⟩)
      clear hx hcr
      go_wp2_with fail
      go_loopw [8, 24] (fun cv kv wr => ∃ k : Nat, kv = .int .i64 k ∧ cv = .int .i64 (lcs eq i k : Nat) ∧ k ≤ N ∧ Hid (CmRel w wr N (rowAt eq i k))) (fun _ kv _ => N - (intOf kv).toNat)
      case atStart => exact ⟨0, rfl, by rw [lcs_zero_right]; rfl, Nat.zero_le _, HR⟩
      case round =>
        obtain ⟨k, rfl, rfl, hk, hcr⟩ := hrel
        clear HR
        have hblr := hcr.out.2
        by_cases hkn : k < N
        · obtain ⟨bb, ob, rfl, hcb⟩ := HB.out.kept hblr k (by have := HN.out; omega)
          have kn : (k : Int) < (N : Int) := by omega
          obtain ⟨y, hy⟩ : ∃ y, lb.getD k ByteArray.empty = y := ⟨_, rfl⟩
          rw [hy] at hcb
          have r1 := hcr.out.1 (k + 1) (by omega)
          have r0 := hcr.out.1 k (by omega)
          have hsucc := lcs_succ (eq := eq) i k
          rw [rowAt_old _ _ _ _ (Nat.lt_succ_self k)] at r1
          rw [rowAt_new _ _ _ _ (Nat.le_refl k)] at r0
          have l1 := lcs_le_right eq i (k + 1)
          have l0 := lcs_le_right eq (i + 1) k
          have l2 := lcs_le_right eq i k
          have hStep := hide (fun (v : Nat) (hv : v = lcs eq (i + 1) (k + 1)) => (show CmRel w (wr.setCell ⟨w.heap.size, k + 1, none⟩ (.int .i64 (v : Nat))) N (rowAt eq i (k + 1)) from
            ⟨by rw [← rowAt_step eq i k v hv]; exact hcr.out.1.set (k + 1) v, hblr.setCell (Nat.le_refl _) _⟩))
          have heq : eq i k = decide (x = y) := by rw [← HE.out]; unfold eqL; rw [HX.out, hy]
          have HL := hide (show lcs eq i (k + 1) = lcs eq i (k + 1) from rfl)
          obtain ⟨a, ha⟩ : ∃ a, lcs eq i k = a := ⟨_, rfl⟩
          obtain ⟨c, hc⟩ : ∃ c, lcs eq i (k + 1) = c := ⟨_, rfl⟩
          obtain ⟨d, hd⟩ : ∃ d, lcs eq (i + 1) k = d := ⟨_, rfl⟩
          rw [ha, hc, hd] at hsucc
          rw [hc] at r1 l1
          rw [hd] at r0 l0
          rw [ha] at l2 ⊢
          have HC := hide hc
          by_cases hxy : x = y
          · rw [heq, decide_eq_true hxy, if_pos rfl] at hsucc
            have ht : (x.toList == y.toList) = true := by rw [hxy]; simp
            have HSt := hide (hStep.out (a + 1) hsucc.symm)
            clear hStep hsucc heq hxy hy ha hc hd hcr
            go_wp2
            go_roundw
            case rel => exact ⟨k + 1, by go_num, by rw [HC.out], by omega, HSt⟩
            case measure => simp [intOf]; omega
          · rw [heq, decide_eq_false hxy, if_neg (by simp)] at hsucc
            have ht : (x.toList == y.toList) = false := by rw [bytes_dec]; exact decide_eq_false hxy
            have HSt := hide (hStep.out (max c d) hsucc.symm)
            clear hStep hsucc heq hxy hy ha hc hd hcr
            by_cases hcd : c ≤ d
            · have hmx : max c d = d := Nat.max_eq_right hcd
              rw [hmx] at HSt
              have hci : (c : Int) ≤ (d : Int) := by omega
              have hm2 : max (c : Int) (d : Int) = (d : Int) := by omega
              clear hmx
              go_wp2
              go_roundw
              case rel => exact ⟨k + 1, by go_num, by rw [HC.out], by omega, HSt⟩
              case measure => simp [intOf]; omega
            · have hmx : max c d = c := Nat.max_eq_left (by omega)
              rw [hmx] at HSt
              have hci : ¬ (c : Int) ≤ (d : Int) := by omega
              have hm2 : max (c : Int) (d : Int) = (c : Int) := by omega
              clear hmx
              go_wp2
              go_roundw
              case rel => exact ⟨k + 1, by go_num, by rw [HC.out], by omega, HSt⟩
              case measure => simp [intOf]; omega
        · have : k = N := by omega
          subst this
          have HSt := hide (show CmRel w wr k (lcs eq (i + 1)) from ⟨hcr.out.1.congr (fun q hq => rowAt_new eq i k q (by omega)), hblr⟩)
          clear hcr
          go_wp2
          go_roundw
          case rel => exact ⟨i + 1, by go_num, by omega, HSt⟩
          case measure => simp [intOf]; omega
    · have : i = M := by omega
      subst this
      have r1 := (hcr.out.1 N (by omega)).1
      have hbl := hcr.out.2
      have nn : (N : Int) < (N : Int) + 1 := by omega
      obtain ⟨v, hv⟩ : ∃ v, lcs eq i N = v := ⟨_, rfl⟩
      rw [hv] at r1
      have HV := hide hv
      clear hv hcr
      go_wp2
      go_ret
      exact ⟨ret_int (by rw [HV.out]), hbl⟩
end Go.Proofs.Ytgegialfhkgggaa
