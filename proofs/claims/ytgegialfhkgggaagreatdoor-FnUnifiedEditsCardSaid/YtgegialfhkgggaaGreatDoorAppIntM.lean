/- Walks: strconv.AppendInt onto a row of bytes that the call has made, of a number from 0 on, base 10. No condition but sizes, and the table that it reads. -/
import Derived.Test.YtgegialfhkgggaaGreatDoorBytM
import Derived.Test.YtgegialfhkgggaaGreatDoorShelf
import Derived.Test.YtgegialfhkgggaaGreatDoorShelfNM
import Derived.Lib.AppendIntMem
set_option linter.unusedVariables false
set_option linter.unusedSimpArgs false
namespace Go.Proofs.YtgegialfhkgggaaGreatDoor
open Go.RowKit Go.Sort
attribute [local go_sem ↓] Go.wp_at_zero Go.wp_at_succ

/-- What it reads. -/
abbrev Tab10 (B : Nat) (w : World) : Prop := Lib.TabBelow Tryz.prog B w "internal/strconv.uint64pow10" .u64 Lib.pow10Tab
/-- What it leaves. -/
def AppI (B : Nat) (w : World) (v : Value) (l r : List UInt8) (e : Ending) (w' : World) : Prop := ∃ v', e = .returned v' ∧ Byt B w' v' (l ++ r) ∧ Nb B w w' ∧ Kp l v w w'
theorem dec_size (u : Nat) : (⟨(Lib.decDigits u).toArray⟩ : ByteArray).size = (Lib.decDigits u).length := by simp [ByteArray.size]
theorem dec_len (u : Nat) (h : u < 18446744073709551616) : (Lib.decDigits u).length ≤ 20 := by
  rw [Lib.decDigits_length]
  by_cases h1 : 1 ≤ u
  · have := Lib.numDigits_eq u h1 h; split at this <;> omega
  · rw [Lib.nDigits_small (by omega)]; omega

set_option maxHeartbeats 4000000 in
set_option maxRecDepth 100000 in
theorem appUint_small (B u : Nat) (hu : u < 100) (v : Value) (l : List UInt8) (w : World) (hv : Byt B w v l) (hlim : l.length + 20 ≤ 140737488355328) :
    Calls Tryz.prog 99 #[v, .int .u64 u, .int .i64 10] w (AppI B w v l (Lib.decDigits u)) := by
  have hl := dec_len u (by omega)
  have hz := dec_size u
  go_enter Tryz.func99, Tryz.ntmps99
  go_wp2_with (first
    | (go_at_call 110; refine (Tryz.internal_strconv_small u hu _).mono ?_; rintro e w' ⟨rfl, hw⟩; subst w')
    | (at_builtin; refine wpl_str rfl _ _ rfl B _ l rfl hv ⟨(Lib.decDigits u).toArray⟩ rfl (by omega) ?_))
  intro v' w1 q1 q2 q3
  have HF : Hid (AppI B w v l (Lib.decDigits u) (.returned v') w1) := hide ⟨v', rfl, by simpa using q1, q2, q3⟩
  clear q1 q2 q3
  go_wp2
  go_ret
  exact HF.out

set_option maxHeartbeats 8000000 in
set_option maxRecDepth 100000 in
theorem appUint_big (B u : Nat) (hu : 100 ≤ u) (hu2 : u ≤ 1000000000) (v : Value) (l : List UInt8) (w : World) (hv : Byt B w v l) (hlim : l.length + 20 ≤ 140737488355328) (hT : Lib.TabIs Tryz.prog w "internal/strconv.uint64pow10" .u64 Lib.pow10Tab) :
    Calls Tryz.prog 99 #[v, .int .u64 u, .int .i64 10] w (AppI B w v l (Lib.decDigits u)) := by
  obtain ⟨i0, hi, hz0, hz1, hz2⟩ := info_parts info_byte
  have hl := dec_len u (by omega)
  rw [Lib.decDigits_length] at hl
  have hlen : (Lib.decDigits u).length = Lib.nDigits u := Lib.decDigits_length u
  have hal : Tryz.prog.arrayLen 163 = 24 := by simp [Program.arrayLen, Tryz.underlying163]
  have hsl : ∀ W, (Instr.sliceAt 163 (.pointer (some ⟨w.heap.size, 0, none⟩)) none (some (.int .i64 (Lib.nDigits u : Int))) none).run Tryz.prog W = .ok (.slice (some ⟨w.heap.size, 0, none⟩) (Lib.nDigits u) 24) W := fun W => by
    rw [run_sliceAt_array_h W 163 ⟨w.heap.size, 0, none⟩ (by simp [Program.arrayLen, Program.elem, Tryz.underlying163]) .i64 (Lib.nDigits u : Int) (by omega) (by rw [hal]; omega)]
    go_simp
  have hH0 := Lib.holds_zero0 w 163 (Lib.nDigits u) (by omega)
  have hfmt := Tryz.internal_strconv_formatBase10 w.heap.size 0 24 u (Array.replicate (Lib.nDigits u) 0) (w.alloc (.cells Lib.zeros24 163)) hH0 (by rw [Array.size_replicate]; exact Lib.lt_pow_nDigits u) (by omega) (by rw [Array.size_replicate]; omega)
  rw [Array.size_replicate] at hfmt
  have HH0 := hide hH0
  have HV := hide hv
  have iu : (100 : Int) ≤ (u : Int) := by omega
  clear hH0 hal hv
  go_enter Tryz.func99, Tryz.ntmps99
  go_wp2_with (first
    | (go_at_call 111; refine (Tryz.internal_strconv_numDigits u (by omega) (by omega) _ (Lib.tabIs_alloc hT _)).mono ?_; rintro e w' ⟨rfl, hw⟩; subst w'))
  refine hfmt.mono ?_
  rintro e w' ⟨rfl, k, v', dk, rfl, hF⟩
  have hcells : ∀ j u', (Lib.byteCells (Lib.decDigits u))[j]? = some u' → ((putRow (fun (b : UInt8) => Value.int .u8 (b.toNat : Int)) (w.alloc (.cells Lib.zeros24 163)) w.heap.size 0 dk).drewN k).cell? ((⟨w.heap.size, 0, none⟩ : Addr).add j) = some u' := by
    intro j u' hj
    have hjl : j < (Lib.decDigits u).length := by
      have h5 := (List.getElem?_eq_some_iff.1 hj).1
      rwa [Lib.byteCells_length] at h5
    have e5 : (Lib.byteCells (Lib.decDigits u))[j]? = some (Value.int .u8 ((Lib.decDigits u)[j].toNat : Int)) := by simp [Lib.byteCells, hjl]
    rw [e5] at hj
    cases hj
    rw [Lib.row_is_numeral hF j hjl, Lib.add_plain, World.cell?_drewN]
    exact cell?_putRow (fun (b : UInt8) => Value.int .u8 (b.toNat : Int)) _ w.heap.size 0 _ dk HH0.out (by rw [hF.size, Array.size_replicate]) j (by rw [hF.size]; omega)
  obtain ⟨os, eo⟩ := Lib.fin_at w (.cells Lib.zeros24 163) dk k 0
  have hb2 : Below w.heap.size w ((putRow (fun (b : UInt8) => Value.int .u8 (b.toNat : Int)) (w.alloc (.cells Lib.zeros24 163)) w.heap.size 0 dk).drewN k) := by rw [eo]; exact Lib.below_grow w.heap.size w (Nat.le_refl _) k os
  have hbB : Below B w ((putRow (fun (b : UInt8) => Value.int .u8 (b.toNat : Int)) (w.alloc (.cells Lib.zeros24 163)) w.heap.size 0 dk).drewN k) := by rw [eo]; exact Lib.below_grow B w HV.out.2 k os
  have hv2 : Byt B ((putRow (fun (b : UInt8) => Value.int .u8 (b.toNat : Int)) (w.alloc (.cells Lib.zeros24 163)) w.heap.size 0 dk).drewN k) v l := ⟨by rw [eo]; exact Lib.ownsRow_grow HV.out.1 k os, Nat.le_trans HV.out.2 hb2.size⟩
  generalize (putRow (fun (b : UInt8) => Value.int .u8 (b.toNat : Int)) (w.alloc (.cells Lib.zeros24 163)) w.heap.size 0 dk).drewN k = W2 at hcells hb2 hbB hv2 ⊢
  have hn2 : Nb B w W2 := ⟨hbB, hb2.size, fun _ _ _ _ hk => hk.kept hb2⟩
  have hk2 : ∀ g x, Blk w g 5 #[x] → Blk W2 g 5 #[x] := fun g x hk => hk.kept hb2
  have HN2 := hide hn2
  have HK2 := hide hk2
  have HV2 := hide hv2
  clear eo HH0 hfmt hb2 hbB hn2 hk2
  go_wp2_with (at_builtin; refine wpList_append_own _ rfl _ _ 105 rfl B 5 i0 (.int .u8 0) 1 1 Tryz.underlying105 hi hz0 hz1 hz2 rfl (by decide) _ _ _ rfl HV2.out.1 ⟨w.heap.size, 0, none⟩ (Lib.nDigits u) 24 (Lib.byteCells (Lib.decDigits u)) rfl ?c0 hcells ?c2 ?c3 ?c4 ?c5 ?_)
  case c0 => rw [Lib.byteCells_length, hlen, Nat.mul_one]
  case c2 => intro u' hu'; simp only [Lib.byteCells, List.mem_map] at hu'; obtain ⟨b, _, rfl⟩ := hu'; rfl
  case c3 => unfold maxLen; omega
  case c4 => omega
  case c5 => exact HV2.out.2
  intro v2 w3 hown' hgrow _
  obtain ⟨q1, q2⟩ := byt_grown (r := Lib.decDigits u) HV2.out (by rw [hlen]; exact hown') hgrow
  have q3 := kp_grown HV2.out hgrow
  have HF : Hid (AppI B w v l (Lib.decDigits u) (.returned v2) w3) := hide ⟨v2, rfl, q1, HN2.out.trans q2, fun hl g x hk => q3 hl g x (HK2.out g x hk)⟩
  clear q1 q2 q3 hown' hgrow hcells hv2
  go_wp2
  go_ret
  exact HF.out

theorem tab_is {B : Nat} {w : World} (h : Tab10 B w) : Lib.TabIs Tryz.prog w "internal/strconv.uint64pow10" .u64 Lib.pow10Tab := h.here
set_option maxHeartbeats 4000000 in
set_option maxRecDepth 100000 in
theorem appInt_any (B u : Nat) (hu2 : u ≤ 1000000000) (v : Value) (l : List UInt8) (w : World) (hv : Byt B w v l) (hlim : l.length + 20 ≤ 140737488355328) (hT : Tab10 B w) :
    Calls Tryz.prog 53 #[v, .int .i64 u, .int .i64 10] w (AppI B w v l (Lib.itoa u)) := by
  rw [Lib.itoa_nonneg]
  have HU : Hid (∀ W, W = w → Calls Tryz.prog 99 #[v, .int .u64 u, .int .i64 10] W (AppI B W v l (Lib.decDigits u))) := hide (fun W h => by
    subst h
    by_cases h1 : u < 100
    · exact appUint_small B u h1 v l W hv hlim
    · exact appUint_big B u (by omega) hu2 v l W hv hlim hT.here)
  have hI : ∀ W, W = w → Calls Tryz.prog 83 #[v, .int .i64 u, .int .i64 10] W (AppI B W v l (Lib.decDigits u)) := fun W h => by
    subst h
    have hneg : decide ((u : Int) < 0) = false := by simp
    clear hv hT
    go_enter Tryz.func83, Tryz.ntmps83
    go_wp2_with fail
    refine (HU.out _ rfl).mono ?_
    rintro e w' ⟨v', rfl, q1, q2, q3⟩
    have HF : Hid (AppI B W v l (Lib.decDigits u) (.returned v') w') := hide ⟨v', rfl, q1, q2, q3⟩
    clear q1 q2 q3 HU
    go_wp2
    go_ret
    exact HF.out
  have HI := hide hI
  clear hI HU hv hT
  go_enter Tryz.func53, Tryz.ntmps53
  go_wp2_with fail
  refine (HI.out _ rfl).mono ?_
  rintro e w' ⟨v', rfl, q1, q2, q3⟩
  have HF : Hid (AppI B w v l (Lib.decDigits u) (.returned v') w') := hide ⟨v', rfl, q1, q2, q3⟩
  clear q1 q2 q3 HI
  go_wp2
  go_ret
  exact HF.out
end Go.Proofs.YtgegialfhkgggaaGreatDoor
