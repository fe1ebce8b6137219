/- Walks: spec.Units, utf16.RuneLen, utf16.EncodeRune, utf16.Encode. No condition but sizes. -/
import Derived.Test.YtbbdhlnldkkdbaaWide
import Derived.Test.YtbbdhlnldkkdbaaLinesW
import Derived.OwnWalk
namespace Go.Proofs.Ytbbdhlnldkkdbaa
open Go.RowKit Go.Proofs.Ytbbdhlnldkkdbaa.Lines
attribute [local go_sem ↓] Go.wp_at_zero Go.wp_at_succ

theorem drop_list (s : ByteArray) (n : Nat) : (s.extract n s.size).data.toList = s.data.toList.drop n := by
  rw [extract_list, List.take_of_length_le (by rw [List.length_drop, size_list]; omega)]
theorem list_ne {s : ByteArray} (h : ¬ s.size = 0) : s.data.toList ≠ [] := fun he => by have := size_list s; rw [he, List.length_nil] at this; omega

set_option maxHeartbeats 1000000 in
theorem units_any (s : ByteArray) (hs : s.size ≤ 2147483647) (w : World) : Calls Try.prog 32 #[.string s] w fun e w' => e = .returned (.int .i64 (units s.data.toList)) ∧ Below w.heap.size w w' := by
  have hmax := units_le _ s.data.toList (Nat.le_refl _)
  rw [size_list] at hmax
  go_enter Try.func32, Try.ntmps32
  go_wp2
  go_loopw [0, 3] (fun t out wr => ∃ (r : ByteArray) (u : Nat), t = .string r ∧ out = .int .i64 u ∧ Hid (u + units r.data.toList = units s.data.toList) ∧ u ≤ 4294967294 ∧ r.size ≤ s.size ∧ Below w.heap.size w wr) (fun t _ _ => match t with | .string r => r.size | _ => 0)
  case atStart => exact ⟨s, 0, rfl, rfl, hide (by simp), by omega, Nat.le_refl _, by go_grown⟩
  case round =>
    obtain ⟨r, u, rfl, rfl, hu, hub, hle, hbl⟩ := hrel
    have HM := hide hmax
    clear hmax
    by_cases hr : r.size = 0
    · have := string_empty hr
      subst this
      go_wp2
      go_ret
      have h := hu.out
      simp only [units_nil] at h
      exact ⟨ret_int (by omega), hbl⟩
    · have hne : r.toList.isEmpty = false := str_ne hr
      have hl := list_ne hr
      have hf := dec_fits _ hl
      rw [size_list] at hf
      have h1 := (dec_wide r.data.toList).1
      have hc := units_cons hl
      have hW := fun W => wide_any r (by omega) (by omega) W
      have hd := drop_list r (dec r.data.toList).2
      have HW := hide hW
      have HC := hide hc
      have HD := hide hd
      clear hW hc hd
      generalize hdd : dec r.data.toList = d at *
      obtain ⟨rr, n⟩ := d
      simp only at *
      have hsz : (r.extract n r.size).size < r.size := by rw [ByteArray.size_extract]; omega
      cases hq : decide (65536 ≤ rr)
      · have hu1 : unit rr = 1 := by unfold unit; rw [if_neg (by simpa using hq)]
        have hn : Hid ((u + 1) + units (r.extract n r.size).data.toList = units s.data.toList) := hide (by have := HC.out; have h2 := hu.out; rw [HD.out]; rw [this, hu1] at h2; omega)
        have hb1 : u + 1 ≤ 4294967294 := by have h2 := hn.out; have := HM.out; omega
        go_wp2_with fail
        refine (HW.out _).mono ?_
        rintro e w1 ⟨rfl, hb⟩
        have hbl1 := hbl.trans (hb.mono hbl.size)
        rw [hq]
        go_wp2
        go_roundw
        case rel => exact ⟨_, u + 1, rfl, by go_num, hn, hb1, by omega, hbl1⟩
        case measure => simpa using hsz
      · have hu1 : unit rr = 2 := by unfold unit; rw [if_pos (by simpa using hq)]
        have hn : Hid ((u + 2) + units (r.extract n r.size).data.toList = units s.data.toList) := hide (by have := HC.out; have h2 := hu.out; rw [HD.out]; rw [this, hu1] at h2; omega)
        have hb1 : u + 2 ≤ 4294967294 := by have h2 := hn.out; have := HM.out; omega
        go_wp2_with fail
        refine (HW.out _).mono ?_
        rintro e w1 ⟨rfl, hb⟩
        have hbl1 := hbl.trans (hb.mono hbl.size)
        rw [hq]
        go_wp2
        go_roundw
        case rel => exact ⟨_, u + 2, rfl, by go_num, hn, hb1, by omega, hbl1⟩
        case measure => simpa using hsz

theorem runeLen_any (r : Nat) (h : r ≤ 1114111) (hs : ¬ (55296 ≤ r ∧ r < 57344)) (w : World) : Calls Try.prog 79 #[.int .i32 r] w fun e w' => e = .returned (.int .i64 (unit r)) ∧ w = w' := by
  have g0 : decide ((0 : Int) ≤ (r : Int)) = true := by simp
  by_cases h1 : r < 55296
  · have g1 : decide ((r : Int) < 55296) = true := by simp; omega
    have hu : unit r = 1 := by unfold unit; rw [if_neg (by omega)]
    have HU := hide hu
    go_enter Try.func79, Try.ntmps79
    go_wp2
    go_ret
    exact ⟨ret_int (by rw [HU.out]; rfl), rfl⟩
  · have g1 : decide ((r : Int) < 55296) = false := by simp; omega
    have g2 : decide ((57344 : Int) ≤ (r : Int)) = true := by simp; omega
    by_cases h2 : r < 65536
    · have g3 : decide ((r : Int) < 65536) = true := by simp; omega
      have hu : unit r = 1 := by unfold unit; rw [if_neg (by omega)]
      have HU := hide hu
      go_enter Try.func79, Try.ntmps79
      go_wp2
      go_ret
      exact ⟨ret_int (by rw [HU.out]; rfl), rfl⟩
    · have g3 : decide ((r : Int) < 65536) = false := by simp; omega
      have g4 : decide ((65536 : Int) ≤ (r : Int)) = true := by simp; omega
      have g5 : decide ((r : Int) ≤ 1114111) = true := by simp; omega
      have hu : unit r = 2 := by unfold unit; rw [if_pos (by omega)]
      have HU := hide hu
      go_enter Try.func79, Try.ntmps79
      go_wp2
      go_ret
      exact ⟨ret_int (by rw [HU.out]; rfl), rfl⟩

theorem encodeRune_any (r : Nat) (h : r ≤ 1114111) (h2 : 65536 ≤ r) (w : World) : Calls Try.prog 80 #[.int .i32 r] w fun e w' => (∃ a b : Int, e = .returned (.tuple #[.int .i32 a, .int .i32 b])) ∧ w = w' := by
  have g1 : decide ((r : Int) < 65536) = false := by simp; omega
  have g2 : decide ((1114111 : Int) < (r : Int)) = false := by simp; omega
  go_enter Try.func80, Try.ntmps80
  go_wp2
  go_ret2
  exact ⟨⟨_, _, rfl⟩, rfl⟩

/-- Character k of a list. -/
def rn (rs : List Nat) (k : Nat) : Nat := rs.getD k 0
/-- The characters of a list in a block. -/
def Runes (w : World) (g : Nat) (rs : List Nat) : Prop := ∀ i, i < rs.length → w.cell? ⟨g, i, none⟩ = some (.int .i32 (rn rs i : Nat))
/-- The units of the first k characters. -/
def sumU (rs : List Nat) (k : Nat) : Nat := ((rs.take k).map unit).sum
theorem sumU_succ (rs : List Nat) (k : Nat) (h : k < rs.length) : sumU rs (k + 1) = sumU rs k + unit (rn rs k) := by
  unfold sumU rn
  rw [List.take_succ_eq_append_getElem h, List.map_append, List.sum_append, List.getD_eq_getElem?_getD, List.getElem?_eq_getElem h]
  simp
theorem unit_bd (r : Nat) : 1 ≤ unit r ∧ unit r ≤ 2 := by unfold unit; split <;> omega
theorem sumU_bd (rs : List Nat) : ∀ k, k ≤ rs.length → k ≤ sumU rs k ∧ sumU rs k ≤ 2 * k
  | 0, _ => by simp [sumU]
  | k + 1, h => by
    have ih := sumU_bd rs k (by omega)
    have := unit_bd (rn rs k)
    rw [sumU_succ rs k (by omega)]; omega
theorem sumU_mono (rs : List Nat) (k : Nat) : ∀ m, k ≤ m → m ≤ rs.length → sumU rs k ≤ sumU rs m
  | 0, h, _ => by have : k = 0 := by omega
                  subst this; exact Nat.le_refl _
  | m + 1, h, h2 => by
    by_cases he : k = m + 1
    · subst he; exact Nat.le_refl _
    · have := sumU_mono rs k m (by omega) (by omega)
      rw [sumU_succ rs m (by omega)]; omega
theorem int_eq {a b : Int} (h : a = b) : Value.int .i64 a = Value.int .i64 b := by rw [h]
theorem info_u16 : (Try.prog.info? 104).map (fun i => (i.zero, i.size, i.bytes)) = some (some (.int .u16 0), 1, 2) := by kernel_rfl
theorem own_blk {w : World} {base size n g cap : Nat} {e : TypeId} {xs : List Value} (h : w.ownsRow base e size (.slice (some ⟨g, 0, none⟩) n cap) n xs) : ∃ cur, Blk w g e cur ∧ cur.size = cap * size := by
  rcases h.2 with ⟨h1, _⟩ | ⟨g', cap', cur, h1, _, hg, _, _, hs, _⟩
  · simp at h1
  · simp at h1
    obtain ⟨rfl, rfl⟩ := h1
    exact ⟨cur, hg, hs⟩
theorem Blk.at_ {w : World} {g : Nat} {t : TypeId} {cs : Array Value} (h : Blk w g t cs) (i : Nat) (hi : i < cs.size) : ∃ v, w.cell? ⟨g, i, none⟩ = some v ∧ w.frozen? ⟨g, i, none⟩ = false := ⟨cs[i], by rw [h.cell, Array.getElem?_eq_getElem hi], h.frozen i⟩

set_option maxHeartbeats 2000000 in
set_option maxRecDepth 100000 in
theorem encode_any (g cap : Nat) (rs : List Nat) (hlen : rs.length ≤ 1073741823) (hok : ∀ r ∈ rs, r ≤ 1114111 ∧ ¬ (55296 ≤ r ∧ r < 57344)) (w : World) (hA : Runes w g rs) :
    Calls Try.prog 72 #[.slice (some ⟨g, 0, none⟩) rs.length cap] w fun e w' => (∃ A c, e = .returned (.slice A (sumU rs rs.length) c)) ∧ Below w.heap.size w w' := by
  obtain ⟨i0, hi0, hz0, hz1, hz2⟩ := info_parts info_u16
  have HA := hide hA
  have HO := hide hok
  have hN := sumU_bd rs rs.length (Nat.le_refl _)
  have HB := hide (sumU_bd rs)
  have HS := hide (sumU_succ rs)
  have HM := hide (sumU_mono rs)
  clear hA hok
  generalize hn : rs.length = n at *
  go_enter Try.func72, Try.ntmps72
  go_wp2
  go_loop [3, 15] (fun t i => ∃ k : Nat, k ≤ n ∧ i = .int .i64 k ∧ t = .int .i64 ((n : Int) + (sumU rs k : Nat) - k)) (fun _ i => n - (intOf i).toNat)
  case atStart => exact ⟨0, Nat.zero_le _, rfl, int_eq (by simp [sumU])⟩
  case round =>
    obtain ⟨k, hk, rfl, rfl⟩ := hrel
    have hb := HB.out k (by omega)
    by_cases hlt : k < n
    · have hcell := HA.out k (by omega)
      have he := HS.out k (by omega)
      cases hq : decide ((65536 : Int) ≤ ((rn rs k : Nat) : Int))
      · have hu : unit (rn rs k) = 1 := by unfold unit; rw [if_neg (by simp at hq; omega)]
        rw [hu] at he
        have HE := hide he
        clear he hu
        go_wp2
        go_round
        case rel => exact ⟨k + 1, by omega, by go_num, int_eq (by rw [HE.out]; omega)⟩
        case measure => simp [intOf]; omega
      · have hu : unit (rn rs k) = 2 := by unfold unit; rw [if_pos (by simp at hq; omega)]
        rw [hu] at he
        have HE := hide he
        clear he hu
        go_wp2
        go_round
        case rel => exact ⟨k + 1, by omega, by go_num, int_eq (by rw [HE.out]; omega)⟩
        case measure => simp [intOf]; omega
    · have : k = n := by omega
      subst this
      have hbk := HB.out k (by omega)
      go_wp2_with (first
        | (refine wpList_make_full _ rfl _ _ 94 rfl w.heap.size 104 i0 _ 1 Try.underlying94 hi0 hz0 hz1 .i64 .i64 _ _ (sumU rs k) (by rfl) (by rfl) (by omega) (by omega) (by rw [hz2]; omega) (by unfold maxLen; omega) (Nat.le_refl _) ?_; intro w1 hown hg))
      obtain ⟨cur0, hB0, hcs0⟩ := own_blk hown
      have hbl0 : Below w.heap.size w w1 := (Below.refl w.heap.size w).grown hg (Nat.le_refl _) (fun k hk => by cases hk)
      have hcs1 : cur0.size = sumU rs k := by rw [hcs0, Nat.mul_one]
      clear hown hg hcs0
      go_loopw [3, 28] (fun t i wr => ∃ j : Nat, j ≤ k ∧ i = .int .i64 j ∧ t = .int .i64 (sumU rs j : Nat) ∧ (∃ cur, Blk wr w.heap.size 104 cur ∧ cur.size = sumU rs k) ∧ Below w.heap.size w wr) (fun _ i _ => k - (intOf i).toNat)
      case atStart => exact ⟨0, Nat.zero_le _, rfl, rfl, ⟨cur0, hB0, hcs1⟩, hbl0⟩
      case round =>
        obtain ⟨j, hj, rfl, rfl, ⟨cur, hB, hcs⟩, hbl⟩ := hrel
        clear hB0 hcs1 hbl0
        by_cases hlt : j < k
        · have hcell := kcell hbl (HA.out j (by omega))
          have he := HS.out j (by omega)
          have hm := HM.out (j + 1) k (by omega) (by omega)
          have hjb := HB.out j (by omega)
          have hmem : rn rs j ∈ rs := by
            unfold rn
            rw [List.getD_eq_getElem?_getD, List.getElem?_eq_getElem (by omega)]
            exact List.getElem_mem _
          have hr := HO.out _ hmem
          have hR := fun W => runeLen_any (rn rs j) hr.1 hr.2 W
          by_cases hq : 65536 ≤ rn rs j
          · have hu : unit (rn rs j) = 2 := by unfold unit; rw [if_pos hq]
            have hE := fun W => encodeRune_any (rn rs j) hr.1 hq W
            rw [hu] at he hR
            obtain ⟨v1, hc1, hf1⟩ := hB.at_ (sumU rs j) (by omega)
            obtain ⟨v2, hc2, hf2⟩ := hB.at_ (sumU rs j + 1) (by omega)
            have HE := hide hE
            have HR := hide hR
            have HE2 := hide he
            have hi1 : sumU rs j < sumU rs k := by omega
            have hi2 : sumU rs j + 1 < sumU rs k := by omega
            clear hE hR he hmem hr hu hm
            go_wp2_with fail
            refine (HR.out _).mono ?_
            rintro e w1 ⟨rfl, rfl⟩
            go_wp2_with fail
            refine (HE.out _).mono ?_
            rintro e w1 ⟨⟨x, y, rfl⟩, rfl⟩
            go_wp2
            go_roundw
            case rel => exact ⟨j + 1, by omega, by go_num, int_eq (by rw [HE2.out]; rfl), ⟨_, (hB.set_ _ _).set_ _ _, by simp [hcs]⟩, (hbl.setCell (Nat.le_refl _) _).setCell (Nat.le_refl _) _⟩
            case measure => simp [intOf]; omega
          · have hu : unit (rn rs j) = 1 := by unfold unit; rw [if_neg hq]
            rw [hu] at he hR
            obtain ⟨v1, hc1, hf1⟩ := hB.at_ (sumU rs j) (by omega)
            have HR := hide hR
            have HE2 := hide he
            have hi1 : sumU rs j < sumU rs k := by omega
            clear hR he hmem hr hu hm
            go_wp2_with fail
            refine (HR.out _).mono ?_
            rintro e w1 ⟨rfl, rfl⟩
            go_wp2
            go_roundw
            case rel => exact ⟨j + 1, by omega, by go_num, int_eq (by rw [HE2.out]; rfl), ⟨_, hB.set_ _ _, by simp [hcs]⟩, hbl.setCell (Nat.le_refl _) _⟩
            case measure => simp [intOf]; omega
        · have : j = k := by omega
          subst this
          go_wp2
          go_ret
          exact ⟨⟨_, _, rfl⟩, hbl⟩
end Go.Proofs.Ytbbdhlnldkkdbaa
