/- Contracts: the text of a span and what Parse makes of it, form by form. No condition but sizes, and the table that AppendInt reads. -/
import Derived.Test.YtckgdkjgllopmaaDoorZzSpM
import Derived.Test.YtckgdkjgllopmaaDoorParseWM
import Derived.Test.YtckgdkjgllopmaaDoorIsLetM
set_option linter.unusedVariables false
set_option linter.unusedSimpArgs false
namespace Go.Proofs.YtckgdkjgllopmaaDoor
open Go.RowKit Go.Proofs.YtckgdkjgllopmaaDoor.Lines
attribute [local go_sem ↓] Go.wp_at_zero Go.wp_at_succ

theorem tab_on {w W : World} (h : Tab10 w.heap.size w) (hb : Below w.heap.size w W) : Tab10 W.heap.size W := fun w' h' => h w' (hb.trans (h'.mono hb.size))
abbrev ptV (l c o : Int) : Value := .agg #[.int .i64 l, .int .i64 c, .int .i64 o]
abbrev spV (u : ByteArray) (l c o l2 c2 o2 : Int) : Value := .agg #[.string u, .int .i64 l, .int .i64 c, .int .i64 o, .int .i64 l2, .int .i64 c2, .int .i64 o2]
def SpRes (w : World) (v : Value) (e : Ending) (w' : World) : Prop := e = .returned v ∧ Below w.heap.size w w'
abbrev SpTo (u : ByteArray) (l c o l2 c2 o2 : Int) : Prop := Hid (∀ W, Calls Tryd.prog 28 #[.string u, ptV l c o, ptV l2 c2 o2] W (SpRes W (spV u l c o l2 c2 o2)))
abbrev ZzTo (u : ByteArray) (l c o l2 c2 o2 : Int) (f p : Bool) (t : List UInt8) : Prop := Hid (∀ W, Tab10 W.heap.size W → Calls Tryd.prog 29 #[spV u l c o l2 c2 o2, .bool f, .bool p] W (TxtRes W t))
/-- impl.Text. -/
abbrev TxTo (u : ByteArray) (l c o l2 c2 o2 : Int) (f p : Bool) (t : List UInt8) : Prop := Hid (∀ W, Tab10 W.heap.size W → Calls Tryd.prog 18 #[.string u, ptV l c o, ptV l2 c2 o2, .bool f, .bool p] W (TxtRes W t))
set_option maxHeartbeats 2000000 in
theorem iText_of {u : ByteArray} {l c o l2 c2 o2 : Int} {f p : Bool} {t : List UInt8} (HS : SpTo u l c o l2 c2 o2) (HZ : ZzTo u l c o l2 c2 o2 f p t) : TxTo u l c o l2 c2 o2 f p t := hide (fun w hT => by
  have HT := hide hT
  clear hT
  go_enter Tryd.func18, Tryd.ntmps18
  go_wp2_with fail
  refine (HS.out _).mono ?_
  rintro e w1 ⟨rfl, hb1⟩
  have hbl1 : Below w.heap.size w w1 := Below.trans (by go_grown) (hb1.mono (by simp; omega))
  clear hb1
  go_wp2_with fail
  refine (HZ.out _ (tab_on HT.out hbl1)).mono ?_
  rintro e w2 ⟨rfl, hb2⟩
  have hbl2 := hide (hbl1.trans (hb2.mono hbl1.size))
  clear hb2 hbl1
  go_wp2
  go_ret
  exact ⟨rfl, hbl2.out⟩)
/-- What impl.Parse leaves. -/
def PaRes (w : World) (u : ByteArray) (l c o l2 c2 o2 : Int) (e : Ending) (w' : World) : Prop := e = .returned (.tuple #[.string u, ptV l c o, ptV l2 c2 o2, .bool true]) ∧ Below w.heap.size w w'
set_option maxHeartbeats 2000000 in
theorem iParse_of {T u : ByteArray} {l c o l2 c2 o2 a b d a2 b2 d2 : Int} (HP : ∀ W, Calls Tryd.prog 27 #[.string T] W (ParRes W u l c o l2 c2 o2))
    (HO : ∀ W, Calls Tryd.prog 26 #[spV u l c o l2 c2 o2] W fun e w' => e = .returned (.tuple #[.string u, ptV a b d, ptV a2 b2 d2, .bool true]) ∧ Below W.heap.size W w') (w : World) :
    Calls Tryd.prog 17 #[.string T] w (PaRes w u a b d a2 b2 d2) := by
  have HP' := hide HP
  have HO' := hide HO
  clear HP HO
  go_enter Tryd.func17, Tryd.ntmps17
  go_wp2_with fail
  refine (HP'.out _).mono ?_
  rintro e w1 ⟨rfl, hb1⟩
  have hbl1 : Below w.heap.size w w1 := Below.trans (by go_grown) (hb1.mono (by simp; omega))
  have k1 := Blk.kept (Blk.newAt (g := w.heap.size + 1) (by simp)) hb1
  have k0 := Blk.kept ((Blk.newAt (g := w.heap.size) (by simp)).alloc _) hb1
  have hz1 := hb1.size
  simp at hz1
  clear hb1
  go_wp2_with fail
  refine (HO'.out _).mono ?_
  rintro e w2 ⟨rfl, hb2⟩
  have hbl2 := hbl1.trans (hb2.mono (by omega))
  have m1 := (k1.kept hb2).three
  have m0 := (k0.kept hb2).three
  clear hb2 k1 k0
  go_wp2
  exact bodyPost_ret (v := .tuple #[.string u, ptV a b d, ptV a2 b2 d2, .bool true])
    (by simp [results, Tryd.results17, go_sem, m1, m0]) rfl ⟨rfl, by go_grown⟩
theorem stripTo {T R : List UInt8} {x : UInt8} {n : Int} (hT : T.length ≤ 2147483647) (h : Tail T R x n) : StripTo (toB T) (toB R) x n :=
  hide (fun W => rstrip_any (toB T) (toB R) x n (by rw [toB_size]; exact hT) (by rw [toB_list, toB_list]; exact h) W)
theorem tail_num {R : List UInt8} {x : UInt8} {u : Nat} (h1 : x.toNat < 128) (h2 : ¬ (48 ≤ x.toNat ∧ x.toNat ≤ 57)) (hu : u ≤ 1000000000000000000) : Tail (R ++ [x] ++ Lib.itoa (u : Int)) R x u :=
  ⟨h1, h2, Or.inr ⟨u, hu, by rw [Lib.itoa_nonneg]; simp, rfl⟩⟩
theorem tail_mark {R : List UInt8} {x : UInt8} (h1 : x.toNat < 128) (h2 : ¬ (48 ≤ x.toNat ∧ x.toNat ≤ 57)) : Tail (R ++ [x]) R x (-1) := ⟨h1, h2, Or.inl ⟨rfl, rfl⟩⟩
theorem newTo_pt (u : ByteArray) (l c o : Int) : NewTo u l c o 0 0 0 l c o := hide (fun W => by
  have h := new_any u l c o 0 0 0 W
  simp only [eN_start (show atSt 0 0 0 = true by decide)] at h
  exact h)
theorem newTo_sp (u : ByteArray) {l c o l2 c2 o2 : Int} (h2 : atSt l2 c2 o2 = false) : NewTo u l c o l2 c2 o2 l2 c2 o2 := hide (fun W => by
  have h := new_any u l c o l2 c2 o2 W
  simp only [eN_keep h2] at h
  exact h)
theorem spTo (u : ByteArray) {l c o l2 c2 o2 : Int} (h1 : cl l = l) (h2 : cc l c = c) (h3 : co l c o = o) (h4 : cl l2 = l2) (h5 : cc l2 c2 = c2) (h6 : co l2 c2 o2 = o2) (h : atSt l2 c2 o2 = false) : SpTo u l c o l2 c2 o2 := hide (fun W => by
  have q := spanTo_any u l c o l2 c2 o2 W
  simp only [h1, h2, h3, h4, h5, h6, eN_keep h] at q
  exact q)
theorem atSt_off {l c o : Int} (h : 1 ≤ o) : atSt l c o = false := by
  unfold atSt
  have h1 : decide (0 ≤ o) = true := by simp; omega
  have h2 : (o == 0) = false := by simp; omega
  simp [h1, h2]
/-- A text, and what is read in it. -/
def TP (u : ByteArray) (l c o l2 c2 o2 : Int) (f p : Bool) (a b d a2 b2 d2 : Int) : Prop := ∃ t : List UInt8, TxTo u l c o l2 c2 o2 f p t ∧ Hid (∀ W, Calls Tryd.prog 17 #[.string (toB t)] W (PaRes W u a b d a2 b2 d2))
theorem says {f : FuncId} {args : Array Value} {b b' : Bool} (h : ∀ W, Calls Tryd.prog f args W fun e w' => e = .returned (.bool b) ∧ Below W.heap.size W w') (e : b = b') : SaysTo f args b' := hide (by rw [← e]; exact h)
theorem spanOf_to (u : ByteArray) {l c o l2 c2 o2 : Int} {a b d a2 b2 d2 : Int} (h1 : oL l = a) (h2 : oC l c = b) (h3 : oO o = d) (h4 : oL l2 = a2) (h5 : oC l2 c2 = b2) (h6 : oO o2 = d2) (ht : told l o = true) (W : World) :
    Calls Tryd.prog 26 #[spV u l c o l2 c2 o2] W fun e w' => e = .returned (.tuple #[.string u, ptV a b d, ptV a2 b2 d2, .bool true]) ∧ Below W.heap.size W w' := by
  have h := spanOf_any u l c o l2 c2 o2 W
  rw [h1, h2, h3, h4, h5, h6, ht] at h
  exact h
theorem toB_u (u : ByteArray) : toB u.data.toList = u := toB_of u
theorem len_u (u : ByteArray) : u.data.toList.length = u.size := by rw [Array.length_toList]; rfl
end Go.Proofs.YtckgdkjgllopmaaDoor
