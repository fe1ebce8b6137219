/- The contract of utf8.DecodeRune at this program, and what it reads. No condition but the listed variables. -/
import Derived.Test.YtckgdkjgllopmaaDoorShelf
import Derived.Test.YtckgdkjgllopmaaDoorUtfM
import Derived.Test.YtckgdkjgllopmaaDoorPa
import Derived.Shelf.Spec.DecodeRune
import Derived.Lib.LaidU8
import Derived.MakeChecks
set_option linter.unusedVariables false
set_option linter.unusedSimpArgs false
namespace Go.Proofs.YtckgdkjgllopmaaDoor
open Go.RowKit Go.Shelf
def decR_ren : Ren := ⟨fun | 32 => 34 | 49 => 51 | n => n, fun | 0 => 0 | 3 => 3 | 4 => 4 | 5 => 5 | 21 => 21 | 25 => 86 | 30 => 55 | 33 => 69 | 66 => 85 | 68 => 88 | 69 => 89 | n => n, fun | 2 => 1 | 3 => 2 | n => n⟩
theorem decR_lays : Go.Proofs.Lays7.n32 Tryd.prog decR_ren := {
  mixed := by kernel_rfl
  f32 := Tryd.func34.trans (congrArg some (by kernel_rfl))
  f49 := Tryd.func51.trans (congrArg some (by kernel_rfl))
  t0 := Tryd.underlying0
  a0 := Tryd.isAgg0
  z0 := Tryd.sizeOf0
  v0 := Tryd.zeroValue0
  i0 := by kernel_rfl
  t3 := Tryd.underlying3
  a3 := Tryd.isAgg3
  z3 := Tryd.sizeOf3
  v3 := Tryd.zeroValue3
  i3 := by kernel_rfl
  t4 := Tryd.underlying4
  a4 := Tryd.isAgg4
  z4 := Tryd.sizeOf4
  v4 := Tryd.zeroValue4
  i4 := by kernel_rfl
  t5 := Tryd.underlying5
  a5 := Tryd.isAgg5
  z5 := Tryd.sizeOf5
  v5 := Tryd.zeroValue5
  i5 := by kernel_rfl
  t21 := Tryd.underlying21
  a21 := Tryd.isAgg21
  z21 := Tryd.sizeOf21
  v21 := Tryd.zeroValue21
  i21 := by kernel_rfl
  t25 := Tryd.underlying86
  a25 := Tryd.isAgg86
  z25 := Tryd.sizeOf86
  v25 := Tryd.zeroValue86
  i25 := by kernel_rfl
  t30 := Tryd.underlying55
  a30 := Tryd.isAgg55
  z30 := Tryd.sizeOf55
  v30 := Tryd.zeroValue55
  i30 := by kernel_rfl
  t33 := Tryd.underlying69
  a33 := Tryd.isAgg69
  z33 := Tryd.sizeOf69
  v33 := Tryd.zeroValue69
  i33 := by kernel_rfl
  t66 := Tryd.underlying85
  a66 := Tryd.isAgg85
  z66 := Tryd.sizeOf85
  t68 := Tryd.underlying88
  a68 := Tryd.isAgg88
  z68 := Tryd.sizeOf88
  v68 := Tryd.zeroValue88
  i68 := by kernel_rfl
  t69 := Tryd.underlying89
  a69 := Tryd.isAgg89
  z69 := Tryd.sizeOf89
  v69 := Tryd.zeroValue89
  i69 := by kernel_rfl
  g2 := by kernel_rfl
  g3 := by kernel_rfl
}
/-- What DecodeRune reads. -/
abbrev U8Tabs (w : World) : Prop := Lib.Utf8Tabs 1 2 w
theorem decR_any (s : ByteArray) (b off cap : Nat) (w : World) (hT : U8Tabs w) (hp : ∀ j, j < s.size → w.cell? ⟨b, off + j, none⟩ = some (.int .u8 (s.get! j).toNat)) :
    Calls Tryd.prog 34 #[.slice (some ⟨b, off, none⟩) s.size cap] w fun e w' => e = .returned (.tuple #[.int .i32 (Lib.decodeGo s).1, .int .i64 (Lib.decodeGo s).2]) ∧ Below w.heap.size w w' :=
  Any7.utf8_DecodeRune decR_lays s b off cap w hT hp
theorem decodeGo_dec (s : ByteArray) (h : 0 < s.size) : Lib.decodeGo s = dec s.data.toList := by
  have h2 := decode_dec s 0
  rw [List.drop_zero] at h2
  rw [← h2]
  unfold Lib.decodeGo
  rw [if_neg (by omega)]
theorem U8Tabs.on {w w' : World} (h : U8Tabs w) (hb : Below w.heap.size w w') : U8Tabs w' := Utf8Tabs_below h hb
end Go.Proofs.YtckgdkjgllopmaaDoor
