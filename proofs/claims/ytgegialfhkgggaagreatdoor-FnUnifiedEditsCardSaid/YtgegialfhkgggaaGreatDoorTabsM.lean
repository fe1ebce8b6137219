/- What a row's laid variables give the walk: the table of powers of ten. No condition. -/
import Derived.Test.YtgegialfhkgggaaGreatDoorRows
import Derived.Test.YtgegialfhkgggaaGreatDoorAppIntM
import Derived.LaidMore
import Derived.MakeChecks
import Derived.Lib.LaidU8
import Derived.Lib.LaidTab
set_option linter.unusedVariables false
set_option linter.unusedSimpArgs false
namespace Go.Proofs.YtgegialfhkgggaaGreatDoor
open Go.RowKit

theorem tabIs_of_reads {P : Program} {W : World} {name : String} {k : IntKind} {zs : List Int} {t e : TypeId} {n : Nat}
    (hty : (P.globalNamed name).bind (fun g => (P.globals[g]?).map (·.type)) = some t) (ht : P.underlying t = some (.array n e)) (he : P.underlying e = some (.int k)) (hce : P.cellsOf e = 1) (hct : P.cellsOf t = n)
    (h : Go.Lib.VarReads P W name (Lib.tabData k zs)) : Lib.TabIs P W name k zs := by
  obtain ⟨g', t', cs, fuel, p, hg', ht', hvar, hd⟩ := h
  rw [hg', Option.bind_some, ht'] at hty
  obtain rfl := Option.some.inj hty
  unfold Lib.TabIs
  rw [hvar, ← Lib.cells_of_tab ht he hce hct hd]
theorem pow10_eq : (Rows.laid_internal_strconv_uint64pow10 : DataW Unit) = Lib.tabData .u64 Lib.pow10Tab := by kernel_rfl
theorem tab_of {W : World} {l : List (String × DataW Unit)} (h : laidMet Tryz.prog l W) (hm : ("internal/strconv.uint64pow10", (Rows.laid_internal_strconv_uint64pow10 : DataW Unit)) ∈ l) : Tab10 W.heap.size W := by
  have h3 := Go.Lib.laidMet.reads h hm
  rw [pow10_eq] at h3
  exact Lib.tabBelow_of_tabIs (tabIs_of_reads (t := 178) (e := 154) (n := 20) (by kernel_rfl) Tryz.underlying178 Tryz.underlying154 (by kernel_rfl) (by kernel_rfl) h3)
end Go.Proofs.YtgegialfhkgggaaGreatDoor
