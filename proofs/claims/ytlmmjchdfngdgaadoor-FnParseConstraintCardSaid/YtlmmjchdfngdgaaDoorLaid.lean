/- What the rows' lists of variables give: the tables that the walks read; a world that meets the lists. -/
import Derived.Test.YtlmmjchdfngdgaaDoorTie
import Derived.Test.YtlmmjchdfngdgaaDoorTa
import Derived.Lib.LaidU8
import Derived.PinnedBridge
import Derived.Lay
import Derived.Deep.DeepHandedRow
namespace Go.Proofs.YtlmmjchdfngdgaaDoor.Laid
open Go.RowKit Go.Proofs.YtlmmjchdfngdgaaDoor.Q
theorem props_eq : Rows.laid_unicode_properties (H := Unit) = Lib.tabData .u8 Lib.propertiesTab := by kernel_rfl
theorem space_eq : Rows.laid_strings_asciiSpace (H := Unit) = Lib.tabData .u8 Lib.asciiSpaceTab := by kernel_rfl
theorem tab_of_reads {P : Program} {w : World} {name : String} {k : IntKind} {zs : List Int} {g : Nat} {t e : TypeId} {n : Nat}
    (hg : P.globalNamed name = some g) (hty : (P.globals[g]?).map (·.type) = some t) (ht : P.underlying t = some (.array n e)) (he : P.underlying e = some (.int k)) (hce : P.cellsOf e = 1) (hct : P.cellsOf t = n)
    (h : Lib.VarReads P w name (Lib.tabData k zs)) : Lib.TabIs P w name k zs := by
  obtain ⟨g', t', cs, fuel, p, hg', ht', hvar, hd⟩ := h
  obtain rfl := Option.some.inj (hg.symm.trans hg')
  obtain rfl := Option.some.inj (hty.symm.trans ht')
  unfold Lib.TabIs
  rw [hvar, ← Lib.cells_of_tab ht he hce hct hd]
theorem plain3 (w : World) : laidMetH Tryd.prog Rows.fnConstraintsRow.laid w = laidMet Tryd.prog Rows.fnConstraintsRow.laid w := MakeChecks.laidMetH_plain _ _ _ (by kernel_rfl)
theorem plain5 (w : World) : laidMetH Tryd.prog Rows.fnParseConstraintRow.laid w = laidMet Tryd.prog Rows.fnParseConstraintRow.laid w := MakeChecks.laidMetH_plain _ _ _ (by kernel_rfl)
theorem tabs3 {w : World} (h : laidMetH Tryd.prog Rows.fnConstraintsRow.laid w) : Tabs w := by
  rw [plain3] at h
  exact tab_of_reads (g := 1) (t := 84) (e := 5) (n := 256) (by kernel_rfl) (by kernel_rfl) Tryd.underlying84 Tryd.underlying5 (by kernel_rfl) (by kernel_rfl) (props_eq ▸ Lib.laidMet.reads h (.head _))
theorem tabs5 {w : World} (h : laidMetH Tryd.prog Rows.fnParseConstraintRow.laid w) : Tabs w ∧ Lib.TabIs Tryd.prog w "strings.asciiSpace" .u8 Lib.asciiSpaceTab := by
  rw [plain5] at h
  exact ⟨tab_of_reads (g := 1) (t := 84) (e := 5) (n := 256) (by kernel_rfl) (by kernel_rfl) Tryd.underlying84 Tryd.underlying5 (by kernel_rfl) (by kernel_rfl) (props_eq ▸ Lib.laidMet.reads h (.tail _ (.head _))),
    tab_of_reads (g := 0) (t := 84) (e := 5) (n := 256) (by kernel_rfl) (by kernel_rfl) Tryd.underlying84 Tryd.underlying5 (by kernel_rfl) (by kernel_rfl) (space_eq ▸ Lib.laidMet.reads h (.tail _ (.tail _ (.head _))))⟩
/-- The world of the witness: the listed variables laid. -/
theorem met3 (os : Os) (args : Array Value) : laidMetH Tryd.prog Rows.fnConstraintsRow.laid ((World.laidAll Tryd.prog os Rows.fnConstraintsRow.laid).forCall (fun _ _ => 0) ⟨#[], args, []⟩).memory := by
  rw [plain3]; exact laidMet_laidAll _ (by kernel_rfl) (by kernel_rfl)
theorem met5 (os : Os) (args : Array Value) : laidMetH Tryd.prog Rows.fnParseConstraintRow.laid ((World.laidAll Tryd.prog os Rows.fnParseConstraintRow.laid).forCall (fun _ _ => 0) ⟨#[], args, []⟩).memory := by
  rw [plain5]; exact laidMet_laidAll _ (by kernel_rfl) (by kernel_rfl)
end Go.Proofs.YtlmmjchdfngdgaaDoor.Laid
