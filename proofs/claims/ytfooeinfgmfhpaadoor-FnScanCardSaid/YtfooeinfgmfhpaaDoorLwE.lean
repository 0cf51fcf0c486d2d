/- What the listed tables give: unicode.properties at the bytes below 128; and a state that holds them all. -/
import Derived.Test.YtfooeinfgmfhpaaDoorRows
import Derived.Test.YtfooeinfgmfhpaaDoorScA
import Derived.ProofKit
import Derived.Carry
import Derived.Lay
import Derived.Stop.LaidErr
import Derived.Lib.LaidTab
import Derived.MakeChecks
namespace Go.Proofs.YtfooeinfgmfhpaaDoor
open Go.ChangeShapes Go.WideShapes Go.ChangeAt Go.RowKit

theorem own : ownKnob Tryd.prog.godebug = none := by kernel_rfl
theorem laidOut : laidOutB Tryd.prog = true := by kernel_rfl
theorem gProps : Tryd.prog.globalNamed "unicode.properties" = some 0 := by kernel_rfl
theorem tProps : (Tryd.prog.globals[0]?).map (·.type) = some 123 := by kernel_rfl
theorem cells5 : Tryd.prog.cellsOf 5 = 1 := by kernel_rfl
theorem cells123 : Tryd.prog.cellsOf 123 = 256 := by kernel_rfl

/-- The listed variables. -/
abbrev laid5 : List (String × DataW Unit) := [("unicode/utf8.acceptRanges", Rows.laid_unicode_utf8_acceptRanges), ("unicode.properties", Rows.laid_unicode_properties), ("unicode.Digit", Rows.laid_unicode_Digit), ("unicode.Letter", Rows.laid_unicode_Letter), ("unicode/utf8.first", Rows.laid_unicode_utf8_first)]

def numsOf : DataW Unit → List Int
  | .agg l => l.map fun d => match d with | .lit (.int _ z) => z | _ => 0
  | _ => []

set_option maxRecDepth 100000 in
theorem props_tab : (Rows.laid_unicode_properties : DataW Unit) = Lib.tabData .u8 (numsOf Rows.laid_unicode_properties) := by kernel_rfl
theorem props_len : (numsOf Rows.laid_unicode_properties).length = 256 := by kernel_rfl
theorem props_all : ((List.range 128).all fun i => (numsOf Rows.laid_unicode_properties).getD i 0 == (tbl i : Int)) = true := by kernel_rfl

theorem tbl_of_laid {W : World} (h : laidMetH Tryd.prog laid5 W) : (∀ i, i < 128 → W.cell? ⟨0, i, none⟩ = some (.int .u8 (tbl i))) ∧ 0 < W.heap.size := by
  rw [MakeChecks.laidMetH_plain _ _ _ (by kernel_rfl)] at h
  have h2 : laidMet Tryd.prog (("unicode.properties", Rows.laid_unicode_properties) :: _) W := laidMet.tail h
  rw [props_tab] at h2
  have hT := Lib.tabIs_of_head gProps tProps Tryd.underlying123 Tryd.underlying5 cells5 cells123 h2
  have hc : ∀ i, i < 128 → W.cell? ⟨0, i, none⟩ = some (.int .u8 (tbl i)) := by
    intro i hi
    have := hT.cell gProps i (by rw [props_len]; omega)
    rw [this]
    have e := List.all_eq_true.1 props_all i (List.mem_range.2 hi)
    rw [beq_iff_eq] at e
    rw [e]
  exact ⟨hc, World.block_lt_of_cell? W _ (hc 0 (by decide))⟩

set_option maxRecDepth 200000 in
theorem met5 (os : Os) (args : Array Value) : laidMetH Tryd.prog laid5 ((World.laidAll Tryd.prog os laid5).forCall (fun _ _ => 0) ⟨#[], args, []⟩).memory := by
  rw [MakeChecks.laidMetH_plain _ _ _ (by kernel_rfl)]; exact laidMet_laidAll _ (by kernel_rfl) (by kernel_rfl)
end Go.Proofs.YtfooeinfgmfhpaaDoor
