/-
  From the rows' listed variables to what the walks want of them; a start that meets the list: the heap that the door's own run leaves.
-/
import Derived.Test.Qxb6602610aDoorRows
import Derived.Test.Qxb6602610aDoorParse
import Derived.LaidMore
import Derived.ProofKit
import Derived.Stop.Joined
import Derived.Stop.LaidErr
namespace Go.Proofs.Qxb6602610aDoor
open Go.RowKit

/-- The five listed variables. -/
def five : List (String × DataW Unit) := Rows.fnCompareIdentifierMatchesModelRow.laid

theorem own : ownKnob Tryd.prog.godebug = none := by kernel_rfl
theorem laidOut : laidOutB Tryd.prog = true := by kernel_rfl
theorem gES : Tryd.prog.globalNamed "strconv.ErrSyntax" = some 1 := by kernel_rfl
theorem gER : Tryd.prog.globalNamed "strconv.ErrRange" = some 2 := by kernel_rfl
theorem gESType : (Tryd.prog.globals[1]?).map (·.type) = some 43 := by kernel_rfl
theorem gERType : (Tryd.prog.globals[2]?).map (·.type) = some 43 := by kernel_rfl
theorem Tryd.cells64 : Tryd.prog.cellsOf 64 = 1 := by kernel_rfl
theorem Tryd.cells9 : Tryd.prog.cellsOf 9 = 1 := by kernel_rfl
/-- The dynamic type's name, out of the given datum. -/
def errName : String := match (Rows.laid_strconv_ErrSyntax : DataW Unit) with
  | .iface n _ => n
  | _ => ""
/-- The one row of that name. -/
theorem row62 (u : TypeId) (h : Tryd.prog.typeName? 3 u = some errName) : u = 62 :=
  typeName_ptr_named (nm := "errors.errorString") (by kernel_rfl) (by kernel_rfl) (by decide) u (h.trans (congrArg some (by decide)))

theorem errs_of_laid {W : World} (h : laidMetH Tryd.prog five W) : Errs W := by
  rw [MakeChecks.laidMetH_plain _ _ _ (by kernel_rfl)] at h
  obtain ⟨a1, s1, hv1, -, -, -⟩ := laid_sentinel h.tail.tail.tail gER gERType Tryd.underlying43 row62 Tryd.underlying62 Tryd.underlying64 rfl rfl Tryd.underlying9 Tryd.cells64 Tryd.cells9
  obtain ⟨a0, s0, hv0, -, -, -⟩ := laid_sentinel h.tail.tail.tail.tail gES gESType Tryd.underlying43 row62 Tryd.underlying62 Tryd.underlying64 rfl rfl Tryd.underlying9 Tryd.cells64 Tryd.cells9
  exact ⟨⟨62, .pointer (some a0), hv0⟩, 62, .pointer (some a1), hv1⟩

/-- The door's own heap meets the list. -/
theorem door_met (os : Os) (args : Array Value) : laidMetH Tryd.prog five ((World.doorLaid Tryd.prog 400 os).forCall (fun _ _ => 0) ⟨#[], args, []⟩).memory :=
  laidMetH_of_parts3 (fuel := 8) (laidMet_of_run' 8 (by kernel_rfl) (by kernel_rfl)) (by kernel_rfl) (by kernel_rfl)

end Go.Proofs.Qxb6602610aDoor
