import Derived.Test.Qxb6630312aDoorRows
import Derived.Test.Qxb6630312aDoorLawO
import Derived.ProofKit
import Derived.LaidMore
import Derived.OpenShut
import Derived.ShutString
import Derived.SizedLaws
import Derived.Stop.Joined
import Derived.Stop.LaidErr
namespace Go.Proofs.Qxb6630312aDoor
open Go.ChangeShapes Go.WideShapes Go.ChangeAt Go.RowKit
set_option linter.unusedVariables false

theorem own : ownKnob Tryd.prog.godebug = none := by kernel_rfl
theorem gES : Tryd.prog.globalNamed "strconv.ErrSyntax" = some 0 := by kernel_rfl
theorem gER : Tryd.prog.globalNamed "strconv.ErrRange" = some 1 := by kernel_rfl
theorem tES : (Tryd.prog.globals[0]?).map (·.type) = some 29 := by kernel_rfl
theorem tER : (Tryd.prog.globals[1]?).map (·.type) = some 29 := by kernel_rfl
theorem cells50 : Tryd.prog.cellsOf 50 = 1 := by kernel_rfl
theorem cells9 : Tryd.prog.cellsOf 9 = 1 := by kernel_rfl
def nmOf : DataW Unit → String
  | .iface n _ => n
  | _ => ""
theorem row48 (u : TypeId) (h : Tryd.prog.typeName? 3 u = some (nmOf Rows.laid_strconv_ErrRange)) : u = 48 :=
  typeName_ptr_named (nm := "errors.errorString") (by kernel_rfl) (by kernel_rfl) (by decide) u (h.trans (congrArg some (by decide)))

/-- The row's list. -/
def laidL : List (String × DataW Unit) := Rows.fnParseIDAppendDigitRow.laid

theorem vars_of {W : World} (h : laidMetH Tryd.prog laidL W) : Vars W := by
  rw [MakeChecks.laidMetH_plain _ _ _ (by kernel_rfl)] at h
  have h3 := h.tail.tail.tail
  obtain ⟨a1, s1, hv1, -, -, -⟩ := laid_sentinel h3 gER tER Tryd.underlying29 row48 Tryd.underlying48 Tryd.underlying50 rfl rfl Tryd.underlying9 cells50 cells9
  obtain ⟨a0, s0, hv0, -, -, -⟩ := laid_sentinel h3.tail gES tES Tryd.underlying29 row48 Tryd.underlying48 Tryd.underlying50 rfl rfl Tryd.underlying9 cells50 cells9
  exact ⟨⟨_, _, by have h0 := World.var?_cell gES hv0 0; simpa using h0⟩, ⟨_, _, by have h0 := World.var?_cell gER hv1 0; simpa using h0⟩⟩

/-- The door's own heap meets the condition. -/
theorem door_met (os : Os) (args : Array Value) : laidMetH Tryd.prog laidL ((World.doorLaid Tryd.prog 2000 os).forCall (fun _ _ => 0) ⟨#[], args, []⟩).memory :=
  laidMetH_of_parts3 (fuel := 8) (laidMet_of_run' 8 (by kernel_rfl) (by kernel_rfl)) (by kernel_rfl) (by kernel_rfl)
end Go.Proofs.Qxb6630312aDoor
