import Derived.Test.YbulkcxrgFmtFacts
import Derived.OpenVars
import Derived.ChangeVars
import Derived.LaidMore
import Derived.Deep.DeepWitnessRef
import Derived.Stop.JoinedTold
namespace Go.Proofs.YbulkcxrgFmt
open Go.ChangeShapes Go.WideShapes Go.ChangeAt Go.WideElems Go.RowKit Go.Maps Go.Kit Go.Extern.Stop Go.Stop Go.Extern
open Go.ChangeMaps (open_string shut_string)
set_option linter.unusedVariables false

theorem own : ownKnob Ybaf.prog.godebug = none := by kernel_rfl
theorem laidOut : laidOutB Ybaf.prog = true := by kernel_rfl
theorem cells9 : Ybaf.prog.cellsOf 9 = 1 := by kernel_rfl

/-- The door's own heap meets the condition: closed facts. -/
theorem door_met (os : Os) (args : Array Value) : laidMetH Ybaf.prog Rows.lawS4959CUseRow.laid ((World.doorLaid Ybaf.prog 177 os).forCall (fun _ _ => 0) ⟨#[], args, []⟩).memory :=
  laidMetH_of_parts3 (fuel := 8) (laidMet_of_run' 8 (by kernel_rfl) (by kernel_rfl)) (by kernel_rfl) (by kernel_rfl)

theorem witness_row (os : Os) {H : Type} (enc : TypeId × Value → H) :
    (OpenSpec.ofChange Rows.lawS4959CUseSpec).preRow enc Ybaf.prog Ybaf.f3 Rows.lawS4959CUseRow.domain false Rows.lawS4959CUseRow.laid ((World.doorLaid Ybaf.prog 177 os).forCall (fun _ _ => 0) ⟨#[], #[.slice none 0 0, .string ⟨#[]⟩, .int .u8 0], []⟩).memory #[.slice none 0 0, .string ⟨#[]⟩, .int .u8 0] :=
  OpenSpec.preRow_of_B rfl 8 (by kernel_rfl) (by kernel_rfl) (door_met os _)
end Go.Proofs.YbulkcxrgFmt
