/-
  DERIVED. GIVEN WITH THE SEED: THE CARDS: each row of YbulkcxrgFmtRows.lean that lists a variable, with what it lists TIED to the program's text (the seventh form; the later family's looks); each row that meets fmt, with fmt's text TOLD by the authors' own Lean function (tested against real Go, not proved from fmt's source: count such statements apart). THE CARD IS WHAT COUNTS. Prove the row's statement (the work); the ties are given (YbulkcxrgFmtTie.lean); close each card by the builder's one call (the guide's Derived/Test/ToyasCard.lean, 'card_holds'). Laid BY PROGRAM, IN A SANDBOX (cutbox-door.mjs). By AI agents, Wed Nov 11 2026. No macro, syntax, notation, axiom, sorry.
-/
import Derived.Test.YbulkcxrgFmtRows
import GoSem.ClaimSeven
namespace Go.Proofs.YbulkcxrgFmt
namespace Rows

/-- THE TOLD AND TIED CARD OF 'compile.LawS4959CUse'. -/
def lawS4959CUseCard : Claim7 := { stood := { row := lawS4959CUseRow, standIns := [], harness := (true, "26cfe086a10ff0c54a9acbae7840ed980ce9057f420ab881229deabdfa63b0bd"), looks := false }, told := true, laidByText := true, laidKinds := [.mapped], laidTests := true, laidLooks := .later, goes := false }
def LawS4959CUseToldSaid : Prop := Claim7.holds Ybaf.pinned (.plain (OpenSpec.ofChange lawS4959CUseSpec)) lawS4959CUseCard
/-- ITS FALSE NEIGHBOUR. Refute it at one input. -/
def LawS4959CUseToldWrongFalsely : Prop := Claim7.holds Ybaf.pinned (.plain (OpenSpec.ofChange lawS4959CUseWrong)) lawS4959CUseCard
end Rows
end Go.Proofs.YbulkcxrgFmt
