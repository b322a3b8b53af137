/-
  NARROWER THAN 'FOR EVERY INPUT', by the rows' own cells (each row's printed sentence says how): LawS4959CUse: maps, laid.
  DERIVED. THE GIVEN ROWS OF THIS SEAT. 1 by the template 'for every input the law returns true; each argument reads behind the call as it read before'; 0 by the template 'total and deterministic' (their statements: YbulkcxrgFmtTotals.lean).
  GIVEN WITH THE SEED: the statements are not yours to turn. If you find one false, say at which input.
  Laid BY PROGRAM, IN A SANDBOX (cutbox-rows.mjs): the forced cells as the released guide's own fill.sh prints them over the translation 9ca3889039e26c2a… (all of the seat's roots in one cut). By AI agents, Wed Nov 11 2026. No macro, syntax, notation, axiom, sorry.
-/
import Derived.Test.YbulkcxrgFmtChecked
import GoSem.Claim
import GoSem.ClaimJoined
import GoSem.ClaimMapViews
import Derived.JoinedTies
import Derived.KernelRfl
namespace Go.Proofs.YbulkcxrgFmt
/- THE CELL 'sum', in the pinned program and in every row, IS THE sha256 OF THE DUMP (.gsa) THAT YbulkcxrgFmtProg.lean LOADS. Nothing in Lean hashes anything: it is a label: what it is worth is what the hold of that sum in a sandbox is worth. -/
noncomputable def Ybaf.pinned : Pinned := { name := "ybulkcxrgfmt", sum := "9ca3889039e26c2ac54b38d084073f43c5fd0ddfa32f73a1714a768219214312", checked := Ybaf.checked }
namespace Rows
def none {H : Type} : Left H := { results := [], args := [] }

/- WHAT THE LISTED PACKAGE-LEVEL VARIABLES READ AS WHEN THE CALL BEGINS. Each datum BY PROGRAM (the guide's laid-datum.mjs) off the statement by which the dump's own 'gosem.cut.vars' lays the variable. In a bare row this is a premise. The card (YbulkcxrgFmtCards.lean) ties it to the program's text. -/
def laid_example_com_tarn_tarn_internal_compile_builtins {H : Type} : DataW H := .map [(.string [97, 98, 115], .agg [.lit (.int .i64 1), .lit (.int .i64 1)]), (.string [97, 114, 103, 115], .agg [.lit (.int .i64 0), .lit (.int .i64 0)]), (.string [97, 115, 115, 101, 114, 116], .agg [.lit (.int .i64 1), .lit (.int .i64 2)]), (.string [97, 115, 115, 101, 114, 116, 95, 101, 113], .agg [.lit (.int .i64 2), .lit (.int .i64 2)]), (.string [101, 120, 105, 116], .agg [.lit (.int .i64 1), .lit (.int .i64 1)]), (.string [102, 108, 111, 97, 116], .agg [.lit (.int .i64 1), .lit (.int .i64 1)]), (.string [103, 101, 116], .agg [.lit (.int .i64 3), .lit (.int .i64 3)]), (.string [104, 97, 115], .agg [.lit (.int .i64 2), .lit (.int .i64 2)]), (.string [105, 110, 116], .agg [.lit (.int .i64 1), .lit (.int .i64 1)]), (.string [106, 111, 105, 110], .agg [.lit (.int .i64 2), .lit (.int .i64 2)]), (.string [107, 101, 121, 115], .agg [.lit (.int .i64 1), .lit (.int .i64 1)]), (.string [108, 101, 110], .agg [.lit (.int .i64 1), .lit (.int .i64 1)]), (.string [109, 97, 120], .agg [.lit (.int .i64 2), .lit (.int .i64 2)]), (.string [109, 105, 110], .agg [.lit (.int .i64 2), .lit (.int .i64 2)]), (.string [112, 111, 112], .agg [.lit (.int .i64 1), .lit (.int .i64 1)]), (.string [112, 114, 105, 110, 116], .agg [.lit (.int .i64 0), .lit (.int .i64 (-1))]), (.string [112, 117, 115, 104], .agg [.lit (.int .i64 2), .lit (.int .i64 2)]), (.string [114, 97, 110, 103, 101], .agg [.lit (.int .i64 1), .lit (.int .i64 3)]), (.string [114, 101, 109, 111, 118, 101], .agg [.lit (.int .i64 2), .lit (.int .i64 2)]), (.string [114, 101, 112, 114], .agg [.lit (.int .i64 1), .lit (.int .i64 1)]), (.string [115, 108, 105, 99, 101], .agg [.lit (.int .i64 3), .lit (.int .i64 3)]), (.string [115, 112, 108, 105, 116], .agg [.lit (.int .i64 2), .lit (.int .i64 2)]), (.string [115, 116, 114], .agg [.lit (.int .i64 1), .lit (.int .i64 1)]), (.string [116, 121, 112, 101], .agg [.lit (.int .i64 1), .lit (.int .i64 1)])]

/-- 'compile.LawS4959CUse': WHATEVER THE INPUT: true; the input reads as it did. -/
def lawS4959CUseSpec : ChangeSpec := { name := "lawS4959CUse", vars := ["example.com/tarn/tarn/internal/compile.builtins"], fn := fun _ => fun
  | [d1, d2, d3, g1] => { results := [.lit (.bool true)], args := [d1, d2, d3], vars := [g1] }
  | _ => none }
def lawS4959CUseRow : OpenClaim := { program := "ybulkcxrgfmt", sum := "9ca3889039e26c2ac54b38d084073f43c5fd0ddfa32f73a1714a768219214312", func := "example.com/tarn/tarn/internal/compile.LawS4959CUse", spec := "lawS4959CUse", stops := ["fmt.Sprintf"], inPlace := ["fmt.Fprintf", "fmt.Sprintf"], unfollowed := true, recurses := true, named := ["example.com/tarn/tarn/internal/compile.builtins"], maps := true, apart := false, laid := [("example.com/tarn/tarn/internal/compile.builtins", laid_example_com_tarn_tarn_internal_compile_builtins)] }
/-- NO THEOREM (fmt's text is open here; it may be false): for the released tool's asking of the row's closed facts alone. THE STATEMENT IS 'LawS4959CUseToldSaid' (YbulkcxrgFmtCards.lean). -/
def LawS4959CUseFormAsk : Prop := lawS4959CUseRow.holds Ybaf.pinned (OpenSpec.ofChange lawS4959CUseSpec)

/-- ITS FALSE NEIGHBOUR: 'it returns false'. Refute it at one input. -/
def lawS4959CUseWrong : ChangeSpec := { name := "lawS4959CUse", vars := ["example.com/tarn/tarn/internal/compile.builtins"], fn := fun _ => fun
  | [d1, d2, d3, g1] => { results := [.lit (.bool false)], args := [d1, d2, d3], vars := [g1] }
  | _ => none }
def LawS4959CUseWrongFormAsk : Prop := lawS4959CUseRow.holds Ybaf.pinned (OpenSpec.ofChange lawS4959CUseWrong)

end Rows
end Go.Proofs.YbulkcxrgFmt
