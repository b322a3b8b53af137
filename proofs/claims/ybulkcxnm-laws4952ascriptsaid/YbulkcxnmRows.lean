/-
  No cell of these rows narrows 'for every input' (looked for: loops, veiled, ifaces, maps, wideKeys, modest, calm, conditions, laid).
  DERIVED. THE GIVEN ROWS OF THIS SEAT. 6 by the template 'for every input the law returns true; each argument reads behind the call as it read before'; 0 by the template 'total and deterministic' (their statements: YbulkcxnmTotals.lean).
  GIVEN WITH THE SEED: the statements are not yours to turn. If you find one false, say at which input.
  Laid BY PROGRAM, IN A SANDBOX (cutbox-rows.mjs): the forced cells as the released guide's own fill.sh prints them over the translation b65c7d3da668167d… (all of the seat's roots in one cut). By AI agents, Wed Nov 11 2026. No macro, syntax, notation, axiom, sorry.
-/
import Derived.Test.YbulkcxnmChecked
import GoSem.Claim
import GoSem.ClaimJoined
import GoSem.ClaimMapViews
import Derived.JoinedTies
import Derived.KernelRfl
namespace Go.Proofs.Ybulkcxnm
/- THE CELL 'sum', in the pinned program and in every row, IS THE sha256 OF THE DUMP (.gsa) THAT YbulkcxnmProg.lean LOADS. Nothing in Lean hashes anything: it is a label: what it is worth is what the hold of that sum in a sandbox is worth. -/
noncomputable def Yba.pinned : Pinned := { name := "ybulkcxnm", sum := "b65c7d3da668167dc97ee3738aa64b08e893f78e232d7a7ed2b2a5ae4c331059", checked := Yba.checked }
namespace Rows
def none {H : Type} : Left H := { results := [], args := [] }

/-- 'sched.LawS4952AExact': WHATEVER THE INPUT: true; the input reads as it did. -/
def lawS4952AExactSpec : ChangeSpec := { name := "lawS4952AExact", fn := fun _ => fun
  | [d1, d2, d3, d4, d5, d6, d7, d8, d9, d10, d11] => { results := [.lit (.bool true)], args := [d1, d2, d3, d4, d5, d6, d7, d8, d9, d10, d11] }
  | _ => none }
def lawS4952AExactRow : OpenClaim := { program := "ybulkcxnm", sum := "b65c7d3da668167dc97ee3738aa64b08e893f78e232d7a7ed2b2a5ae4c331059", func := "example.com/frigg/frigg/pkg/sched.LawS4952AExact", spec := "lawS4952AExact", apart := false }
def LawS4952AExactSaid : Prop := lawS4952AExactRow.holds Yba.pinned (OpenSpec.ofChange lawS4952AExactSpec)

/-- ITS FALSE NEIGHBOUR: 'it returns false'. Refute it at one input. -/
def lawS4952AExactWrong : ChangeSpec := { name := "lawS4952AExact", fn := fun _ => fun
  | [d1, d2, d3, d4, d5, d6, d7, d8, d9, d10, d11] => { results := [.lit (.bool false)], args := [d1, d2, d3, d4, d5, d6, d7, d8, d9, d10, d11] }
  | _ => none }
def LawS4952AExactWrongFalsely : Prop := lawS4952AExactRow.holds Yba.pinned (OpenSpec.ofChange lawS4952AExactWrong)

/-- 'sched.LawS4952AScript': WHATEVER THE INPUT: true; the input reads as it did. -/
def lawS4952AScriptSpec : ChangeSpec := { name := "lawS4952AScript", fn := fun _ => fun
  | [d1, d2, d3] => { results := [.lit (.bool true)], args := [d1, d2, d3] }
  | _ => none }
def lawS4952AScriptRow : OpenClaim := { program := "ybulkcxnm", sum := "b65c7d3da668167dc97ee3738aa64b08e893f78e232d7a7ed2b2a5ae4c331059", func := "example.com/frigg/frigg/pkg/sched.LawS4952AScript", spec := "lawS4952AScript", apart := false }
def LawS4952AScriptSaid : Prop := lawS4952AScriptRow.holds Yba.pinned (OpenSpec.ofChange lawS4952AScriptSpec)

/-- ITS FALSE NEIGHBOUR: 'it returns false'. Refute it at one input. -/
def lawS4952AScriptWrong : ChangeSpec := { name := "lawS4952AScript", fn := fun _ => fun
  | [d1, d2, d3] => { results := [.lit (.bool false)], args := [d1, d2, d3] }
  | _ => none }
def LawS4952AScriptWrongFalsely : Prop := lawS4952AScriptRow.holds Yba.pinned (OpenSpec.ofChange lawS4952AScriptWrong)

/-- 'sched.LawS4952BExact': WHATEVER THE INPUT: true; the input reads as it did. -/
def lawS4952BExactSpec : ChangeSpec := { name := "lawS4952BExact", fn := fun _ => fun
  | [d1, d2, d3, d4, d5, d6] => { results := [.lit (.bool true)], args := [d1, d2, d3, d4, d5, d6] }
  | _ => none }
def lawS4952BExactRow : OpenClaim := { program := "ybulkcxnm", sum := "b65c7d3da668167dc97ee3738aa64b08e893f78e232d7a7ed2b2a5ae4c331059", func := "example.com/frigg/frigg/pkg/sched.LawS4952BExact", spec := "lawS4952BExact", apart := false }
def LawS4952BExactSaid : Prop := lawS4952BExactRow.holds Yba.pinned (OpenSpec.ofChange lawS4952BExactSpec)

/-- ITS FALSE NEIGHBOUR: 'it returns false'. Refute it at one input. -/
def lawS4952BExactWrong : ChangeSpec := { name := "lawS4952BExact", fn := fun _ => fun
  | [d1, d2, d3, d4, d5, d6] => { results := [.lit (.bool false)], args := [d1, d2, d3, d4, d5, d6] }
  | _ => none }
def LawS4952BExactWrongFalsely : Prop := lawS4952BExactRow.holds Yba.pinned (OpenSpec.ofChange lawS4952BExactWrong)

/-- 'sched.LawS4952BStrict': WHATEVER THE INPUT: true; the input reads as it did. -/
def lawS4952BStrictSpec : ChangeSpec := { name := "lawS4952BStrict", fn := fun _ => fun
  | [d1, d2, d3, d4] => { results := [.lit (.bool true)], args := [d1, d2, d3, d4] }
  | _ => none }
def lawS4952BStrictRow : OpenClaim := { program := "ybulkcxnm", sum := "b65c7d3da668167dc97ee3738aa64b08e893f78e232d7a7ed2b2a5ae4c331059", func := "example.com/frigg/frigg/pkg/sched.LawS4952BStrict", spec := "lawS4952BStrict", apart := false }
def LawS4952BStrictSaid : Prop := lawS4952BStrictRow.holds Yba.pinned (OpenSpec.ofChange lawS4952BStrictSpec)

/-- ITS FALSE NEIGHBOUR: 'it returns false'. Refute it at one input. -/
def lawS4952BStrictWrong : ChangeSpec := { name := "lawS4952BStrict", fn := fun _ => fun
  | [d1, d2, d3, d4] => { results := [.lit (.bool false)], args := [d1, d2, d3, d4] }
  | _ => none }
def LawS4952BStrictWrongFalsely : Prop := lawS4952BStrictRow.holds Yba.pinned (OpenSpec.ofChange lawS4952BStrictWrong)

/-- 'sched.LawS4952CModel': WHATEVER THE INPUT: true; the input reads as it did. -/
def lawS4952CModelSpec : ChangeSpec := { name := "lawS4952CModel", fn := fun _ => fun
  | [d1, d2, d3, d4, d5, d6] => { results := [.lit (.bool true)], args := [d1, d2, d3, d4, d5, d6] }
  | _ => none }
def lawS4952CModelRow : OpenClaim := { program := "ybulkcxnm", sum := "b65c7d3da668167dc97ee3738aa64b08e893f78e232d7a7ed2b2a5ae4c331059", func := "example.com/frigg/frigg/pkg/sched.LawS4952CModel", spec := "lawS4952CModel", apart := false }
def LawS4952CModelSaid : Prop := lawS4952CModelRow.holds Yba.pinned (OpenSpec.ofChange lawS4952CModelSpec)

/-- ITS FALSE NEIGHBOUR: 'it returns false'. Refute it at one input. -/
def lawS4952CModelWrong : ChangeSpec := { name := "lawS4952CModel", fn := fun _ => fun
  | [d1, d2, d3, d4, d5, d6] => { results := [.lit (.bool false)], args := [d1, d2, d3, d4, d5, d6] }
  | _ => none }
def LawS4952CModelWrongFalsely : Prop := lawS4952CModelRow.holds Yba.pinned (OpenSpec.ofChange lawS4952CModelWrong)

/-- 'sched.LawS4952CGraceEdge': WHATEVER THE INPUT: true; the input reads as it did. -/
def lawS4952CGraceEdgeSpec : ChangeSpec := { name := "lawS4952CGraceEdge", fn := fun _ => fun
  | [d1, d2, d3] => { results := [.lit (.bool true)], args := [d1, d2, d3] }
  | _ => none }
def lawS4952CGraceEdgeRow : OpenClaim := { program := "ybulkcxnm", sum := "b65c7d3da668167dc97ee3738aa64b08e893f78e232d7a7ed2b2a5ae4c331059", func := "example.com/frigg/frigg/pkg/sched.LawS4952CGraceEdge", spec := "lawS4952CGraceEdge", apart := false }
def LawS4952CGraceEdgeSaid : Prop := lawS4952CGraceEdgeRow.holds Yba.pinned (OpenSpec.ofChange lawS4952CGraceEdgeSpec)

/-- ITS FALSE NEIGHBOUR: 'it returns false'. Refute it at one input. -/
def lawS4952CGraceEdgeWrong : ChangeSpec := { name := "lawS4952CGraceEdge", fn := fun _ => fun
  | [d1, d2, d3] => { results := [.lit (.bool false)], args := [d1, d2, d3] }
  | _ => none }
def LawS4952CGraceEdgeWrongFalsely : Prop := lawS4952CGraceEdgeRow.holds Yba.pinned (OpenSpec.ofChange lawS4952CGraceEdgeWrong)

end Rows
end Go.Proofs.Ybulkcxnm
