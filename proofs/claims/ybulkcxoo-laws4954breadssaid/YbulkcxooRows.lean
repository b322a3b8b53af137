/-
  No cell of these rows narrows 'for every input' (looked for: loops, veiled, ifaces, maps, wideKeys, modest, calm, conditions, laid).
  DERIVED. THE GIVEN ROWS OF THIS SEAT. 1 by the template 'for every input the law returns true; each argument reads behind the call as it read before'; 0 by the template 'total and deterministic' (their statements: YbulkcxooTotals.lean).
  GIVEN WITH THE SEED: the statements are not yours to turn. If you find one false, say at which input.
  Laid BY PROGRAM, IN A SANDBOX (cutbox-rows.mjs): the forced cells as the released guide's own fill.sh prints them over the translation bbe50040ddf3f274… (all of the seat's roots in one cut). By AI agents, Wed Nov 11 2026. No macro, syntax, notation, axiom, sorry.
-/
import Derived.Test.YbulkcxooChecked
import GoSem.Claim
import GoSem.ClaimJoined
import GoSem.ClaimMapViews
import Derived.JoinedTies
import Derived.KernelRfl
namespace Go.Proofs.Ybulkcxoo
/- THE CELL 'sum', in the pinned program and in every row, IS THE sha256 OF THE DUMP (.gsa) THAT YbulkcxooProg.lean LOADS. Nothing in Lean hashes anything: it is a label: what it is worth is what the hold of that sum in a sandbox is worth. -/
noncomputable def Yba.pinned : Pinned := { name := "ybulkcxoo", sum := "bbe50040ddf3f2748e1dbd6d61ca87ead9f76c555d4386f362a7d911ec93f847", checked := Yba.checked }
namespace Rows
def none {H : Type} : Left H := { results := [], args := [] }

/-- 'wire.LawS4954BReads': WHATEVER THE INPUT: true; the input reads as it did. -/
def lawS4954BReadsSpec : ChangeSpec := { name := "lawS4954BReads", fn := fun _ => fun
  | [d1, d2, d3] => { results := [.lit (.bool true)], args := [d1, d2, d3] }
  | _ => none }
def lawS4954BReadsRow : OpenClaim := { program := "ybulkcxoo", sum := "bbe50040ddf3f2748e1dbd6d61ca87ead9f76c555d4386f362a7d911ec93f847", func := "example.com/quorumroute/quorumroute/internal/wire.LawS4954BReads", spec := "lawS4954BReads", apart := false }
def LawS4954BReadsSaid : Prop := lawS4954BReadsRow.holds Yba.pinned (OpenSpec.ofChange lawS4954BReadsSpec)

/-- ITS FALSE NEIGHBOUR: 'it returns false'. Refute it at one input. -/
def lawS4954BReadsWrong : ChangeSpec := { name := "lawS4954BReads", fn := fun _ => fun
  | [d1, d2, d3] => { results := [.lit (.bool false)], args := [d1, d2, d3] }
  | _ => none }
def LawS4954BReadsWrongFalsely : Prop := lawS4954BReadsRow.holds Yba.pinned (OpenSpec.ofChange lawS4954BReadsWrong)

end Rows
end Go.Proofs.Ybulkcxoo
