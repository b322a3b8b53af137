import Derived.Test.YbulkcxnmRows
import Derived.WalkKit
import Derived.ProofKit
import Derived.OpenShut
import Derived.ShutString
import Derived.Below
import Derived.RowKit3
namespace Go.Proofs.Ybulkcxnm
open Go.ChangeShapes Go.WideShapes Go.ChangeAt Go.RowKit
set_option maxHeartbeats 400000 in
theorem start_quiet (ba bg : Nat) (at' now : Int) (st : Bool) (w : World)
    (hat : w.cell? ⟨bg, 3, none⟩ = some (.int .i64 at')) (hst : w.cell? ⟨bg, 4, none⟩ = some (.bool st))
    (h : at' < 0 ∨ st = true) :
    Calls Yba.prog 9 #[.pointer (some ⟨ba, 0, none⟩), .pointer (some ⟨bg, 0, none⟩), .int .i64 now] w fun e w' => e = .returned (.tuple #[]) ∧ w' = w := by
  by_cases h0 : at' < 0
  · go_enter Yba.func9, Yba.ntmps9
    go_wp2
    refine bodyPost_ret (results_none rfl _ _ _) rfl ?_
    exact ⟨rfl, rfl⟩
  · have h1 : st = true := by rcases h with h | h <;> first | omega | exact h
    subst h1
    go_enter Yba.func9, Yba.ntmps9
    go_wp2
    refine bodyPost_ret (results_none rfl _ _ _) rfl ?_
    exact ⟨rfl, rfl⟩

set_option maxHeartbeats 400000 in
theorem start_soon (ba bg : Nat) (at' now : Int) (w : World)
    (hat : w.cell? ⟨bg, 3, none⟩ = some (.int .i64 at')) (hst : w.cell? ⟨bg, 4, none⟩ = some (.bool false))
    (hfz : w.frozen? ⟨bg, 4, none⟩ = false)
    (h : 0 ≤ at') (hn : now ≤ at') :
    Calls Yba.prog 9 #[.pointer (some ⟨ba, 0, none⟩), .pointer (some ⟨bg, 0, none⟩), .int .i64 now] w fun e w' => e = .returned (.tuple #[]) ∧ w' = w.setCell ⟨bg, 4, none⟩ (.bool true) := by
  have h1 : ¬ at' < 0 := by omega
  have h2 : ¬ at' < now := by omega
  go_enter Yba.func9, Yba.ntmps9
  go_wp2
  go_end0
  exact ⟨rfl, rfl⟩

set_option maxHeartbeats 400000 in
theorem start_late (ba bg : Nat) (at' now wt : Int) (w : World)
    (hat : w.cell? ⟨bg, 3, none⟩ = some (.int .i64 at')) (hst : w.cell? ⟨bg, 4, none⟩ = some (.bool false))
    (hwt : w.cell? ⟨ba, 2, none⟩ = some (.int .u64 wt))
    (hfz : w.frozen? ⟨bg, 4, none⟩ = false) (hfa : w.frozen? ⟨ba, 2, none⟩ = false)
    (h : 0 ≤ at') (hn : at' < now) :
    Calls Yba.prog 9 #[.pointer (some ⟨ba, 0, none⟩), .pointer (some ⟨bg, 0, none⟩), .int .i64 now] w fun e w' => e = .returned (.tuple #[]) ∧ w' = (w.setCell ⟨bg, 4, none⟩ (.bool true)).setCell ⟨ba, 2, none⟩ (.int .u64 (IntKind.u64.wrap (wt + 1))) := by
  have h1 : ¬ at' < 0 := by omega
  go_enter Yba.func9, Yba.ntmps9
  go_wp2
  go_end0
  exact ⟨rfl, rfl⟩
end Go.Proofs.Ybulkcxnm
