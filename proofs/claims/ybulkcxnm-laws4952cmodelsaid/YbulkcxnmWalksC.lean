import Derived.Test.YbulkcxnmRows
import Derived.WalkKit
import Derived.ProofKit
import Derived.OpenShut
import Derived.ShutString
import Derived.Below
import Derived.RowKit3
import Derived.RegionTactic
import Derived.Deep.QuietTactic
import Derived.BigQuiet
namespace Go.Proofs.Ybulkcxnm
open Go.ChangeShapes Go.WideShapes Go.ChangeAt Go.RowKit
set_option linter.unusedVariables false

theorem grown_drewN' {W w' : World} (h : Grown W w') (n : Nat) : Grown W (w'.drewN n) := h

set_option maxHeartbeats 400000 in
theorem len_any (b : Nat) (n : Int) (w : World) (h : w.cell? ⟨b, 10, none⟩ = some (.int .i64 n)) :
    Calls Yba.prog 14 #[.pointer (some ⟨b, 8, none⟩)] w fun e w' => e = .returned (.int .i64 n) ∧ w' = w := by
  go_enter Yba.func14, Yba.ntmps14
  go_wp2
  go_ret
  exact ⟨rfl, rfl⟩

set_option maxHeartbeats 400000 in
theorem spared_next (br bc bp : Nat) (nx : Addr) (w : World)
    (hpp : w.cell? ⟨bc, 1, none⟩ = some (.pointer (some ⟨bp, 0, none⟩)))
    (hnx : w.cell? ⟨bp, 7, none⟩ = some (.pointer (some nx))) :
    Calls Yba.prog 13 #[.pointer (some ⟨br, 0, none⟩), .pointer (some ⟨bc, 0, none⟩)] w fun e w' => e = .returned (.bool false) ∧ w' = w := by
  go_enter Yba.func13, Yba.ntmps13
  go_wp2
  go_ret
  exact ⟨rfl, rfl⟩

set_option maxHeartbeats 400000 in
theorem spared_local (br bc bp : Nat) (ln : Int) (w : World)
    (hpp : w.cell? ⟨bc, 1, none⟩ = some (.pointer (some ⟨bp, 0, none⟩)))
    (hnx : w.cell? ⟨bp, 7, none⟩ = some (.pointer none)) (hln : w.cell? ⟨bp, 10, none⟩ = some (.int .i64 ln)) (h : 0 < ln) :
    Calls Yba.prog 13 #[.pointer (some ⟨br, 0, none⟩), .pointer (some ⟨bc, 0, none⟩)] w fun e w' => e = .returned (.bool false) ∧ w' = w := by
  go_enter Yba.func13, Yba.ntmps13
  go_wp2_with fail
  refine (len_any bp ln _ hln).mono ?_
  rintro e w' ⟨rfl, rfl⟩
  go_wp2
  go_ret
  exact ⟨rfl, rfl⟩

set_option maxRecDepth 100000 in
set_option maxHeartbeats 1000000 in
theorem spared_idle (br bc bp : Nat) (ln now seen : Int) (ia : Option Addr) (il ic : Nat) (w : World)
    (hpp : w.cell? ⟨bc, 1, none⟩ = some (.pointer (some ⟨bp, 0, none⟩)))
    (hnx : w.cell? ⟨bp, 7, none⟩ = some (.pointer none)) (hln : w.cell? ⟨bp, 10, none⟩ = some (.int .i64 ln)) (h : ln ≤ 0)
    (hid : w.cell? ⟨br, 11, none⟩ = some (.slice ia il ic)) (hnow : w.cell? ⟨br, 36, none⟩ = some (.int .i64 now)) (hseen : w.cell? ⟨bc, 3, none⟩ = some (.int .i64 seen))
    (hil : 0 < il) :
    Calls Yba.prog 13 #[.pointer (some ⟨br, 0, none⟩), .pointer (some ⟨bc, 0, none⟩)] w fun e w' => e = .returned (.bool (decide (wrap64 (now - seen) < 10000000))) ∧ ∃ n, w' = w.drewN n := by
  have h1 : ¬ 0 < ln := by omega
  have h2 : (0 : Int) < (il : Int) := by omega
  go_enter Yba.func13, Yba.ntmps13
  go_wp2_with fail
  refine (len_any bp ln _ hln).mono ?_
  rintro e w' ⟨rfl, rfl⟩
  go_wp2
  go_quiet (fail)
  go_wp2
  go_ret
  exact ⟨rfl, _, rfl⟩

set_option maxRecDepth 100000 in
set_option maxHeartbeats 1000000 in
theorem spared_spin (br bc bp : Nat) (ln now seen sp : Int) (ia : Option Addr) (ic : Nat) (w : World)
    (hpp : w.cell? ⟨bc, 1, none⟩ = some (.pointer (some ⟨bp, 0, none⟩)))
    (hnx : w.cell? ⟨bp, 7, none⟩ = some (.pointer none)) (hln : w.cell? ⟨bp, 10, none⟩ = some (.int .i64 ln)) (h : ln ≤ 0)
    (hid : w.cell? ⟨br, 11, none⟩ = some (.slice ia 0 ic)) (hsp : w.cell? ⟨br, 13, none⟩ = some (.int .i64 sp)) (hnow : w.cell? ⟨br, 36, none⟩ = some (.int .i64 now)) (hseen : w.cell? ⟨bc, 3, none⟩ = some (.int .i64 seen))
    (h0 : 0 < sp) :
    Calls Yba.prog 13 #[.pointer (some ⟨br, 0, none⟩), .pointer (some ⟨bc, 0, none⟩)] w fun e w' => e = .returned (.bool (decide (wrap64 (now - seen) < 10000000))) ∧ ∃ n, w' = w.drewN n := by
  have h1 : ¬ 0 < ln := by omega
  go_enter Yba.func13, Yba.ntmps13
  go_wp2_with fail
  refine (len_any bp ln _ hln).mono ?_
  rintro e w' ⟨rfl, rfl⟩
  go_wp2
  go_quiet (fail)
  go_wp2
  go_ret
  exact ⟨rfl, _, rfl⟩

set_option maxRecDepth 100000 in
set_option maxHeartbeats 1000000 in
theorem spared_none (br bc bp : Nat) (ln now seen sp : Int) (ia : Option Addr) (ic : Nat) (w : World)
    (hpp : w.cell? ⟨bc, 1, none⟩ = some (.pointer (some ⟨bp, 0, none⟩)))
    (hnx : w.cell? ⟨bp, 7, none⟩ = some (.pointer none)) (hln : w.cell? ⟨bp, 10, none⟩ = some (.int .i64 ln)) (h : ln ≤ 0)
    (hid : w.cell? ⟨br, 11, none⟩ = some (.slice ia 0 ic)) (hsp : w.cell? ⟨br, 13, none⟩ = some (.int .i64 sp)) 
    (h0 : sp ≤ 0) :
    Calls Yba.prog 13 #[.pointer (some ⟨br, 0, none⟩), .pointer (some ⟨bc, 0, none⟩)] w fun e w' => e = .returned (.bool false) ∧ ∃ n, w' = w.drewN n := by
  have h1 : ¬ 0 < ln := by omega
  have h2 : decide (0 < sp) = false := decide_eq_false (by omega)
  go_enter Yba.func13, Yba.ntmps13
  go_wp2_with fail
  refine (len_any bp ln _ hln).mono ?_
  rintro e w' ⟨rfl, rfl⟩
  go_wp2
  go_quiet (fail)
  go_wp2
  go_ret
  exact ⟨rfl, _, rfl⟩
end Go.Proofs.Ybulkcxnm
