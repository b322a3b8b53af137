import Derived.Test.YbulkcxrgFmtRows
import Derived.WalkKit
import Derived.ProofKit
import Derived.OwnWalk
import Derived.Below
import Derived.RegionTactic
import Derived.Deep.QuietTactic
import Derived.BigQuiet
import Derived.Deep.RegionWith
import Derived.Lib.AppendZeros
import Derived.Lib.Hide
import Derived.Lib.ByteType
import Derived.Laws.CopyRow
import Derived.Laws.IdiomCopy
import Derived.Laws.Cover3
import Derived.WideLaws
import Derived.Defers
import Derived.Recover
namespace Go.Proofs.YbulkcxrgFmt
open Go.RowKit
set_option linter.unusedVariables false

/-- (*bytes.Buffer).Len, the buffer at cells 11 to 13 of block G. -/
theorem len_any (G n cap : Nat) (ao : Option Addr) (w : World) (hn : n ≤ 281474976710656) (c0 : w.cell? ⟨G, 11, none⟩ = some (.slice ao n cap)) (c1 : w.cell? ⟨G, 12, none⟩ = some (.int .i64 0)) :
    Calls Ybaf.prog 4 #[.pointer (some ⟨G, 11, none⟩)] w fun e w' => e = .returned (.int .i64 n) ∧ ∃ m, w' = w.drewN m := by
  go_enter Ybaf.func4, Ybaf.ntmps4
  go_wp2
  go_quiet (fail)
  go_wp2
  go_ret
  exact ⟨by simp, _, rfl⟩

theorem tryGrow_none (G n : Nat) (w : World) (hn : 1 ≤ n) (hn2 : n ≤ 281474976710656) (c0 : w.cell? ⟨G, 11, none⟩ = some (.slice none 0 0)) :
    Calls Ybaf.prog 28 #[.pointer (some ⟨G, 11, none⟩), .int .i64 n] w fun e w' => e = .returned (.tuple #[.int .i64 0, .bool false]) ∧ w' = w := by
  go_enter Ybaf.func28, Ybaf.ntmps28
  go_wp2
  go_ret2
  exact ⟨rfl, rfl⟩

/-- growSlice's deferred closure: there is nothing to recover. -/
theorem catch_idle (w : World) :
    CallsD Ybaf.prog 31 #[] .returning w fun e u' w' => e = .returned (.tuple #[]) ∧ u' = .returning ∧ w' = w := by
  have hnn : ∀ w, (binOp .neq 20 .nilIface .nilIface).run Ybaf.prog w = .ok (.bool false) w := fun w => Lib.run_neq_nil_nil w Ybaf.underlying20
  refine callsD_of_wpS Ybaf.func31 rfl fun c₀ cs hu => ?_
  apply wpS_seq
  apply wpS_region
  simp [wpOpsS, go_sem, recoverD, hu, hnn, Ybaf.ntmps31, Exit.thenS]
  refine wpS_cond (t := false) (by simp [Act.eval, Array.replicate]) ?_
  simp only [Bool.false_eq_true, if_false]
  refine wpS_of_wp (wp_skip ?_)
  cases c₀
  simp_all [bodyPostS, results]

theorem info5 : (Ybaf.prog.info? 5).map (fun i => (i.zero, i.size, i.bytes)) = some (some (.int .u8 0), 1, 1) := by kernel_rfl
theorem enters31 (args : Array Value) (w : World) : (callFunc 31 args).run Ybaf.prog w = .ok (.enter 31 args) w := by kernel_rfl

set_option maxHeartbeats 6400000 in
set_option maxRecDepth 100000 in
/-- bytes.growSlice of the nil slice: a new row with room for n. -/
theorem growSlice_nil (n : Nat) (w : World) (hn : 1 ≤ n) (hlim : n ≤ 281474976710656) :
    Calls Ybaf.prog 30 #[.slice none 0 0, .int .i64 n] w fun e w' => ∃ cap2 cells, e = .returned (.slice (some ⟨w.heap.size, 0, none⟩) 0 cap2) ∧ w' = (w.alloc (.cells cells 5)).drew ∧ cells.size = cap2 ∧ n ≤ cap2 ∧ cap2 ≤ maxLen := by
  obtain ⟨i0, hi, hz0, hz1, hz2⟩ := info_parts info5
  have happ := Lib.run_append_nil_zeros (P := Ybaf.prog) w 32 3 32 5 i0 (.int .u8 0) .i64 .i64 Ybaf.underlying32 Ybaf.underlying3 hi hz0 n (by omega) (by omega) (by omega) (by rw [hz2]; omega)
  generalize hcap : grownCap w n 0 5 = cap2 at happ
  have hcapge : n ≤ cap2 := by rw [← hcap]; exact grownCap_ge w _ 0 5
  have hcaple : cap2 ≤ maxLen := by rw [← hcap]; exact grownCap_le_maxLen w _ 0 5 (by unfold maxLen; omega)
  generalize hZ : (Builtin.zeroCells (Value.int .u8 0).cells n ++ Builtin.zeroCells (Value.int .u8 0).cells (cap2 - n)) = Z at happ
  have hZs : Z.size = cap2 := by rw [← hZ]; simp [size_zeroCells, Value.cells]; omega
  clear hcap hZ
  have hcopy := run_copy_nil (P := Ybaf.prog) (w.alloc (.cells Z 5)).drew 32 32 3 5 ⟨w.heap.size, 0, none⟩ n cap2 Ybaf.underlying32 (by rw [hi]; rfl)
  go_enter_defers Ybaf.func30, Ybaf.ntmps30
  go_wp2_with (at_builtin; refine Lib.wpList_append_run _ rfl _ _ _ _ rfl _ _ rfl rfl _ _ happ ?_)
  refine leaves_cons (f := 31) (args := #[]) (by simp) (enters31 _ _) ?_
  refine (catch_idle _).mono ?_
  rintro e u' w'' ⟨rfl, rfl, rfl⟩
  refine ⟨_, results_tmp rfl _ _ _, ?_⟩
  exact ⟨cap2, Z, rfl, rfl, hZs, hcapge, hcaple⟩
end Go.Proofs.YbulkcxrgFmt
