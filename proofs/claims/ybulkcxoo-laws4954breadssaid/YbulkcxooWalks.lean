import Derived.Test.YbulkcxooRows
import Derived.WalkKit
import Derived.ProofKit
import Derived.OpenShut
import Derived.ShutString
import Derived.Below
import Derived.RowKit3
import Derived.Deep.Draws
import Derived.WalkSmall
import Derived.WideLaws
import Derived.Laws.Cover3
import Derived.Laws.Slices
namespace Go.Proofs.Ybulkcxoo
open Go.ChangeShapes Go.WideShapes Go.ChangeAt Go.RowKit
set_option linter.unusedVariables false

set_option maxHeartbeats 400000 in
theorem new_any (s : ByteArray) (w : World) :
    Calls Yba.prog 4 #[.string s] w fun e w' => e = .returned (.iface 31 (.pointer (some ⟨w.heap.size, 0, none⟩))) ∧ w' = w.alloc (.cells #[.string s] 33) := by
  go_enter Yba.func4, Yba.ntmps4
  go_wp2
  go_ret
  exact ⟨rfl, rfl⟩

set_option maxHeartbeats 400000 in
theorem take_err (D : Nat) (t : TypeId) (v : Value) (w : World) (h1 : w.cell? ⟨D, 1, none⟩ = some (.iface t v)) :
    Calls Yba.prog 6 #[.pointer (some ⟨D, 0, none⟩), .int .i64 1] w fun e w' => e = .returned (.slice none 0 0) ∧ w' = w := by
  go_enter Yba.func6, Yba.ntmps6
  go_wp2
  go_ret
  exact ⟨rfl, rfl⟩

set_option maxHeartbeats 400000 in
theorem take_short (D : Nat) (a : Option Addr) (c : Nat) (w : World) (hD : D < w.heap.size) (h1 : w.cell? ⟨D, 1, none⟩ = some .nilIface) (h0 : w.cell? ⟨D, 0, none⟩ = some (.slice a 0 c)) (hf : w.frozen? ⟨D, 1, none⟩ = false) :
    Calls Yba.prog 6 #[.pointer (some ⟨D, 0, none⟩), .int .i64 1] w fun e w' => e = .returned (.slice none 0 0) ∧ ∃ s, w' = (w.setCell ⟨D, 1, none⟩ (.iface 31 (.pointer (some ⟨w.heap.size, 0, none⟩)))).alloc (.cells #[.string s] 33) := by
  have c1 : ∀ o, (w.alloc o).cell? ⟨D, 1, none⟩ = some .nilIface := fun o => by rw [World.cell?_alloc_past _ _ _ hD, h1]
  have f1 : ∀ o, (w.alloc o).frozen? ⟨D, 1, none⟩ = false := fun o => by rw [World.frozen?_alloc_past _ _ _ hD, hf]
  go_enter Yba.func6, Yba.ntmps6
  go_wp2_with fail
  refine (new_any _ _).mono ?_
  rintro e w' ⟨rfl, rfl⟩
  go_wp2
  go_ret
  exact ⟨rfl, _, rfl⟩

set_option maxHeartbeats 400000 in
theorem take_last (D B p : Nat) (w : World) (h1 : w.cell? ⟨D, 1, none⟩ = some .nilIface) (h0 : w.cell? ⟨D, 0, none⟩ = some (.slice (some ⟨B, p, none⟩) 1 1)) (hf : w.frozen? ⟨D, 0, none⟩ = false) :
    Calls Yba.prog 6 #[.pointer (some ⟨D, 0, none⟩), .int .i64 1] w fun e w' => e = .returned (.slice (some ⟨B, p, none⟩) 1 1) ∧ w' = w.setCell ⟨D, 0, none⟩ (.slice (some ⟨B, p, none⟩) 0 0) := by
  go_enter Yba.func6, Yba.ntmps6
  go_wp2
  go_ret
  exact ⟨rfl, rfl⟩

set_option maxHeartbeats 400000 in
theorem take_more (D B p l : Nat) (w : World) (hl : l ≤ 1024) (h1 : w.cell? ⟨D, 1, none⟩ = some .nilIface) (h0 : w.cell? ⟨D, 0, none⟩ = some (.slice (some ⟨B, p, none⟩) (l + 2) (l + 2))) (hf : w.frozen? ⟨D, 0, none⟩ = false) :
    Calls Yba.prog 6 #[.pointer (some ⟨D, 0, none⟩), .int .i64 1] w fun e w' => e = .returned (.slice (some ⟨B, p, none⟩) 1 (l + 2)) ∧ w' = w.setCell ⟨D, 0, none⟩ (.slice (some ⟨B, p + 1, none⟩) (l + 1) (l + 1)) := by
  go_enter Yba.func6, Yba.ntmps6
  go_wp2
  go_ret
  exact ⟨rfl, rfl⟩

set_option maxHeartbeats 400000 in
theorem u8_err (D : Nat) (t : TypeId) (v : Value) (w : World) (h1 : w.cell? ⟨D, 1, none⟩ = some (.iface t v)) :
    Calls Yba.prog 5 #[.pointer (some ⟨D, 0, none⟩)] w fun e w' => e = .returned (.int .u8 0) ∧ w' = w := by
  go_enter Yba.func5, Yba.ntmps5
  go_wp2_with fail
  refine (take_err D t v _ h1).mono ?_
  rintro e w' ⟨rfl, rfl⟩
  go_wp2
  go_ret
  exact ⟨rfl, rfl⟩

set_option maxHeartbeats 400000 in
theorem u8_short (D : Nat) (a : Option Addr) (c : Nat) (w : World) (hD : D < w.heap.size) (h1 : w.cell? ⟨D, 1, none⟩ = some .nilIface) (h0 : w.cell? ⟨D, 0, none⟩ = some (.slice a 0 c)) (hf : w.frozen? ⟨D, 1, none⟩ = false) :
    Calls Yba.prog 5 #[.pointer (some ⟨D, 0, none⟩)] w fun e w' => e = .returned (.int .u8 0) ∧ ∃ s, w' = (w.setCell ⟨D, 1, none⟩ (.iface 31 (.pointer (some ⟨w.heap.size, 0, none⟩)))).alloc (.cells #[.string s] 33) := by
  go_enter Yba.func5, Yba.ntmps5
  go_wp2_with fail
  refine (take_short D a c _ hD h1 h0 hf).mono ?_
  rintro e w' ⟨rfl, s, rfl⟩
  go_wp2
  go_ret
  exact ⟨rfl, _, rfl⟩

set_option maxHeartbeats 400000 in
theorem u8_last (D B p : Nat) (x : Int) (w : World) (hBD : B ≠ D) (h1 : w.cell? ⟨D, 1, none⟩ = some .nilIface) (h0 : w.cell? ⟨D, 0, none⟩ = some (.slice (some ⟨B, p, none⟩) 1 1)) (hf : w.frozen? ⟨D, 0, none⟩ = false) (hx : w.cell? ⟨B, p, none⟩ = some (.int .u8 x)) :
    Calls Yba.prog 5 #[.pointer (some ⟨D, 0, none⟩)] w fun e w' => e = .returned (.int .u8 x) ∧ w' = w.setCell ⟨D, 0, none⟩ (.slice (some ⟨B, p, none⟩) 0 0) := by
  have hx2 : ∀ v, (w.setCell ⟨D, 0, none⟩ v).cell? ⟨B, p, none⟩ = some (.int .u8 x) := fun v => by rw [World.cell?_setCell_other _ _ _ _ (by intro e; injection e with e1; exact hBD e1.symm), hx]
  go_enter Yba.func5, Yba.ntmps5
  go_wp2_with fail
  refine (take_last D B p _ h1 h0 hf).mono ?_
  rintro e w' ⟨rfl, rfl⟩
  go_wp2
  go_ret
  exact ⟨rfl, rfl⟩

set_option maxHeartbeats 400000 in
theorem u8_more (D B p l : Nat) (x : Int) (w : World) (hBD : B ≠ D) (hl : l ≤ 1024) (h1 : w.cell? ⟨D, 1, none⟩ = some .nilIface) (h0 : w.cell? ⟨D, 0, none⟩ = some (.slice (some ⟨B, p, none⟩) (l + 2) (l + 2))) (hf : w.frozen? ⟨D, 0, none⟩ = false) (hx : w.cell? ⟨B, p, none⟩ = some (.int .u8 x)) :
    Calls Yba.prog 5 #[.pointer (some ⟨D, 0, none⟩)] w fun e w' => e = .returned (.int .u8 x) ∧ w' = w.setCell ⟨D, 0, none⟩ (.slice (some ⟨B, p + 1, none⟩) (l + 1) (l + 1)) := by
  have hx2 : ∀ v, (w.setCell ⟨D, 0, none⟩ v).cell? ⟨B, p, none⟩ = some (.int .u8 x) := fun v => by rw [World.cell?_setCell_other _ _ _ _ (by intro e; injection e with e1; exact hBD e1.symm), hx]
  go_enter Yba.func5, Yba.ntmps5
  go_wp2_with fail
  refine (take_more D B p l _ hl h1 h0 hf).mono ?_
  rintro e w' ⟨rfl, rfl⟩
  go_wp2
  go_ret
  exact ⟨rfl, rfl⟩
end Go.Proofs.Ybulkcxoo
