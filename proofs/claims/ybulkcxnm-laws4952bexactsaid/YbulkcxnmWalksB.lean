import Derived.Test.YbulkcxnmRows
import Derived.WalkKit
import Derived.ProofKit
import Derived.OpenShut
import Derived.ShutString
import Derived.Below
import Derived.RowKit3
import Derived.RegionTactic
import Derived.Deep.QuietTactic
import Derived.BigQuiet
namespace Go.Proofs.Ybulkcxnm
open Go.ChangeShapes Go.WideShapes Go.ChangeAt Go.RowKit

theorem grown_drewN {W w' : World} (h : Grown W w') (n : Nat) : Grown W (w'.drewN n) := h

def lexB (at1 i1 at2 i2 : Int) : Bool := decide (at1 < at2 ∨ (at1 = at2 ∧ i1 < i2))

set_option maxHeartbeats 400000 in
theorem mk_any (at' ix left ev : Int) (w : World) :
    Calls Yba.prog 10 #[.int .i64 at', .int .i64 ix, .int .i64 left, .int .i64 ev] w fun e w' => e = .returned (.pointer (some ⟨w.heap.size, 0, none⟩)) ∧ w' = w.alloc (.cells #[.pointer none, .int .i64 ix, .int .i64 at', .int .i64 left, .int .i64 ev] 83) := by
  go_enter Yba.func10, Yba.ntmps10
  go_wp2
  go_ret
  exact ⟨rfl, rfl⟩

set_option maxHeartbeats 400000 in
theorem before_ne (b1 b2 : Nat) (at1 i1 at2 i2 : Int) (w : World)
    (h1 : w.cell? ⟨b1, 2, none⟩ = some (.int .i64 at1)) (h2 : w.cell? ⟨b2, 2, none⟩ = some (.int .i64 at2))
    (hne : at1 ≠ at2) :
    Calls Yba.prog 11 #[.pointer (some ⟨b1, 0, none⟩), .pointer (some ⟨b2, 0, none⟩)] w fun e w' => e = .returned (.bool (lexB at1 i1 at2 i2)) ∧ ∃ n, w' = w.drewN n := by
  have hb : (at1 != at2) = true := by rw [bne_iff_ne]; exact hne
  have HL : Hid (lexB at1 i1 at2 i2 = decide (at1 < at2)) := by
    show lexB at1 i1 at2 i2 = decide (at1 < at2)
    unfold lexB; rw [decide_eq_decide]; omega
  clear hne
  go_enter Yba.func11, Yba.ntmps11
  go_wp2
  go_quiet (fail)
  go_wp2
  go_quiet (fail)
  go_wp2
  go_ret
  exact ⟨by rw [HL.out]; rfl, _, World.drewN_drewN _ _ _⟩

set_option maxHeartbeats 400000 in
theorem before_eq (b1 b2 : Nat) (at1 i1 i2 : Int) (w : World)
    (h1 : w.cell? ⟨b1, 2, none⟩ = some (.int .i64 at1)) (h2 : w.cell? ⟨b2, 2, none⟩ = some (.int .i64 at1))
    (h3 : w.cell? ⟨b1, 1, none⟩ = some (.int .i64 i1)) (h4 : w.cell? ⟨b2, 1, none⟩ = some (.int .i64 i2)) :
    Calls Yba.prog 11 #[.pointer (some ⟨b1, 0, none⟩), .pointer (some ⟨b2, 0, none⟩)] w fun e w' => e = .returned (.bool (lexB at1 i1 at1 i2)) ∧ ∃ n, w' = w.drewN n := by
  have HL : Hid (lexB at1 i1 at1 i2 = decide (i1 < i2)) := by
    show lexB at1 i1 at1 i2 = decide (i1 < i2)
    unfold lexB; rw [decide_eq_decide]; omega
  go_enter Yba.func11, Yba.ntmps11
  go_wp2
  go_quiet (fail)
  go_wp2
  go_quiet (fail)
  go_wp2
  go_ret
  exact ⟨by rw [HL.out]; rfl, _, World.drewN_drewN _ _ _⟩

theorem before_any (b1 b2 : Nat) (at1 i1 at2 i2 : Int) (w : World)
    (h1 : w.cell? ⟨b1, 2, none⟩ = some (.int .i64 at1)) (h2 : w.cell? ⟨b2, 2, none⟩ = some (.int .i64 at2))
    (h3 : w.cell? ⟨b1, 1, none⟩ = some (.int .i64 i1)) (h4 : w.cell? ⟨b2, 1, none⟩ = some (.int .i64 i2)) :
    Calls Yba.prog 11 #[.pointer (some ⟨b1, 0, none⟩), .pointer (some ⟨b2, 0, none⟩)] w fun e w' => e = .returned (.bool (lexB at1 i1 at2 i2)) ∧ ∃ n, w' = w.drewN n := by
  by_cases h : at1 = at2
  · subst h; exact before_eq b1 b2 at1 i1 i2 w h1 h2 h3 h4
  · exact before_ne b1 b2 at1 i1 at2 i2 w h1 h2 h

set_option maxRecDepth 100000 in
set_option maxHeartbeats 1000000 in
theorem same_any (b : Nat) (at1 ix left ev : Int) (w : World)
    (h0 : w.cell? ⟨b, 0, none⟩ = some (.pointer none)) (h1 : w.cell? ⟨b, 1, none⟩ = some (.int .i64 ix)) (h2 : w.cell? ⟨b, 2, none⟩ = some (.int .i64 at1))
    (h3 : w.cell? ⟨b, 3, none⟩ = some (.int .i64 left)) (h4 : w.cell? ⟨b, 4, none⟩ = some (.int .i64 ev)) :
    Calls Yba.prog 12 #[.pointer (some ⟨b, 0, none⟩), .int .i64 at1, .int .i64 ix, .int .i64 left, .int .i64 ev] w fun e w' => e = .returned (.bool true) ∧ w' = w := by
  go_enter Yba.func12, Yba.ntmps12
  go_wp2
  go_ret
  exact ⟨rfl, rfl⟩
end Go.Proofs.Ybulkcxnm
