import Derived.Laws.Cover3
import Derived.Test.YbulkcxnmWalks
namespace Go.Proofs.Ybulkcxnm.lawS4952AExact
open Go.ChangeShapes Go.WideShapes Go.ChangeAt Go.RowKit
set_option linter.unusedVariables false

set_option maxRecDepth 100000 in
set_option maxHeartbeats 1000000 in
theorem walk_quiet (a0 a1 a2 a3 a4 a5 a6 a7 a8 : Int) (a9 : Bool) (a10 : Int) (w : World) (h : a6 < 0 ∨ a9 = true) :
    Calls Yba.prog 3 #[.int .u64 a0, .int .u64 a1, .int .u64 a2, .int .u64 a3, .int .u64 a4, .int .u64 a5, .int .i64 a6, .int .i64 a7, .int .i64 a8, .bool a9, .int .i64 a10] w fun e w' => e = .returned (.bool true) ∧ Grown w w' := by
  have H : Hid (a6 < 0 ∨ a9 = true) := h
  by_cases h6 : a6 < 0
  · clear h
    have h7 : ¬ 0 ≤ a6 := by omega
    go_enter Yba.func3, Yba.ntmps3
    go_wp2_with fail
    refine (start_quiet _ _ a6 a8 a9 _ (by go_simp) (by go_simp) H.out).mono ?_
    rintro e w' ⟨rfl, rfl⟩
    go_wp2
    go_ret
    exact ⟨rfl, by repeat (first | exact Grown.refl _ | apply Grown.drew | apply Grown.alloc)⟩
  · have h7 : 0 ≤ a6 := by omega
    obtain rfl : a9 = true := by rcases h with h | h <;> first | omega | exact h
    clear h
    go_enter Yba.func3, Yba.ntmps3
    go_wp2_with fail
    refine (start_quiet _ _ a6 a8 true _ (by go_simp) (by go_simp) (.inr rfl)).mono ?_
    rintro e w' ⟨rfl, rfl⟩
    go_wp2
    go_ret
    exact ⟨rfl, by repeat (first | exact Grown.refl _ | apply Grown.drew | apply Grown.alloc)⟩

set_option maxRecDepth 100000 in
set_option maxHeartbeats 1000000 in
theorem walk_soon (a0 a1 a2 a3 a4 a5 a6 a7 a8 : Int) (a10 : Int) (w : World) (h : 0 ≤ a6) (hn : a8 ≤ a6) :
    Calls Yba.prog 3 #[.int .u64 a0, .int .u64 a1, .int .u64 a2, .int .u64 a3, .int .u64 a4, .int .u64 a5, .int .i64 a6, .int .i64 a7, .int .i64 a8, .bool false, .int .i64 a10] w fun e w' => e = .returned (.bool true) ∧ Grown w w' := by
  have h7 : ¬ a6 < 0 := by omega
  have h8 : ¬ a6 < a8 := by omega
  go_enter Yba.func3, Yba.ntmps3
  go_wp2_with fail
  refine (start_soon _ _ a6 a8 _ (by go_simp) (by go_simp) (by go_simp) h hn).mono ?_
  rintro e w' ⟨rfl, rfl⟩
  go_wp2
  go_ret
  exact ⟨rfl, by repeat (first | exact Grown.refl _ | apply Grown.drew | apply Grown.alloc | refine Grown.setCell ?_ (by simp) _)⟩

set_option maxRecDepth 100000 in
set_option maxHeartbeats 1000000 in
theorem walk_late (a0 a1 a2 a3 a4 a5 a6 a7 a8 : Int) (a10 : Int) (w : World) (h : 0 ≤ a6) (hn : a6 < a8) :
    Calls Yba.prog 3 #[.int .u64 a0, .int .u64 a1, .int .u64 a2, .int .u64 a3, .int .u64 a4, .int .u64 a5, .int .i64 a6, .int .i64 a7, .int .i64 a8, .bool false, .int .i64 a10] w fun e w' => e = .returned (.bool true) ∧ Grown w w' := by
  have h7 : ¬ a6 < 0 := by omega
  go_enter Yba.func3, Yba.ntmps3
  go_wp2_with fail
  refine (start_late _ _ a6 a8 a2 _ (by go_simp) (by go_simp) (by go_simp) (by go_simp) (by go_simp) h hn).mono ?_
  rintro e w' ⟨rfl, rfl⟩
  go_wp2
  go_ret
  exact ⟨rfl, by repeat (first | exact Grown.refl _ | apply Grown.drew | apply Grown.alloc | refine Grown.setCell ?_ (by simp) _)⟩
end Go.Proofs.Ybulkcxnm.lawS4952AExact
