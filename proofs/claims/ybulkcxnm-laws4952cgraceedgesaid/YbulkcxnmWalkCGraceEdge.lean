import Derived.Test.YbulkcxnmWalksC
namespace Go.Proofs.Ybulkcxnm.lawS4952CGraceEdge
open Go.ChangeShapes Go.WideShapes Go.ChangeAt Go.RowKit
set_option linter.unusedVariables false

theorem edge (now k : Int) (h0 : 0 ≤ k) (h1 : k ≤ 20000000) : wrap64 (now - wrap64 (now - k)) = k := by
  unfold wrap64; omega
theorem edgeB (now off : Int) (h0 : 0 ≤ off) : decide (wrap64 (now - wrap64 (now - off % 20000001)) < 10000000) = decide (off % 20000001 < 10000000) := by
  rw [edge now (off % 20000001) (by omega) (by omega)]

set_option maxRecDepth 100000 in
set_option maxHeartbeats 1000000 in
theorem walk_spin (now off : Int) (w : World) (h0 : 0 ≤ off) (h1 : off ≤ 4294967295) :
    Calls Yba.prog 8 #[.int .i64 now, .int .u32 off, .bool true] w fun e w' => e = .returned (.bool true) ∧ Grown w w' := by
  go_enter Yba.func8, Yba.ntmps8
  go_wp2_with fail
  refine (spared_spin _ _ w.heap.size 0 now (wrap64 (now - off % 20000001)) 1 none 0 _ (by go_simp) (by go_simp) (by go_simp) (by omega) (by go_simp) (by go_simp) (by go_simp) (by go_simp) (by omega)).mono ?_
  rintro e w' ⟨rfl, n1, rfl⟩
  rw [edgeB now off h0]
  go_wp2
  go_ret
  exact ⟨by simp, by repeat (first | exact Grown.refl _ | apply grown_drewN' | apply Grown.alloc | refine Grown.setCell ?_ (by simp) _)⟩

set_option maxRecDepth 100000 in
set_option maxHeartbeats 1000000 in
theorem walk_idle (now off : Int) (w : World) (h0 : 0 ≤ off) (h1 : off ≤ 4294967295) :
    Calls Yba.prog 8 #[.int .i64 now, .int .u32 off, .bool false] w fun e w' => e = .returned (.bool true) ∧ Grown w w' := by
  go_enter Yba.func8, Yba.ntmps8
  go_wp2_with fail
  refine (spared_idle _ _ w.heap.size 0 now (wrap64 (now - off % 20000001)) _ 1 1 _ (by go_simp) (by go_simp) (by go_simp) (by omega) (by go_simp; rfl) (by go_simp) (by go_simp) (by omega)).mono ?_
  rintro e w' ⟨rfl, n1, rfl⟩
  rw [edgeB now off h0]
  go_wp2
  go_ret
  exact ⟨by simp, by repeat (first | exact Grown.refl _ | apply grown_drewN' | apply Grown.alloc | refine Grown.setCell ?_ (by simp) _)⟩
end Go.Proofs.Ybulkcxnm.lawS4952CGraceEdge
