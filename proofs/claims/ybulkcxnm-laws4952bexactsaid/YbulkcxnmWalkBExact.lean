import Derived.Test.YbulkcxnmWalksB
namespace Go.Proofs.Ybulkcxnm.lawS4952BExact
open Go.ChangeShapes Go.WideShapes Go.ChangeAt Go.RowKit
set_option linter.unusedVariables false

set_option maxRecDepth 100000 in
set_option maxHeartbeats 1000000 in
theorem walk_lt (at1 i1 at2 i2 left ev : Int) (w : World) (h : at1 < at2) :
    Calls Yba.prog 5 #[.int .i64 at1, .int .i64 i1, .int .i64 at2, .int .i64 i2, .int .i64 left, .int .i64 ev] w fun e w' => e = .returned (.bool true) ∧ Grown w w' := by
  have hl : lexB at1 i1 at2 i2 = true := by unfold lexB; exact decide_eq_true (by omega)
  go_enter Yba.func5, Yba.ntmps5
  go_wp2_with fail
  refine (mk_any at1 i1 left ev _).mono ?_
  rintro e w' ⟨rfl, rfl⟩
  go_wp2_with fail
  refine (mk_any at2 i2 _ _ _).mono ?_
  rintro e w' ⟨rfl, rfl⟩
  go_wp2_with fail
  refine (before_any _ _ at1 i1 at2 i2 _ (by go_simp) (by go_simp) (by go_simp) (by go_simp)).mono ?_
  rintro e w' ⟨rfl, n1, rfl⟩
  go_wp2_with fail
  refine (same_any _ at1 i1 left ev _ (by go_simp) (by go_simp) (by go_simp) (by go_simp) (by go_simp)).mono ?_
  rintro e w' ⟨rfl, rfl⟩
  go_wp2_with fail
  refine (same_any _ at2 i2 _ _ _ (by go_simp) (by go_simp) (by go_simp) (by go_simp) (by go_simp)).mono ?_
  rintro e w' ⟨rfl, rfl⟩
  go_wp2_with fail
  go_ret
  exact ⟨rfl, by repeat (first | exact Grown.refl _ | apply grown_drewN | apply Grown.alloc)⟩

set_option maxRecDepth 100000 in
set_option maxHeartbeats 1000000 in
theorem walk_gt (at1 i1 at2 i2 left ev : Int) (w : World) (h : at2 < at1) :
    Calls Yba.prog 5 #[.int .i64 at1, .int .i64 i1, .int .i64 at2, .int .i64 i2, .int .i64 left, .int .i64 ev] w fun e w' => e = .returned (.bool true) ∧ Grown w w' := by
  have hl : lexB at1 i1 at2 i2 = false := by unfold lexB; exact decide_eq_false (by omega)
  have h2 : ¬ at1 < at2 := by omega
  have h3 : (at1 == at2) = false := beq_eq_false_iff_ne.2 (by omega)
  go_enter Yba.func5, Yba.ntmps5
  go_wp2_with fail
  refine (mk_any at1 i1 left ev _).mono ?_
  rintro e w' ⟨rfl, rfl⟩
  go_wp2_with fail
  refine (mk_any at2 i2 _ _ _).mono ?_
  rintro e w' ⟨rfl, rfl⟩
  go_wp2_with fail
  refine (before_any _ _ at1 i1 at2 i2 _ (by go_simp) (by go_simp) (by go_simp) (by go_simp)).mono ?_
  rintro e w' ⟨rfl, n1, rfl⟩
  go_wp2_with fail
  refine (same_any _ at1 i1 left ev _ (by go_simp) (by go_simp) (by go_simp) (by go_simp) (by go_simp)).mono ?_
  rintro e w' ⟨rfl, rfl⟩
  go_wp2_with fail
  refine (same_any _ at2 i2 _ _ _ (by go_simp) (by go_simp) (by go_simp) (by go_simp) (by go_simp)).mono ?_
  rintro e w' ⟨rfl, rfl⟩
  go_wp2_with fail
  go_ret
  exact ⟨rfl, by repeat (first | exact Grown.refl _ | apply grown_drewN | apply Grown.alloc)⟩

set_option maxRecDepth 100000 in
set_option maxHeartbeats 1000000 in
theorem walk_eq (at1 i1 i2 left ev : Int) (w : World) :
    Calls Yba.prog 5 #[.int .i64 at1, .int .i64 i1, .int .i64 at1, .int .i64 i2, .int .i64 left, .int .i64 ev] w fun e w' => e = .returned (.bool true) ∧ Grown w w' := by
  have h2 : ¬ at1 < at1 := by omega
  by_cases h : i1 < i2
  · have hl : lexB at1 i1 at1 i2 = true := by unfold lexB; exact decide_eq_true (by omega)
    go_enter Yba.func5, Yba.ntmps5
    go_wp2_with fail
    refine (mk_any at1 i1 left ev _).mono ?_
    rintro e w' ⟨rfl, rfl⟩
    go_wp2_with fail
    refine (mk_any at1 i2 _ _ _).mono ?_
    rintro e w' ⟨rfl, rfl⟩
    go_wp2_with fail
    refine (before_any _ _ at1 i1 at1 i2 _ (by go_simp) (by go_simp) (by go_simp) (by go_simp)).mono ?_
    rintro e w' ⟨rfl, n1, rfl⟩
    go_wp2_with fail
    refine (same_any _ at1 i1 left ev _ (by go_simp) (by go_simp) (by go_simp) (by go_simp) (by go_simp)).mono ?_
    rintro e w' ⟨rfl, rfl⟩
    go_wp2_with fail
    refine (same_any _ at1 i2 _ _ _ (by go_simp) (by go_simp) (by go_simp) (by go_simp) (by go_simp)).mono ?_
    rintro e w' ⟨rfl, rfl⟩
    go_wp2_with fail
    go_ret
    exact ⟨rfl, by repeat (first | exact Grown.refl _ | apply grown_drewN | apply Grown.alloc)⟩
  · have hl : lexB at1 i1 at1 i2 = false := by unfold lexB; exact decide_eq_false (by omega)
    go_enter Yba.func5, Yba.ntmps5
    go_wp2_with fail
    refine (mk_any at1 i1 left ev _).mono ?_
    rintro e w' ⟨rfl, rfl⟩
    go_wp2_with fail
    refine (mk_any at1 i2 _ _ _).mono ?_
    rintro e w' ⟨rfl, rfl⟩
    go_wp2_with fail
    refine (before_any _ _ at1 i1 at1 i2 _ (by go_simp) (by go_simp) (by go_simp) (by go_simp)).mono ?_
    rintro e w' ⟨rfl, n1, rfl⟩
    go_wp2_with fail
    refine (same_any _ at1 i1 left ev _ (by go_simp) (by go_simp) (by go_simp) (by go_simp) (by go_simp)).mono ?_
    rintro e w' ⟨rfl, rfl⟩
    go_wp2_with fail
    refine (same_any _ at1 i2 _ _ _ (by go_simp) (by go_simp) (by go_simp) (by go_simp) (by go_simp)).mono ?_
    rintro e w' ⟨rfl, rfl⟩
    go_wp2_with fail
    go_ret
    exact ⟨rfl, by repeat (first | exact Grown.refl _ | apply grown_drewN | apply Grown.alloc)⟩

theorem walk_all (at1 i1 at2 i2 left ev : Int) (w : World) :
    Calls Yba.prog 5 #[.int .i64 at1, .int .i64 i1, .int .i64 at2, .int .i64 i2, .int .i64 left, .int .i64 ev] w fun e w' => e = .returned (.bool true) ∧ Grown w w' := by
  by_cases ha : at1 = at2
  · subst ha; exact walk_eq at1 i1 i2 left ev w
  · by_cases hl : at1 < at2
    · exact walk_lt at1 i1 at2 i2 left ev w hl
    · exact walk_gt at1 i1 at2 i2 left ev w (by omega)
end Go.Proofs.Ybulkcxnm.lawS4952BExact
