import Derived.Test.YbulkcxnmWalksB
namespace Go.Proofs.Ybulkcxnm.lawS4952BStrict
open Go.ChangeShapes Go.WideShapes Go.ChangeAt Go.RowKit
set_option linter.unusedVariables false

theorem lex_self (a i : Int) : lexB a i a i = false := by unfold lexB; exact decide_eq_false (by omega)

set_option maxRecDepth 100000 in
set_option maxHeartbeats 1000000 in
theorem walk_eq (at1 i1 : Int) (w : World) :
    Calls Yba.prog 6 #[.int .i64 at1, .int .i64 i1, .int .i64 at1, .int .i64 i1] w fun e w' => e = .returned (.bool true) ∧ Grown w w' := by
  have hs := lex_self at1 i1
  go_enter Yba.func6, Yba.ntmps6
  go_wp2_with fail
  refine (mk_any at1 i1 0 0 _).mono ?_
  rintro e w' ⟨rfl, rfl⟩
  go_wp2_with fail
  refine (mk_any at1 i1 0 0 _).mono ?_
  rintro e w' ⟨rfl, rfl⟩
  go_wp2_with fail
  refine (before_any _ _ at1 i1 at1 i1 _ (by go_simp) (by go_simp) (by go_simp) (by go_simp)).mono ?_
  rintro e w' ⟨rfl, n1, rfl⟩
  go_wp2_with fail
  refine (before_any _ _ at1 i1 at1 i1 _ (by go_simp) (by go_simp) (by go_simp) (by go_simp)).mono ?_
  rintro e w' ⟨rfl, n2, rfl⟩
  go_wp2_with fail
  refine (before_any _ _ at1 i1 at1 i1 _ (by go_simp) (by go_simp) (by go_simp) (by go_simp)).mono ?_
  rintro e w' ⟨rfl, n3, rfl⟩
  go_wp2_with fail
  refine (before_any _ _ at1 i1 at1 i1 _ (by go_simp) (by go_simp) (by go_simp) (by go_simp)).mono ?_
  rintro e w' ⟨rfl, n4, rfl⟩
  go_wp2_with fail
  go_ret
  exact ⟨rfl, by repeat (first | exact Grown.refl _ | apply grown_drewN | apply Grown.alloc)⟩

set_option maxRecDepth 100000 in
set_option maxHeartbeats 1000000 in
theorem walk_at (at1 i1 at2 i2 : Int) (w : World) (h : (at1 == at2) = false) (x : Bool) (h1 : lexB at1 i1 at2 i2 = x) (h2 : lexB at2 i2 at1 i1 = !x) :
    Calls Yba.prog 6 #[.int .i64 at1, .int .i64 i1, .int .i64 at2, .int .i64 i2] w fun e w' => e = .returned (.bool true) ∧ Grown w w' := by
  have hs := lex_self at1 i1
  have hs2 := lex_self at2 i2
  cases x
  all_goals
    go_enter Yba.func6, Yba.ntmps6
    go_wp2_with fail
    refine (mk_any at1 i1 0 0 _).mono ?_
    rintro e w' ⟨rfl, rfl⟩
    go_wp2_with fail
    refine (mk_any at2 i2 0 0 _).mono ?_
    rintro e w' ⟨rfl, rfl⟩
    go_wp2_with fail
    refine (before_any _ _ at1 i1 at1 i1 _ (by go_simp) (by go_simp) (by go_simp) (by go_simp)).mono ?_
    rintro e w' ⟨rfl, n1, rfl⟩
    go_wp2_with fail
    refine (before_any _ _ at2 i2 at2 i2 _ (by go_simp) (by go_simp) (by go_simp) (by go_simp)).mono ?_
    rintro e w' ⟨rfl, n2, rfl⟩
    go_wp2_with fail
    refine (before_any _ _ at1 i1 at2 i2 _ (by go_simp) (by go_simp) (by go_simp) (by go_simp)).mono ?_
    rintro e w' ⟨rfl, n3, rfl⟩
    go_wp2_with fail
    refine (before_any _ _ at2 i2 at1 i1 _ (by go_simp) (by go_simp) (by go_simp) (by go_simp)).mono ?_
    rintro e w' ⟨rfl, n4, rfl⟩
    go_wp2_with fail
    go_ret
    exact ⟨rfl, by repeat (first | exact Grown.refl _ | apply grown_drewN | apply Grown.alloc)⟩

set_option maxRecDepth 100000 in
set_option maxHeartbeats 1000000 in
theorem walk_ix (at1 i1 i2 : Int) (w : World) (h : (i1 == i2) = false) (x : Bool) (h1 : lexB at1 i1 at1 i2 = x) (h2 : lexB at1 i2 at1 i1 = !x) :
    Calls Yba.prog 6 #[.int .i64 at1, .int .i64 i1, .int .i64 at1, .int .i64 i2] w fun e w' => e = .returned (.bool true) ∧ Grown w w' := by
  have hs := lex_self at1 i1
  have hs2 := lex_self at1 i2
  cases x
  all_goals
    go_enter Yba.func6, Yba.ntmps6
    go_wp2_with fail
    refine (mk_any at1 i1 0 0 _).mono ?_
    rintro e w' ⟨rfl, rfl⟩
    go_wp2_with fail
    refine (mk_any at1 i2 0 0 _).mono ?_
    rintro e w' ⟨rfl, rfl⟩
    go_wp2_with fail
    refine (before_any _ _ at1 i1 at1 i1 _ (by go_simp) (by go_simp) (by go_simp) (by go_simp)).mono ?_
    rintro e w' ⟨rfl, n1, rfl⟩
    go_wp2_with fail
    refine (before_any _ _ at1 i2 at1 i2 _ (by go_simp) (by go_simp) (by go_simp) (by go_simp)).mono ?_
    rintro e w' ⟨rfl, n2, rfl⟩
    go_wp2_with fail
    refine (before_any _ _ at1 i1 at1 i2 _ (by go_simp) (by go_simp) (by go_simp) (by go_simp)).mono ?_
    rintro e w' ⟨rfl, n3, rfl⟩
    go_wp2_with fail
    refine (before_any _ _ at1 i2 at1 i1 _ (by go_simp) (by go_simp) (by go_simp) (by go_simp)).mono ?_
    rintro e w' ⟨rfl, n4, rfl⟩
    go_wp2_with fail
    go_ret
    exact ⟨rfl, by repeat (first | exact Grown.refl _ | apply grown_drewN | apply Grown.alloc)⟩

theorem walk_all (at1 i1 at2 i2 : Int) (w : World) :
    Calls Yba.prog 6 #[.int .i64 at1, .int .i64 i1, .int .i64 at2, .int .i64 i2] w fun e w' => e = .returned (.bool true) ∧ Grown w w' := by
  by_cases ha : at1 = at2
  · subst ha
    by_cases hi : i1 = i2
    · subst hi
      exact walk_eq at1 i1 w
    · exact walk_ix at1 i1 i2 w (beq_eq_false_iff_ne.2 hi) _ rfl (by unfold lexB; rw [← decide_not, decide_eq_decide]; omega)
  · exact walk_at at1 i1 at2 i2 w (beq_eq_false_iff_ne.2 ha) _ rfl (by unfold lexB; rw [← decide_not, decide_eq_decide]; omega)
end Go.Proofs.Ybulkcxnm.lawS4952BStrict
