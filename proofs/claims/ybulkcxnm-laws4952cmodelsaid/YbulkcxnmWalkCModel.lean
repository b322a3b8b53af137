import Derived.Test.YbulkcxnmWalksC
import Derived.Laws.Pointers
import Derived.LaidEqlPtr
namespace Go.Proofs.Ybulkcxnm.lawS4952CModel
open Go.ChangeShapes Go.WideShapes Go.ChangeAt Go.RowKit
set_option linter.unusedVariables false

theorem info45 : (Yba.prog.info? 45).map (fun i => (i.zero, i.size, i.bytes)) = some (some (.pointer none), 1, 8) := by kernel_rfl

/-- 'make([]T, n)': the world that it leaves, written out. -/
theorem wpList_make_at {P : Program} (w : World) {ops : Array Oper} {rest : List Oper} {o : Oper} {a : Act} {Q : Exit → Act → World → Prop}
    (hg : o.guard = none) (l c : Operand) (t : TypeId) (hop : o.op = Op.makeSlice t l c)
    (e : TypeId) (i : TypeInfo) (z : Value) (h1 : P.underlying t = some (.slice e)) (h2 : P.info? e = some i) (h3 : i.zero = some z)
    (kl kc : IntKind) (C : Int) (hl : a.eval l = .int kl C) (hc : a.eval c = .int kc C) (h0 : 0 ≤ C) (b2 : (i.bytes : Int) * C ≤ 281474976710656) (b3 : C ≤ 9223372036854775807)
    (hK : wpList P ops Q rest (a.put o.dst (.slice (some ⟨w.heap.size, 0, none⟩) C.toNat C.toNat)) (w.alloc (.cells (madeCells z.cells (C.toNat * i.size)) e))) :
    wpList P ops Q (o :: rest) a w := by
  refine wpList_plain hg fun K hK' => ?_
  have hrun := run_make (P := P) w t e i z h1 h2 h3 kl kc C C h0 (Int.le_refl _) b2 b3
  unfold Oper.wp
  simp [execOp, hop, hl, hc, hrun, Result.andThen]
  exact hK' _ _ hK

theorem info30 : (Yba.prog.info? 30).isSome = true := by kernel_rfl
theorem info50 : (Yba.prog.info? 50).isSome = true := by kernel_rfl
theorem same26 (w : World) (a : Addr) : (binOp .eql 26 (.pointer (some a)) (.pointer (some a))).run Yba.prog w = .ok (.bool true) w := by
  obtain ⟨j, hj⟩ := Option.isSome_iff_exists.1 info30
  exact run_eql_ptr_same w a Yba.underlying26 hj
theorem same45 (w : World) (a : Addr) : (binOp .eql 45 (.pointer (some a)) (.pointer (some a))).run Yba.prog w = .ok (.bool true) w := by
  obtain ⟨j, hj⟩ := Option.isSome_iff_exists.1 info50
  exact run_eql_ptr_same w a Yba.underlying45 hj

set_option maxRecDepth 100000 in
set_option maxHeartbeats 1000000 in
theorem walk_next (ln idle sp now seen : Int) (q : Nat) (w : World) (l0 : 0 ≤ ln) (l1 : ln ≤ 65535) (i0 : 0 ≤ idle) (i1 : idle ≤ 65535) (hq : idle % 1024 = (q : Int)) (hq1 : q < 1024) :
    Calls Yba.prog 7 #[.bool true, .int .u16 ln, .int .u16 idle, .int .i64 sp, .int .i64 now, .int .i64 seen] w fun e w' => e = .returned (.bool true) ∧ Grown w w' := by
  obtain ⟨i, hi, hz0, hz1, hz2⟩ := info_parts info45
  have e26 := same26
  have e45 := same45
  go_enter Yba.func7, Yba.ntmps7
  go_wp2_with (at_make; refine wpList_make_at _ rfl _ _ 51 rfl 45 i (.pointer none) Yba.underlying51 hi hz0 _ _ _ rfl rfl (by omega) (by rw [hz2]; omega) (by omega) ?_)
  refine (spared_next _ _ (w.heap.size + 1) ⟨w.heap.size, 0, none⟩ _ (by go_simp) (by go_simp)).mono ?_
  rintro e w' ⟨rfl, rfl⟩
  go_wp2
  go_ret
  exact ⟨by simp, by repeat (first | exact Grown.refl _ | apply grown_drewN' | apply Grown.alloc | refine Grown.setCell ?_ (by simp) _)⟩

set_option maxRecDepth 100000 in
set_option maxHeartbeats 1000000 in
theorem walk_local (ln idle sp now seen : Int) (q : Nat) (w : World) (l0 : 0 < ln) (l1 : ln ≤ 65535) (i0 : 0 ≤ idle) (i1 : idle ≤ 65535) (hq : idle % 1024 = (q : Int)) (hq1 : q < 1024) :
    Calls Yba.prog 7 #[.bool false, .int .u16 ln, .int .u16 idle, .int .i64 sp, .int .i64 now, .int .i64 seen] w fun e w' => e = .returned (.bool true) ∧ Grown w w' := by
  obtain ⟨i, hi, hz0, hz1, hz2⟩ := info_parts info45
  have e26 := same26
  have e45 := same45
  have hl : (ln == 0) = false := beq_eq_false_iff_ne.2 (by omega)
  go_enter Yba.func7, Yba.ntmps7
  go_wp2_with (at_make; refine wpList_make_at _ rfl _ _ 51 rfl 45 i (.pointer none) Yba.underlying51 hi hz0 _ _ _ rfl rfl (by omega) (by rw [hz2]; omega) (by omega) ?_)
  refine (spared_local _ _ w.heap.size ln _ (by go_simp) (by go_simp) (by go_simp) l0).mono ?_
  rintro e w' ⟨rfl, rfl⟩
  go_wp2
  go_ret
  exact ⟨by simp, by repeat (first | exact Grown.refl _ | apply grown_drewN' | apply Grown.alloc | refine Grown.setCell ?_ (by simp) _)⟩

set_option maxRecDepth 100000 in
set_option maxHeartbeats 1000000 in
theorem walk_idle (idle sp now seen : Int) (q : Nat) (w : World) (i0 : 0 ≤ idle) (i1 : idle ≤ 65535) (hq : idle % 1024 = (q : Int)) (hq1 : q < 1024) (hq0 : 0 < q) :
    Calls Yba.prog 7 #[.bool false, .int .u16 0, .int .u16 idle, .int .i64 sp, .int .i64 now, .int .i64 seen] w fun e w' => e = .returned (.bool true) ∧ Grown w w' := by
  obtain ⟨i, hi, hz0, hz1, hz2⟩ := info_parts info45
  have e26 := same26
  have e45 := same45
  have h3 : (0 : Int) < (q : Int) := by omega
  go_enter Yba.func7, Yba.ntmps7
  go_wp2_with (at_make; refine wpList_make_at _ rfl _ _ 51 rfl 45 i (.pointer none) Yba.underlying51 hi hz0 _ _ _ rfl rfl (by omega) (by rw [hz2]; omega) (by omega) ?_)
  refine (spared_idle _ _ w.heap.size 0 now seen _ q q _ (by go_simp) (by go_simp) (by go_simp) (by omega) (by go_simp; rfl) (by go_simp) (by go_simp) hq0).mono ?_
  rintro e w' ⟨rfl, n1, rfl⟩
  go_wp2
  go_ret
  exact ⟨by simp, by repeat (first | exact Grown.refl _ | apply grown_drewN' | apply Grown.alloc | refine Grown.setCell ?_ (by simp) _)⟩

set_option maxRecDepth 100000 in
set_option maxHeartbeats 1000000 in
theorem walk_spin (idle sp now seen : Int) (q : Nat) (w : World) (i0 : 0 ≤ idle) (i1 : idle ≤ 65535) (hq : idle % 1024 = 0) (hs : 0 < sp) :
    Calls Yba.prog 7 #[.bool false, .int .u16 0, .int .u16 idle, .int .i64 sp, .int .i64 now, .int .i64 seen] w fun e w' => e = .returned (.bool true) ∧ Grown w w' := by
  obtain ⟨i, hi, hz0, hz1, hz2⟩ := info_parts info45
  have e26 := same26
  have e45 := same45
  go_enter Yba.func7, Yba.ntmps7
  go_wp2_with (at_make; refine wpList_make_at _ rfl _ _ 51 rfl 45 i (.pointer none) Yba.underlying51 hi hz0 _ _ _ rfl rfl (by omega) (by rw [hz2]; omega) (by omega) ?_)
  refine (spared_spin _ _ w.heap.size 0 now seen sp _ 0 _ (by go_simp) (by go_simp) (by go_simp) (by omega) (by go_simp; rfl) (by go_simp) (by go_simp) (by go_simp) hs).mono ?_
  rintro e w' ⟨rfl, n1, rfl⟩
  go_wp2
  go_ret
  exact ⟨by simp, by repeat (first | exact Grown.refl _ | apply grown_drewN' | apply Grown.alloc | refine Grown.setCell ?_ (by simp) _)⟩

set_option maxRecDepth 100000 in
set_option maxHeartbeats 1000000 in
theorem walk_none (idle sp now seen : Int) (q : Nat) (w : World) (i0 : 0 ≤ idle) (i1 : idle ≤ 65535) (hq : idle % 1024 = 0) (hs : sp ≤ 0) :
    Calls Yba.prog 7 #[.bool false, .int .u16 0, .int .u16 idle, .int .i64 sp, .int .i64 now, .int .i64 seen] w fun e w' => e = .returned (.bool true) ∧ Grown w w' := by
  obtain ⟨i, hi, hz0, hz1, hz2⟩ := info_parts info45
  have e26 := same26
  have e45 := same45
  have hs2 : ¬ 0 < sp := by omega
  go_enter Yba.func7, Yba.ntmps7
  go_wp2_with (at_make; refine wpList_make_at _ rfl _ _ 51 rfl 45 i (.pointer none) Yba.underlying51 hi hz0 _ _ _ rfl rfl (by omega) (by rw [hz2]; omega) (by omega) ?_)
  refine (spared_none _ _ w.heap.size 0 now seen sp _ 0 _ (by go_simp) (by go_simp) (by go_simp) (by omega) (by go_simp; rfl) (by go_simp) hs).mono ?_
  rintro e w' ⟨rfl, n1, rfl⟩
  go_wp2
  go_ret
  exact ⟨by simp, by repeat (first | exact Grown.refl _ | apply grown_drewN' | apply Grown.alloc | refine Grown.setCell ?_ (by simp) _)⟩

theorem walk_all (hn : Bool) (ln idle sp now seen : Int) (w : World) (l0 : 0 ≤ ln) (l1 : ln ≤ 65535) (i0 : 0 ≤ idle) (i1 : idle ≤ 65535) :
    Calls Yba.prog 7 #[.bool hn, .int .u16 ln, .int .u16 idle, .int .i64 sp, .int .i64 now, .int .i64 seen] w fun e w' => e = .returned (.bool true) ∧ Grown w w' := by
  obtain ⟨q, hq⟩ : ∃ q : Nat, idle % 1024 = (q : Int) := ⟨(idle % 1024).toNat, by omega⟩
  cases hn
  · by_cases h : 0 < ln
    · exact walk_local ln idle sp now seen q w h l1 i0 i1 hq (by omega)
    · obtain rfl : ln = 0 := by omega
      by_cases h2 : 0 < q
      · exact walk_idle idle sp now seen q w i0 i1 hq (by omega) h2
      · by_cases h3 : 0 < sp
        · exact walk_spin idle sp now seen q w i0 i1 (by omega) h3
        · exact walk_none idle sp now seen q w i0 i1 (by omega) (by omega)
  · exact walk_next ln idle sp now seen q w l0 l1 i0 i1 hq (by omega)
end Go.Proofs.Ybulkcxnm.lawS4952CModel
