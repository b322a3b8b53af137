import Derived.Test.YbulkcxnmScriptInv
import Derived.Deep.QuietTactic
import Derived.BigQuiet
namespace Go.Proofs.Ybulkcxnm.lawS4952AScript
open Go.ChangeShapes Go.WideShapes Go.ChangeAt Go.RowKit
set_option linter.unusedVariables false
theorem info26 : (Yba.prog.info? 26).map (fun i => (i.zero, i.size, i.bytes)) = some (some (.pointer none), 1, 8) := by kernel_rfl
theorem info4 : (Yba.prog.info? 4).map (fun i => (i.zero, i.size, i.bytes)) = some (some (.bool false), 1, 1) := by kernel_rfl

/-- 'make([]T, n)': the world that it leaves, written out. -/
theorem wpList_make_at {P : Program} (w : World) {ops : Array Oper} {rest : List Oper} {o : Oper} {a : Act} {Q : Exit → Act → World → Prop}
    (hg : o.guard = none) (l c : Operand) (t : TypeId) (hop : o.op = Op.makeSlice t l c)
    (e : TypeId) (i : TypeInfo) (z : Value) (h1 : P.underlying t = some (.slice e)) (h2 : P.info? e = some i) (h3 : i.zero = some z) (h4 : i.size = 1)
    (kl kc : IntKind) (n : Nat) (hl : a.eval l = .int kl (n : Int)) (hc : a.eval c = .int kc (n : Int)) (b2 : i.bytes * n ≤ 281474976710656) (b3 : (n : Int) ≤ 9223372036854775807)
    (hK : wpList P ops Q rest (a.put o.dst (.slice (some ⟨w.heap.size, 0, none⟩) n n)) (w.alloc (.cells (madeCells z.cells n) e))) :
    wpList P ops Q (o :: rest) a w := by
  refine wpList_plain hg fun K hK' => ?_
  have hb : (i.bytes : Int) * (n : Int) ≤ 281474976710656 := by
    have h : ((i.bytes * n : Nat) : Int) ≤ 281474976710656 := by omega
    rwa [Int.natCast_mul] at h
  have hrun := run_make (P := P) w t e i z h1 h2 h3 kl kc n n (by omega) (Int.le_refl _) hb b3
  simp only [Int.toNat_natCast, h4, Nat.mul_one] at hrun
  unfold Oper.wp
  simp [execOp, hop, hl, hc, hrun, Result.andThen]
  exact hK' _ _ hK

set_option maxRecDepth 100000 in
set_option maxHeartbeats 2000000 in
theorem walk_core (b0 off0 n cap0 : Nat) (z0 : List Int) (a1 : Option Addr) (len1 cap1 : Nat) (z1 : List Int) (a2 : Option Addr) (len2 cap2 : Nat) (z2 : List Int) (w : World)
    (hn0 : 0 < n) (hn1 : n ≤ 1024) (hl1 : len1 ≤ 1024) (hb0 : b0 < w.heap.size)
    (hc0 : ∀ i, i < n → w.cell? ⟨b0, off0 + i, none⟩ = some (.int .i64 (z0.getD i 0))) (w1 : IsRow .u8 w a1 len1 cap1 z1) (w2 : IsRow .i64 w a2 len2 cap2 z2) :
    Calls Yba.prog 4 #[.slice (some ⟨b0, off0, none⟩) n cap0, .slice a1 len1 cap1, .slice a2 len2 cap2] w fun e w' => e = .returned (.bool true) ∧ Below w.heap.size w w' := by
  obtain ⟨i26, hi26, hz26, hs26, hb26⟩ := info_parts info26
  obtain ⟨i4, hi4, hz4, hs4, hb4⟩ := info_parts info4
  have C0 : Hid (∀ i, i < n → w.cell? ⟨b0, off0 + i, none⟩ = some (.int .i64 (z0.getD i 0))) := hc0
  clear hc0
  have t1 : ((n : Int) == 0) = false := beq_eq_false_iff_ne.2 (by omega)
  go_enter Yba.func4, Yba.ntmps4
  go_wp2_with (first
    | (at_make; refine wpList_make_at _ rfl (.tmp 31) (.tmp 31) 35 rfl 26 i26 (.pointer none) Yba.underlying35 hi26 hz26 hs26 _ _ n rfl rfl (by rw [hb26]; omega) (by omega) ?_)
    | (at_make; refine wpList_make_at _ rfl (.tmp 33) (.tmp 33) 36 rfl 4 i4 (.bool false) Yba.underlying36 hi4 hz4 hs4 _ _ n rfl rfl (by rw [hb4]; omega) (by omega) ?_))
  clear hi26 hz26 hs26 hb26 hi4 hz4 hs4 hb4
  go_loopw [10] (fun i wr => ∃ k : Nat, k ≤ n ∧ i = .int .i64 k ∧ Inv1 w wr n k z0) (fun i _ => n - (intOf i).toNat)
  case atStart => exact ⟨0, Nat.zero_le _, rfl, Inv1.start w n z0⟩
  case round =>
    obtain ⟨k, hk, rfl, hI⟩ := hrel
    have hsz := hI.size
    by_cases hlt : k < n
    · have hgs : wr.cell? ⟨w.heap.size, k, none⟩ = some (.pointer none) := by rw [hI.gs k hlt, if_neg (by omega)]
      have hfz : wr.frozen? ⟨w.heap.size, k, none⟩ = false := hI.thaw _ _ (Nat.le_refl _)
      have hgs2 : ∀ o, (wr.alloc o).cell? ⟨w.heap.size, k, none⟩ = some (.pointer none) := fun o => by rw [World.cell?_alloc_past _ _ _ (by omega), hgs]
      have hfz2 : ∀ o, (wr.alloc o).frozen? ⟨w.heap.size, k, none⟩ = false := fun o => by rw [World.frozen?_alloc_past _ _ _ (by omega), hfz]
      clear hgs hfz
      obtain ⟨x, hx⟩ : ∃ x, x = z0.getD k 0 := ⟨_, rfl⟩
      have hcx : wr.cell? ⟨b0, off0 + k, none⟩ = some (.int .i64 x) := by rw [hI.below.cell (by exact hb0), C0.out k hlt, hx]
      have HX : Hid (x = z0.getD k 0) := hx
      clear hx
      go_wp2
      go_roundw
      case rel =>
        refine ⟨k + 1, by omega, by go_num, ?_⟩
        exact hI.step hlt x HX.out _
      case measure => simp [intOf]; omega
    · obtain rfl : n = k := by omega
      clear hlt hk
      go_wp2_with fail
      go_loopw [12, 55] (fun want i wr => ∃ (k : Nat) (c : Int) (sn : Nat → Bool), k ≤ len1 ∧ i = .int .i64 k ∧ want = .int .u64 c ∧ Inv2 w wr n z0 sn sn c) (fun _ i _ => len1 - (intOf i).toNat)
      case atStart => exact ⟨0, 0, fun _ => false, Nat.zero_le _, rfl, rfl, Inv2.start hI⟩
      case round =>
        obtain ⟨k, c, sn, hk, rfl, rfl, hJ⟩ := hrel
        clear hsz hI
        by_cases hlt : k < len1
        · obtain ⟨b1, o1, rfl, hb1, hc1⟩ := w1.at (by omega)
          obtain ⟨p, hcp0, hpz, hwp⟩ := hc1 k hlt
          have hpb := bounds_u8 hwp
          clear hpz
          obtain ⟨pk, rfl⟩ := Int.eq_ofNat_of_zero_le hpb.1
          have hp1 : pk ≤ 255 := by omega
          obtain ⟨ix, hix0⟩ : ∃ ix, ix = pk % n := ⟨_, rfl⟩
          have hixn : ix < n := by rw [hix0]; exact Nat.mod_lt _ hn0
          have hix : (pk : Int) % (n : Int) = (ix : Int) := by rw [hix0]; omega
          have hcp : wr.cell? ⟨b1, o1 + k, none⟩ = some (.int .u8 pk) := by rw [hJ.below.cell (by exact hb1), hcp0]
          clear hcp0 hwp hpb hc1 hix0 w1
          have hgi := hJ.gs ix hixn
          obtain ⟨x, hx⟩ : ∃ x, x = z0.getD ix 0 := ⟨_, rfl⟩
          have HX : Hid (x = z0.getD ix 0) := hx
          clear hx
          by_cases hk2 : k < len2
          · obtain ⟨b2, o2, rfl, hb2, hc2⟩ := w2.at (by omega)
            obtain ⟨now, hcn0, hnz, hwn⟩ := hc2 k hk2
            have hcn : wr.cell? ⟨b2, o2 + k, none⟩ = some (.int .i64 now) := by rw [hJ.below.cell (by exact hb2), hcn0]
            clear hcn0 hnz hwn hc2
            by_cases hx0 : x < 0
            · rcases hb : sn ix with _ | _
              · have HS : Hid (sn ix = false) := hb
                clear hb
                have hx1 : ¬ 0 ≤ x := by omega
                go_wp2_with fail
                refine (start_inv_quiet hJ hixn now (.inl (by rw [← HX.out]; exact hx0))).mono ?_
                rintro e w3 ⟨rfl, hK⟩
                clear hcp hgi hJ
                have hax : w3.cell? ⟨b0, off0 + ix, none⟩ = some (.int .i64 x) := by rw [hK.below.cell (by exact hb0), C0.out ix hixn, HX.out]
                have hsn : w3.cell? ⟨w.heap.size + 1, ix, none⟩ = some (.bool false) := by rw [hK.seen ix hixn, HS.out]
                go_wp2
                go_roundw
                case rel => exact ⟨k + 1, _, sn, by omega, by go_num, rfl, hK⟩
                case measure => simp [intOf]; omega
              · have HS : Hid (sn ix = true) := hb
                clear hb
                have hx1 : ¬ 0 ≤ x := by omega
                go_wp2_with fail
                refine (start_inv_quiet hJ hixn now (.inl (by rw [← HX.out]; exact hx0))).mono ?_
                rintro e w3 ⟨rfl, hK⟩
                clear hcp hgi hJ
                have hax : w3.cell? ⟨b0, off0 + ix, none⟩ = some (.int .i64 x) := by rw [hK.below.cell (by exact hb0), C0.out ix hixn, HX.out]
                have hsn : w3.cell? ⟨w.heap.size + 1, ix, none⟩ = some (.bool true) := by rw [hK.seen ix hixn, HS.out]
                go_wp2
                go_roundw
                case rel => exact ⟨k + 1, _, sn, by omega, by go_num, rfl, hK⟩
                case measure => simp [intOf]; omega
            · have hx1 : 0 ≤ x := by omega
              rcases hb : sn ix with _ | _
              · have HS : Hid (sn ix = false) := hb
                clear hb
                by_cases hnow : x < now
                · go_wp2_with fail
                  refine (start_inv_late hJ hixn now (by rw [← HX.out]; exact hx1) HS.out (by rw [← HX.out]; exact hnow)).mono ?_
                  rintro e w3 ⟨rfl, hK⟩
                  clear hcp hgi hJ
                  have hax : w3.cell? ⟨b0, off0 + ix, none⟩ = some (.int .i64 x) := by rw [hK.below.cell (by exact hb0), C0.out ix hixn, HX.out]
                  have hsn : w3.cell? ⟨w.heap.size + 1, ix, none⟩ = some (.bool false) := by rw [hK.seen ix hixn, HS.out]
                  have hfz : w3.frozen? ⟨w.heap.size + 1, ix, none⟩ = false := hK.thaw _ _ (by omega)
                  have hax2 : ∀ v, (w3.setCell ⟨w.heap.size + 1, ix, none⟩ v).cell? ⟨b0, off0 + ix, none⟩ = some (.int .i64 x) := fun v => by rw [World.cell?_setCell_other _ _ _ _ (addr_ne (by omega)), hax]
                  have hM := hK.mark hixn
                  go_wp2
                  go_roundw
                  case rel => exact ⟨k + 1, _, put sn ix, by omega, by go_num, rfl, hM⟩
                  case measure => simp [intOf]; omega
                · have hnow2 : now ≤ x := by omega
                  go_wp2_with fail
                  refine (start_inv_soon hJ hixn now (by rw [← HX.out]; exact hx1) HS.out (by rw [← HX.out]; exact hnow2)).mono ?_
                  rintro e w3 ⟨rfl, hK⟩
                  clear hcp hgi hJ
                  have hax : w3.cell? ⟨b0, off0 + ix, none⟩ = some (.int .i64 x) := by rw [hK.below.cell (by exact hb0), C0.out ix hixn, HX.out]
                  have hsn : w3.cell? ⟨w.heap.size + 1, ix, none⟩ = some (.bool false) := by rw [hK.seen ix hixn, HS.out]
                  have hfz : w3.frozen? ⟨w.heap.size + 1, ix, none⟩ = false := hK.thaw _ _ (by omega)
                  have hax2 : ∀ v, (w3.setCell ⟨w.heap.size + 1, ix, none⟩ v).cell? ⟨b0, off0 + ix, none⟩ = some (.int .i64 x) := fun v => by rw [World.cell?_setCell_other _ _ _ _ (addr_ne (by omega)), hax]
                  have hM := hK.mark hixn
                  go_wp2
                  go_roundw
                  case rel => exact ⟨k + 1, _, put sn ix, by omega, by go_num, rfl, hM⟩
                  case measure => simp [intOf]; omega
              · have HS : Hid (sn ix = true) := hb
                clear hb
                go_wp2_with fail
                refine (start_inv_quiet hJ hixn now (.inr HS.out)).mono ?_
                rintro e w3 ⟨rfl, hK⟩
                clear hcp hgi hJ
                have hax : w3.cell? ⟨b0, off0 + ix, none⟩ = some (.int .i64 x) := by rw [hK.below.cell (by exact hb0), C0.out ix hixn, HX.out]
                have hsn : w3.cell? ⟨w.heap.size + 1, ix, none⟩ = some (.bool true) := by rw [hK.seen ix hixn, HS.out]
                go_wp2
                go_roundw
                case rel => exact ⟨k + 1, _, sn, by omega, by go_num, rfl, hK⟩
                case measure => simp [intOf]; omega
          · by_cases hx0 : x < 0
            · rcases hb : sn ix with _ | _
              · have HS : Hid (sn ix = false) := hb
                clear hb
                have hx1 : ¬ 0 ≤ x := by omega
                go_wp2_with fail
                refine (start_inv_quiet hJ hixn 0 (.inl (by rw [← HX.out]; exact hx0))).mono ?_
                rintro e w3 ⟨rfl, hK⟩
                clear hcp hgi hJ
                have hax : w3.cell? ⟨b0, off0 + ix, none⟩ = some (.int .i64 x) := by rw [hK.below.cell (by exact hb0), C0.out ix hixn, HX.out]
                have hsn : w3.cell? ⟨w.heap.size + 1, ix, none⟩ = some (.bool false) := by rw [hK.seen ix hixn, HS.out]
                go_wp2
                go_roundw
                case rel => exact ⟨k + 1, _, sn, by omega, by go_num, rfl, hK⟩
                case measure => simp [intOf]; omega
              · have HS : Hid (sn ix = true) := hb
                clear hb
                have hx1 : ¬ 0 ≤ x := by omega
                go_wp2_with fail
                refine (start_inv_quiet hJ hixn 0 (.inl (by rw [← HX.out]; exact hx0))).mono ?_
                rintro e w3 ⟨rfl, hK⟩
                clear hcp hgi hJ
                have hax : w3.cell? ⟨b0, off0 + ix, none⟩ = some (.int .i64 x) := by rw [hK.below.cell (by exact hb0), C0.out ix hixn, HX.out]
                have hsn : w3.cell? ⟨w.heap.size + 1, ix, none⟩ = some (.bool true) := by rw [hK.seen ix hixn, HS.out]
                go_wp2
                go_roundw
                case rel => exact ⟨k + 1, _, sn, by omega, by go_num, rfl, hK⟩
                case measure => simp [intOf]; omega
            · have hx1 : 0 ≤ x := by omega
              rcases hb : sn ix with _ | _
              · have HS : Hid (sn ix = false) := hb
                clear hb
                by_cases hnow : x < 0
                · omega
                · have hnow2 : 0 ≤ x := by omega
                  go_wp2_with fail
                  refine (start_inv_soon hJ hixn 0 (by rw [← HX.out]; exact hx1) HS.out (by rw [← HX.out]; exact hnow2)).mono ?_
                  rintro e w3 ⟨rfl, hK⟩
                  clear hcp hgi hJ
                  have hax : w3.cell? ⟨b0, off0 + ix, none⟩ = some (.int .i64 x) := by rw [hK.below.cell (by exact hb0), C0.out ix hixn, HX.out]
                  have hsn : w3.cell? ⟨w.heap.size + 1, ix, none⟩ = some (.bool false) := by rw [hK.seen ix hixn, HS.out]
                  have hfz : w3.frozen? ⟨w.heap.size + 1, ix, none⟩ = false := hK.thaw _ _ (by omega)
                  have hax2 : ∀ v, (w3.setCell ⟨w.heap.size + 1, ix, none⟩ v).cell? ⟨b0, off0 + ix, none⟩ = some (.int .i64 x) := fun v => by rw [World.cell?_setCell_other _ _ _ _ (addr_ne (by omega)), hax]
                  have hM := hK.mark hixn
                  go_wp2
                  go_roundw
                  case rel => exact ⟨k + 1, _, put sn ix, by omega, by go_num, rfl, hM⟩
                  case measure => simp [intOf]; omega
              · have HS : Hid (sn ix = true) := hb
                clear hb
                go_wp2_with fail
                refine (start_inv_quiet hJ hixn 0 (.inr HS.out)).mono ?_
                rintro e w3 ⟨rfl, hK⟩
                clear hcp hgi hJ
                have hax : w3.cell? ⟨b0, off0 + ix, none⟩ = some (.int .i64 x) := by rw [hK.below.cell (by exact hb0), C0.out ix hixn, HX.out]
                have hsn : w3.cell? ⟨w.heap.size + 1, ix, none⟩ = some (.bool true) := by rw [hK.seen ix hixn, HS.out]
                go_wp2
                go_roundw
                case rel => exact ⟨k + 1, _, sn, by omega, by go_num, rfl, hK⟩
                case measure => simp [intOf]; omega
        · clear w1 w2
          have s0 := hJ.sum0
          have s1 := hJ.sum1
          have s2 := hJ.sum2
          have s3 := hJ.sum3
          have s4 := hJ.sum4
          go_wp2_with fail
          clear s0 s1 s2 s3 s4
          go_loopw [17] (fun i wr => ∃ k : Nat, k ≤ n ∧ i = .int .i64 k ∧ Inv2 w wr n z0 sn sn c) (fun i _ => n - (intOf i).toNat)
          case atStart => exact ⟨0, Nat.zero_le _, rfl, hJ⟩
          case round =>
            clear hJ
            obtain ⟨j, hj, rfl, hJ⟩ := hrel
            by_cases hjn : j < n
            · obtain ⟨x, hx⟩ : ∃ x, x = z0.getD j 0 := ⟨_, rfl⟩
              have HX : Hid (x = z0.getD j 0) := hx
              clear hx
              obtain ⟨bb, hbb⟩ : ∃ bb, bb = sn j := ⟨_, rfl⟩
              have c1 := hJ.gs j hjn
              have c2 : wr.cell? ⟨w.heap.size + 1, j, none⟩ = some (.bool bb) := by rw [hJ.seen j hjn, hbb]
              have c3 : wr.cell? ⟨w.heap.size + 2 + j, 3, none⟩ = some (.int .i64 x) := by rw [hJ.came j hjn, HX.out]
              have c4 : wr.cell? ⟨w.heap.size + 2 + j, 4, none⟩ = some (.bool bb) := by rw [hJ.begun j hjn, hbb]
              have c5 : wr.cell? ⟨b0, off0 + j, none⟩ = some (.int .i64 x) := by rw [hJ.below.cell (by exact hb0), C0.out j hjn, HX.out]
              clear hbb
              go_wp2_with fail
              go_quiet (fail)
              go_wp2_with fail
              go_roundw
              case rel => exact ⟨j + 1, by omega, by go_num, hJ.drewN _⟩
              case measure => simp [intOf]; omega
            · go_wp2_with fail
              go_ret
              exact ⟨rfl, hJ.below⟩

set_option maxRecDepth 100000 in
set_option maxHeartbeats 1000000 in
theorem walk_great (a0 : Option Addr) (len0 cap0 : Nat) (a1 : Option Addr) (len1 cap1 : Nat) (a2 : Option Addr) (len2 cap2 : Nat) (w : World) (h : 1024 < len0 ∨ 1024 < len1) :
    Calls Yba.prog 4 #[.slice a0 len0 cap0, .slice a1 len1 cap1, .slice a2 len2 cap2] w fun e w' => e = .returned (.bool true) ∧ Below w.heap.size w w' := by
  by_cases h0 : 1024 < len0
  · clear h
    go_enter Yba.func4, Yba.ntmps4
    go_wp2
    go_ret
    exact ⟨rfl, Below.refl _ _⟩
  · have h1 : 1024 < len1 := by omega
    clear h
    go_enter Yba.func4, Yba.ntmps4
    go_wp2
    go_ret
    exact ⟨rfl, Below.refl _ _⟩

set_option maxRecDepth 100000 in
set_option maxHeartbeats 1000000 in
theorem walk_empty (a0 : Option Addr) (cap0 : Nat) (a1 : Option Addr) (len1 cap1 : Nat) (a2 : Option Addr) (len2 cap2 : Nat) (w : World) (h : len1 ≤ 1024) :
    Calls Yba.prog 4 #[.slice a0 0 cap0, .slice a1 len1 cap1, .slice a2 len2 cap2] w fun e w' => e = .returned (.bool true) ∧ Below w.heap.size w w' := by
  go_enter Yba.func4, Yba.ntmps4
  go_wp2
  go_ret
  exact ⟨rfl, Below.refl _ _⟩

theorem walk_all (a0 : Option Addr) (len0 cap0 : Nat) (z0 : List Int) (a1 : Option Addr) (len1 cap1 : Nat) (z1 : List Int) (a2 : Option Addr) (len2 cap2 : Nat) (z2 : List Int) (w : World) (w0 : IsRow .i64 w a0 len0 cap0 z0) (w1 : IsRow .u8 w a1 len1 cap1 z1) (w2 : IsRow .i64 w a2 len2 cap2 z2) :
    Calls Yba.prog 4 #[.slice a0 len0 cap0, .slice a1 len1 cap1, .slice a2 len2 cap2] w fun e w' => e = .returned (.bool true) ∧ Below w.heap.size w w' := by
  by_cases hg : 1024 < len0 ∨ 1024 < len1
  · exact walk_great a0 len0 cap0 a1 len1 cap1 a2 len2 cap2 w hg
  · by_cases h0 : len0 = 0
    · subst h0
      exact walk_empty a0 cap0 a1 len1 cap1 a2 len2 cap2 w (by omega)
    · obtain ⟨b0, off0, rfl, hb0, hc0⟩ := w0.at (by omega)
      refine walk_core b0 off0 len0 cap0 z0 a1 len1 cap1 z1 a2 len2 cap2 z2 w (by omega) (by omega) (by omega) hb0 (fun i hi => ?_) w1 w2
      obtain ⟨x, hx, rfl, _⟩ := hc0 i hi
      exact hx
end Go.Proofs.Ybulkcxnm.lawS4952AScript
