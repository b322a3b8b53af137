import Derived.Test.YbulkcxooWalkGood
namespace Go.Proofs.Ybulkcxoo.lawS4954BReads
open Go.ChangeShapes Go.WideShapes Go.ChangeAt Go.RowKit
set_option linter.unusedVariables false

theorem info31 : (Yba.prog.info? 31).map (·.comparable) = some true := by kernel_rfl
theorem info33 : (Yba.prog.info? 33).isSome = true := by kernel_rfl
theorem same24 (w : World) (a : Addr) : (binOp .eql 24 (.iface 31 (.pointer (some a))) (.iface 31 (.pointer (some a)))).run Yba.prog w = .ok (.bool true) w := by
  obtain ⟨j, hj⟩ := Option.isSome_iff_exists.1 info33
  obtain ⟨i, hi, hc⟩ := Option.map_eq_some_iff.1 info31
  exact run_eql_iface_ptr_same w a Yba.underlying24 Yba.underlying31 hi hc hj

set_option maxRecDepth 100000 in
set_option maxHeartbeats 2000000 in
theorem walk_bad (a0 : Option Addr) (n cap0 : Nat) (z : List Int) (kk : Nat) (w : World) (hn : n ≤ 1024) (hk : kk ≤ 255) (w0 : IsRow .u8 w a0 n cap0 z) :
    Calls Yba.prog 3 #[.slice a0 n cap0, .int .u8 kk, .bool true] w fun e w' => e = .returned (.bool true) ∧ Below w.heap.size w w' := by
  obtain ⟨i5, hi5, hz5, hs5, hb5⟩ := info_parts info5
  obtain ⟨W1, hcopy, hbel, hsize, hbuf, hthaw⟩ := copied w n a0 cap0 z w0
  have HB : Hid (∀ j, j < n → W1.cell? ⟨w.heap.size, j, none⟩ = some (.int .u8 (z.getD j 0))) := hbuf
  clear hthaw hbuf
  have e24 := same24
  go_enter Yba.func3, Yba.ntmps3
  go_wp2_with (at_make; refine wpList_make_at _ rfl (.tmp 21) (.tmp 21) 22 rfl 5 i5 (.int .u8 0) Yba.underlying22 hi5 hz5 hs5 _ _ n rfl rfl (by rw [hb5]; omega) (by omega) ?_)
  clear hi5 hz5 hs5 hb5 hcopy
  refine (new_any _ _).mono ?_
  rintro e w' ⟨rfl, rfl⟩
  go_wp2_with fail
  go_loopw [11] (fun i wr => ∃ k : Nat, k ≤ kk ∧ i = .int .i64 k ∧ InvF w wr n z) (fun i _ => kk - (intOf i).toNat)
  case atStart => exact ⟨0, Nat.zero_le _, rfl, InvF.start _ hbel hsize HB.out⟩
  case round =>
    obtain ⟨i, hi, rfl, hI⟩ := hrel
    by_cases hlt : i < kk
    · go_wp2_with fail
      refine (u8_err _ _ _ _ hI.err).mono ?_
      rintro e w3 ⟨rfl, rfl⟩
      go_wp2
      go_roundw
      case rel => exact ⟨i + 1, by omega, by go_num, hI⟩
      case measure => simp [intOf]; omega
    · have hp := hI.rest
      go_wp2_with fail
      clear hp
      go_loopw [15] (fun i wr => ∃ j : Nat, j ≤ n ∧ i = .int .i64 j ∧ InvF w wr n z) (fun i _ => n - (intOf i).toNat)
      case atStart => exact ⟨0, Nat.zero_le _, rfl, hI⟩
      case round =>
        clear hI
        obtain ⟨j, hj, rfl, hI⟩ := hrel
        have hp := hI.rest
        by_cases hjn : j < n
        · obtain ⟨b0, off0, rfl, hb0, hlz, hc0⟩ := w0.at (by omega)
          obtain ⟨x, hx⟩ : ∃ x, x = z.getD j 0 := ⟨_, rfl⟩
          have c1 : wr.cell? ⟨w.heap.size, j, none⟩ = some (.int .u8 x) := by rw [hI.buf j hjn, hx]
          have c2 : wr.cell? ⟨b0, off0 + j, none⟩ = some (.int .u8 x) := by rw [hI.below.cell (by exact hb0), hc0 j hjn, hx]
          clear hx hc0
          go_wp2_with fail
          go_quiet (fail)
          go_wp2_with fail
          go_roundw
          case rel => exact ⟨j + 1, by omega, by go_num, hI.drewN _⟩
          case measure => simp [intOf]; omega
        · go_wp2_with fail
          clear hp
          go_loopw [16] (fun i wr => ∃ j : Nat, j ≤ n ∧ i = .int .i64 j ∧ InvF w wr n z) (fun i _ => n - (intOf i).toNat)
          case atStart => exact ⟨0, Nat.zero_le _, rfl, hI⟩
          case round =>
            clear hI hj hjn
            obtain ⟨j, hj, rfl, hI⟩ := hrel
            by_cases hjn : j < n
            · obtain ⟨b0, off0, rfl, hb0, hlz, hc0⟩ := w0.at (by omega)
              obtain ⟨x, hx⟩ : ∃ x, x = z.getD j 0 := ⟨_, rfl⟩
              have c1 : wr.cell? ⟨w.heap.size, j, none⟩ = some (.int .u8 x) := by rw [hI.buf j hjn, hx]
              have c2 : wr.cell? ⟨b0, off0 + j, none⟩ = some (.int .u8 x) := by rw [hI.below.cell (by exact hb0), hc0 j hjn, hx]
              clear hx hc0
              go_wp2_with fail
              go_quiet (fail)
              go_wp2_with fail
              go_roundw
              case rel => exact ⟨j + 1, by omega, by go_num, hI.drewN _⟩
              case measure => simp [intOf]; omega
            · have he := hI.err
              go_wp2_with fail
              go_ret
              exact ⟨by simp, hI.below⟩

set_option maxRecDepth 100000 in
set_option maxHeartbeats 1000000 in
theorem walk_great (a0 : Option Addr) (n cap0 : Nat) (k : Int) (f : Bool) (w : World) (hn : 1024 < n) :
    Calls Yba.prog 3 #[.slice a0 n cap0, .int .u8 k, .bool f] w fun e w' => e = .returned (.bool true) ∧ Below w.heap.size w w' := by
  go_enter Yba.func3, Yba.ntmps3
  go_wp2
  go_ret
  exact ⟨rfl, Below.refl _ _⟩

theorem walk_all (a0 : Option Addr) (n cap0 : Nat) (z : List Int) (k : Int) (f : Bool) (w : World) (w0 : IsRow .u8 w a0 n cap0 z) (w1 : (Lit.int .u8 k).wf = true) :
    Calls Yba.prog 3 #[.slice a0 n cap0, .int .u8 k, .bool f] w fun e w' => e = .returned (.bool true) ∧ Below w.heap.size w w' := by
  by_cases hn : 1024 < n
  · exact walk_great a0 n cap0 k f w hn
  · have hb := bounds_u8 w1
    obtain ⟨kk, rfl⟩ := Int.eq_ofNat_of_zero_le hb.1
    cases f
    · exact walk_good a0 n cap0 z kk w (by omega) (by omega) w0
    · exact walk_bad a0 n cap0 z kk w (by omega) (by omega) w0
end Go.Proofs.Ybulkcxoo.lawS4954BReads
