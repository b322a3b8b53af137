import Derived.Test.YbulkcxooInv
import Derived.Deep.QuietTactic
import Derived.BigQuiet
import Derived.LaidEql
namespace Go.Proofs.Ybulkcxoo.lawS4954BReads
open Go.ChangeShapes Go.WideShapes Go.ChangeAt Go.RowKit
set_option linter.unusedVariables false
theorem info5 : (Yba.prog.info? 5).map (fun i => (i.zero, i.size, i.bytes)) = some (some (.int .u8 0), 1, 1) := by kernel_rfl

/-- 'make([]T, n)': the world that it leaves, written out. -/
theorem wpList_make_at {P : Program} (w : World) {ops : Array Oper} {rest : List Oper} {o : Oper} {a : Act} {Q : Exit → Act → World → Prop}
    (hg : o.guard = none) (l c : Operand) (t : TypeId) (hop : o.op = Op.makeSlice t l c)
    (e : TypeId) (i : TypeInfo) (z : Value) (h1 : P.underlying t = some (.slice e)) (h2 : P.info? e = some i) (h3 : i.zero = some z) (h4 : i.size = 1)
    (kl kc : IntKind) (n : Nat) (hl : a.eval l = .int kl (n : Int)) (hc : a.eval c = .int kc (n : Int)) (b2 : i.bytes * n ≤ 281474976710656) (b3 : (n : Int) ≤ 9223372036854775807)
    (hK : wpList P ops Q rest (a.put o.dst (.slice (some ⟨w.heap.size, 0, none⟩) n n)) (w.alloc (.cells (madeCells z.cells n) e))) :
    wpList P ops Q (o :: rest) a w := by
  refine wpList_plain hg fun K hK' => ?_
  have hb : (i.bytes : Int) * (n : Int) ≤ 281474976710656 := by
    have h : ((i.bytes * n : Nat) : Int) ≤ 281474976710656 := by omega
    rwa [Int.natCast_mul] at h
  have hrun := run_make (P := P) w t e i z h1 h2 h3 kl kc n n (by omega) (Int.le_refl _) hb b3
  simp only [Int.toNat_natCast, h4, Nat.mul_one] at hrun
  unfold Oper.wp
  simp [execOp, hop, hl, hc, hrun, Result.andThen]
  exact hK' _ _ hK

set_option maxRecDepth 100000 in
set_option maxHeartbeats 2000000 in
theorem walk_good (a0 : Option Addr) (n cap0 : Nat) (z : List Int) (kk : Nat) (w : World) (hn : n ≤ 1024) (hk : kk ≤ 255) (w0 : IsRow .u8 w a0 n cap0 z) :
    Calls Yba.prog 3 #[.slice a0 n cap0, .int .u8 kk, .bool false] w fun e w' => e = .returned (.bool true) ∧ Below w.heap.size w w' := by
  obtain ⟨i5, hi5, hz5, hs5, hb5⟩ := info_parts info5
  obtain ⟨W1, hcopy, hbel, hsize, hbuf, hthaw⟩ := copied w n a0 cap0 z w0
  have HT : Hid (∀ b o, w.heap.size ≤ b → W1.frozen? ⟨b, o, none⟩ = false) := hthaw
  have HB : Hid (∀ j, j < n → W1.cell? ⟨w.heap.size, j, none⟩ = some (.int .u8 (z.getD j 0))) := hbuf
  clear hthaw hbuf
  go_enter Yba.func3, Yba.ntmps3
  go_wp2_with (at_make; refine wpList_make_at _ rfl (.tmp 21) (.tmp 21) 22 rfl 5 i5 (.int .u8 0) Yba.underlying22 hi5 hz5 hs5 _ _ n rfl rfl (by rw [hb5]; omega) (by omega) ?_)
  clear hi5 hz5 hs5 hb5 hcopy
  go_loopw [11] (fun i wr => ∃ k : Nat, k ≤ kk ∧ i = .int .i64 k ∧ InvR w wr n z k) (fun i _ => kk - (intOf i).toNat)
  case atStart => exact ⟨0, Nat.zero_le _, rfl, InvR.start hbel hsize HB.out HT.out⟩
  case round =>
    clear hbel hsize HB HT
    obtain ⟨i, hi, rfl, hI⟩ := hrel
    by_cases hlt : i < kk
    · by_cases hin : i < n
      · obtain ⟨b0, off0, rfl, hb0, hlz, hc0⟩ := w0.at (by omega)
        obtain ⟨x, hx⟩ : ∃ x, x = z.getD i 0 := ⟨_, rfl⟩
        go_wp2_with fail
        refine (u8_in hI hn hin).mono ?_
        rintro e w3 ⟨rfl, hK⟩
        rw [← hx]
        have hax : w3.cell? ⟨b0, off0 + i, none⟩ = some (.int .u8 x) := by rw [hK.below.cell (by exact hb0), hc0 i hin, hx]
        clear hc0 hI hx
        go_wp2
        go_roundw
        case rel => exact ⟨i + 1, by omega, by go_num, hK⟩
        case measure => simp [intOf]; omega
      · go_wp2_with fail
        refine (u8_out hI (by omega)).mono ?_
        rintro e w3 ⟨rfl, hK⟩
        clear hI
        go_wp2
        go_roundw
        case rel => exact ⟨i + 1, by omega, by go_num, hK⟩
        case measure => simp [intOf]; omega
    · obtain rfl : kk = i := by omega
      clear hlt hi
      by_cases hkn : kk ≤ n
      · obtain ⟨m, hm⟩ : ∃ m, m = n - kk := ⟨_, rfl⟩
        have hmn : kk + m = n := by omega
        have HM : Hid (m = n - kk) := hm
        have HMN : Hid (kk + m = n) := hmn
        have hm1 : kk + m ≤ n := by omega
        have ht : ((m : Int) != (n : Int) - (kk : Int)) = false := by simp; omega
        obtain ⟨p, hp, _⟩ := hI.rest
        rw [← hm] at hp
        clear hm hmn
        have hd : decide (n < kk) = false := decide_eq_false (by omega)
        go_wp2_with fail
        clear hp
        go_loopw [15] (fun i wr => ∃ j : Nat, j ≤ m ∧ i = .int .i64 j ∧ InvR w wr n z kk) (fun i _ => m - (intOf i).toNat)
        case atStart => exact ⟨0, Nat.zero_le _, rfl, hI⟩
        case round =>
          clear hI
          obtain ⟨j, hj, rfl, hI⟩ := hrel
          obtain ⟨p, hp, hpk⟩ := hI.rest
          rw [← HM.out] at hp
          by_cases hjm : j < m
          · obtain ⟨b0, off0, rfl, hb0, hlz, hc0⟩ := w0.at (by omega)
            obtain rfl : p = kk := hpk (by omega)
            obtain ⟨x, hx⟩ : ∃ x, x = z.getD (p + j) 0 := ⟨_, rfl⟩
            have c1 : wr.cell? ⟨w.heap.size, p + j, none⟩ = some (.int .u8 x) := by rw [hI.buf (p + j) (by omega), hx]
            obtain ⟨q, hq⟩ : ∃ q, q = p + j := ⟨_, rfl⟩
            have c2 : wr.cell? ⟨b0, off0 + q, none⟩ = some (.int .u8 x) := by rw [hI.below.cell (by exact hb0), hc0 q (by omega), hx, hq]
            have q1 : ((p : Int) + (j : Int)) = (q : Int) := by omega
            have q2 : (q : Int) < (n : Int) := by omega
            clear hx hc0 hq
            go_wp2_with fail
            go_quiet (fail)
            go_wp2_with fail
            go_roundw
            case rel => exact ⟨j + 1, by omega, by go_num, hI.drewN _⟩
            case measure => simp [intOf]; omega
          · go_wp2_with fail
            clear hp
            go_loopw [16] (fun i wr => ∃ j : Nat, j ≤ n ∧ i = .int .i64 j ∧ InvR w wr n z kk) (fun i _ => n - (intOf i).toNat)
            case atStart => exact ⟨0, Nat.zero_le _, rfl, hI⟩
            case round =>
              clear hI hj
              obtain ⟨j, hj, rfl, hI⟩ := hrel
              by_cases hjn : j < n
              · obtain ⟨b0, off0, rfl, hb0, hlz, hc0⟩ := w0.at (by omega)
                obtain ⟨x, hx⟩ : ∃ x, x = z.getD j 0 := ⟨_, rfl⟩
                have c1 : wr.cell? ⟨w.heap.size, j, none⟩ = some (.int .u8 x) := by rw [hI.buf j hjn, hx]
                have c2 : wr.cell? ⟨b0, off0 + j, none⟩ = some (.int .u8 x) := by rw [hI.below.cell (by exact hb0), hc0 j hjn, hx]
                clear hx hc0
                go_wp2_with fail
                go_quiet (fail)
                go_wp2_with fail
                go_roundw
                case rel => exact ⟨j + 1, by omega, by go_num, hI.drewN _⟩
                case measure => simp [intOf]; omega
              · have he := hI.good hkn
                go_wp2_with fail
                go_ret
                exact ⟨by simp, hI.below⟩
      · have hm1 : n < kk := by omega
        obtain ⟨p, hp, _⟩ := hI.rest
        rw [show n - kk = 0 from by omega] at hp
        have hd : decide (n < kk) = true := decide_eq_true hm1
        go_wp2_with fail
        clear hp
        go_loopw [15] (fun i wr => ∃ j : Nat, j ≤ 0 ∧ i = .int .i64 j ∧ InvR w wr n z kk) (fun i _ => 0 - (intOf i).toNat)
        case atStart => exact ⟨0, Nat.zero_le _, rfl, hI⟩
        case round =>
          clear hI
          obtain ⟨j, hj, rfl, hI⟩ := hrel
          obtain ⟨p, hp, hpk⟩ := hI.rest
          rw [show n - kk = 0 from by omega] at hp
          obtain rfl : j = 0 := by omega
          · go_wp2_with fail
            clear hp
            go_loopw [16] (fun i wr => ∃ j : Nat, j ≤ n ∧ i = .int .i64 j ∧ InvR w wr n z kk) (fun i _ => n - (intOf i).toNat)
            case atStart => exact ⟨0, Nat.zero_le _, rfl, hI⟩
            case round =>
              clear hI hj
              obtain ⟨j, hj, rfl, hI⟩ := hrel
              by_cases hjn : j < n
              · obtain ⟨b0, off0, rfl, hb0, hlz, hc0⟩ := w0.at (by omega)
                obtain ⟨x, hx⟩ : ∃ x, x = z.getD j 0 := ⟨_, rfl⟩
                have c1 : wr.cell? ⟨w.heap.size, j, none⟩ = some (.int .u8 x) := by rw [hI.buf j hjn, hx]
                have c2 : wr.cell? ⟨b0, off0 + j, none⟩ = some (.int .u8 x) := by rw [hI.below.cell (by exact hb0), hc0 j hjn, hx]
                clear hx hc0
                go_wp2_with fail
                go_quiet (fail)
                go_wp2_with fail
                go_roundw
                case rel => exact ⟨j + 1, by omega, by go_num, hI.drewN _⟩
                case measure => simp [intOf]; omega
              · obtain ⟨v, he⟩ := hI.bad hm1
                go_wp2_with fail
                go_ret
                exact ⟨by simp, hI.below⟩
end Go.Proofs.Ybulkcxoo.lawS4954BReads
