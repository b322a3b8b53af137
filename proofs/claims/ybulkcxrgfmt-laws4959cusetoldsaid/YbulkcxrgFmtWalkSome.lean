import Derived.Test.YbulkcxrgFmtWalkOdd
namespace Go.Proofs.YbulkcxrgFmt
open Go.RowKit Go.Maps Go.WideMaps Go.Kit Go.Extern.Stop Go.Stop Go.Extern
set_option linter.unusedVariables false

set_option maxHeartbeats 20000000 in
set_option maxRecDepth 100000 in
theorem walk_some (F : Interp) (a0 : Option Addr) (len cap : Nat) (ss : List ByteArray) (s : ByteArray) (p : Nat) (w : World) (hlen : len ≤ 1024) (hp : p ≤ 255) (hS : IsStrs w a0 len ss) (hs : s.size ≤ 140737488351232) (mb : Option Nat) (hT : Told F w mb) (h2 : p % 2 = 0) (hl0 : 0 < len) :
    Calls Ybaf.prog 3 #[.slice a0 len cap, .string s, .int .u8 p] w fun e w' => e = .returned (.bool true) ∧ Below w.heap.size w w' := by
  have hmm := @run_makeMap Ybaf.prog
  have HS : Hid (IsStrs w a0 len ss) := hS
  have hF := hT.ans
  have hpos := hT.pos
  have HG0 : Hid (w.cell? ⟨0, 0, none⟩ = some (.map mb)) := hT.cell
  have H45 := Lib.hid hT.look
  have HT := Lib.hid hT.text
  clear hS hT
  have t1 : ((p : Int) % 2 == 0) = true := beq_iff_eq.2 (by omega)
  have t2 : (0 : Int) < (len : Int) := by omega
  obtain ⟨ix, hix0⟩ : ∃ ix, ix = (p / 2) % len := ⟨_, rfl⟩
  have hix : ix < len := by rw [hix0]; exact Nat.mod_lt _ hl0
  have hix1 : ((p : Int) / 2) % (len : Int) = (ix : Int) := by rw [hix0, Int.natCast_emod, Int.natCast_ediv]; rfl
  clear hix0
  obtain ⟨hss, hsz, hrow⟩ := HS.out
  obtain ⟨b0, off0, rfl, hb0, hc0⟩ := hrow hl0
  have HSS := Lib.hid hss
  have HSZ := Lib.hid hsz
  have HC0 := Lib.hid hc0
  clear hss hsz hrow hc0 HS
  go_enter Ybaf.func3, Ybaf.ntmps3
  go_wp2_with fail
  clear hmm
  go_loopw [27] (fun i wr => ∃ (k : Nat) (D : DataW Unit), k ≤ len ∧ i = .int .i64 k ∧ Hid (St w wr k D 0) ∧ Hid (∀ j, j < k → has D (keyL (ss.getD j ByteArray.empty)) = true)) (fun i _ => len - (intOf i).toNat)
  case atStart => exact ⟨0, .map [], Nat.zero_le _, rfl, St.start w _ rfl rfl rfl rfl, fun j hj => by omega⟩
  case round =>
    obtain ⟨k, D, hk, rfl, HI, HA⟩ := hrel
    by_cases hlt : k < len
    · have hss := HSS.out
      have hsz := HSZ.out
      have hc0 := HC0.out
      obtain ⟨x, hx⟩ : ∃ x, x = ss.getD k ByteArray.empty := ⟨_, rfl⟩
      have hcx : wr.cell? ⟨b0, off0 + k, none⟩ = some (.string x) := by rw [HI.out.below.cell (by exact hb0), hc0 k hlt, hx]
      have hxm : x.size ≤ maxLen := by
        have : x ∈ ss := by rw [hx, List.getD_eq_getElem?_getD, List.getElem?_eq_getElem (by omega)]; exact List.getElem_mem (by omega)
        have := hsz x this
        unfold maxLen; omega
      have c10 := HI.out.c10
      have HX : Hid (x = ss.getD k ByteArray.empty) := hx
      clear hx hc0 hsz hss
      go_wp2_with (at_mapUpdate; refine wpList_mapUpdate_own _ rfl _ _ _ 24 rfl 9 4 law9 Ybaf.underlying24 _ w.heap.size k _ rfl HI.out.map (by unfold maxLen; omega) _ _ _ rfl rfl (key9 x hxm) _ [] (plainElem_bool Ybaf.underlying4 true) ?_)
      intro w1 hown1 hgrow1
      have h1 := HI.out.mark hxm hown1 hgrow1
      have H1 := Lib.hid h1
      clear h1 hown1 hgrow1 c10 hcx
      go_wp2
      go_roundw
      case rel =>
        refine ⟨k + 1, _, by omega, by go_num, H1.out, fun j hj => ?_⟩
        by_cases e : j = k
        · subst e
          rw [← HX.out]
          exact has_put_same HI.out.map.isMap (isKey9 x hxm) _
        · by_cases e2 : keyL (ss.getD j ByteArray.empty) = keyL x
          · rw [e2]; exact has_put_same HI.out.map.isMap (isKey9 x hxm) _
          · rw [has_put_other e2]; exact HA.out j (by omega)
      case measure => simp [intOf]; omega
    · obtain rfl : len = k := by omega
      clear hlt hk
      have hss := HSS.out
      have hsz := HSZ.out
      have hc0 := HC0.out
      obtain ⟨nm, hnme⟩ : ∃ nm, nm = ss.getD ix ByteArray.empty := ⟨_, rfl⟩
      have hnm : nm.size ≤ 140737488351232 := by
        have : nm ∈ ss := by rw [hnme, List.getD_eq_getElem?_getD, List.getElem?_eq_getElem (by omega)]; exact List.getElem_mem (by omega)
        exact hsz nm this
      have hnmM : nm.size ≤ maxLen := by unfold maxLen; omega
      have hcn : wr.cell? ⟨b0, off0 + ix, none⟩ = some (.string nm) := by rw [HI.out.below.cell (by exact hb0), hc0 ix hix, hnme]
      clear hss hsz hc0 hnme
      rcases hb : has D (keyL nm) with _ | _
      · have HB : Hid (has D (keyL nm) = false) := hb
        clear hb
        obtain ⟨z, hz⟩ : ∃ z, z = Maps.size D := ⟨_, rfl⟩
        have hz1 : z ≤ 1024 := by rw [hz]; exact Nat.le_trans HI.out.map.size_le hlen
        have HZ : Hid (z = Maps.size D) := hz
        clear hz
        have c10 := HI.out.c10
        have hlk : (Instr.lookup 24 (.map (some w.heap.size)) (.string nm) false).run Ybaf.prog wr = .ok (.bool false) wr := by rw [HI.out.look nm hnmM, HB.out]
        have hln : ∀ ty, (Builtin.len_ #[24] ty #[.map (some w.heap.size)]).run Ybaf.prog wr = .ok (.int .i64 z) wr := fun ty => by rw [HI.out.len ty, HZ.out]
        go_wp2_with fail
        clear c10 hlk hln
        refine (len_any (w.heap.size + 1) 0 0 none _ (by omega) (HI.out.c11n rfl) HI.out.c12).mono ?_
        rintro e W1 ⟨rfl, m1, hm1⟩
        have H1 : Hid (St w W1 len D 0) := by show St w W1 len D 0; rw [hm1]; exact HI.out.drewN m1
        have HF1 : Hid (F.answers W1.tape) := by show F.answers W1.tape; rw [H1.out.below.tape]; exact hF
        clear hm1
        go_wp2_with fail
        obtain ⟨x, y, wx, wy, hlook⟩ := H45.out nm hnm
        have hll := HT.out nm x y hnm wx wy
        refine (builtin_new F H1.out HF1.out nm hnm (by omega) HB.out mb x y HG0.out hpos hlook hll.1 hll.2).mono ?_
        clear hlook hll
        rintro e W2 ⟨rfl, L, hW2⟩
        have H2' : Hid (St w W2 (len + 1) (D.put (keyL nm) (.lit (.bool true))) L) := hW2
        have HB2 : Hid (has (D.put (keyL nm) (.lit (.bool true))) (keyL nm) = true) := has_put_same HI.out.map.isMap (isKey9 nm hnmM) _
        have HA2 : Hid (∀ j, j < len → has (D.put (keyL nm) (.lit (.bool true))) (keyL (ss.getD j ByteArray.empty)) = true) := fun j hj => by
          by_cases e : keyL (ss.getD j ByteArray.empty) = keyL nm
          · rw [e]; exact has_put_same HI.out.map.isMap (isKey9 nm hnmM) _
          · rw [has_put_other e]; exact HA.out j hj
        have HZ2 : Hid (((Maps.size (D.put (keyL nm) (.lit (.bool true))) : Nat) : Int) = (z : Int) + 1) := by
          show ((Maps.size (D.put (keyL nm) (.lit (.bool true))) : Nat) : Int) = (z : Int) + 1
          rw [size_put (HI.out.map.tidy law9), HB.out, HZ.out]
          simp
        clear hW2 HB HA HZ H1 HI
        generalize D.put (keyL nm) (.lit (.bool true)) = D2 at H2' HB2 HA2 HZ2
        obtain ⟨n2, hn2⟩ : ∃ n2, n2 = len + 1 := ⟨_, rfl⟩
        rw [← hn2] at H2'
        clear hn2
        have hLm : L ≤ 281474976710656 := H2'.out.most
        have c10 := H2'.out.c10
        have hlk : (Instr.lookup 24 (.map (some w.heap.size)) (.string nm) false).run Ybaf.prog W2 = .ok (.bool true) W2 := by rw [H2'.out.look nm hnmM, HB2.out]
        have hln : ∀ ty, (Builtin.len_ #[24] ty #[.map (some w.heap.size)]).run Ybaf.prog W2 = .ok (.int .i64 ((z : Int) + 1)) W2 := fun ty => by rw [H2'.out.len ty, HZ2.out]
        go_wp2_with fail
        clear c10 hlk hln
        have H3 : Hid (St w W2 n2 D2 L) := H2'
        clear H2'
        go_loopw [109] (fun i wr => ∃ j : Nat, j ≤ len ∧ i = .int .i64 j ∧ Hid (St w wr n2 D2 L)) (fun i _ => len - (intOf i).toNat)
        case atStart => exact ⟨0, Nat.zero_le _, rfl, H3⟩
        case round =>
          clear H3
          obtain ⟨j, hj, rfl, H3⟩ := hrel
          have c10 := H3.out.c10
          by_cases hjn : j < len
          · have hss := HSS.out
            have hsz := HSZ.out
            have hc0 := HC0.out
            obtain ⟨x, hx⟩ : ∃ x, x = ss.getD j ByteArray.empty := ⟨_, rfl⟩
            have hcx : wr.cell? ⟨b0, off0 + j, none⟩ = some (.string x) := by rw [H3.out.below.cell (by exact hb0), hc0 j hjn, hx]
            have hxm : x.size ≤ maxLen := by
              have : x ∈ ss := by rw [hx, List.getD_eq_getElem?_getD, List.getElem?_eq_getElem (by omega)]; exact List.getElem_mem (by omega)
              have := hsz x this
              unfold maxLen; omega
            have hlk : (Instr.lookup 24 (.map (some w.heap.size)) (.string x) false).run Ybaf.prog wr = .ok (.bool true) wr := by rw [H3.out.look x hxm, hx, HA2.out j hjn]
            clear hx hc0 hsz hss
            go_wp2_with fail
            go_roundw
            case rel => exact ⟨j + 1, by omega, by go_num, H3⟩
            case measure => simp [intOf]; omega
          · have hlk : (Instr.lookup 24 (.map (some w.heap.size)) (.string nm) false).run Ybaf.prog wr = .ok (.bool true) wr := by rw [H3.out.look nm hnmM, HB2.out]
            have hln : ∀ ty, (Builtin.len_ #[24] ty #[.map (some w.heap.size)]).run Ybaf.prog wr = .ok (.int .i64 ((z : Int) + 1)) wr := fun ty => by rw [H3.out.len ty, HZ2.out]
            go_wp2_with fail
            clear c10 hlk hln
            obtain ⟨ao, cp, h11⟩ := H3.out.c11
            refine (len_any (w.heap.size + 1) L cp ao _ hLm h11 H3.out.c12).mono ?_
            rintro e W4 ⟨rfl, m4, hm4⟩
            have H4 : Hid (St w W4 n2 D2 L) := by show St w W4 n2 D2 L; rw [hm4]; exact H3.out.drewN m4
            clear hm4 h11 H3
            go_wp2_with fail
            refine (builtin_old H4.out nm (by omega) HB2.out).mono ?_
            rintro e W5 ⟨rfl, hW5⟩
            subst hW5
            go_wp2_with fail
            obtain ⟨ao2, cp2, h11⟩ := H4.out.c11
            refine (len_any (w.heap.size + 1) L cp2 ao2 _ hLm h11 H4.out.c12).mono ?_
            rintro e W6 ⟨rfl, m6, hm6⟩
            have H6 : Hid (St w W6 n2 D2 L) := by show St w W6 n2 D2 L; rw [hm6]; exact H4.out.drewN m6
            clear hm6 h11 H4
            have c10 := H6.out.c10
            have hlk : (Instr.lookup 24 (.map (some w.heap.size)) (.string nm) false).run Ybaf.prog W6 = .ok (.bool true) W6 := by rw [H6.out.look nm hnmM, HB2.out]
            have hln : ∀ ty, (Builtin.len_ #[24] ty #[.map (some w.heap.size)]).run Ybaf.prog W6 = .ok (.int .i64 ((z : Int) + 1)) W6 := fun ty => by rw [H6.out.len ty, HZ2.out]
            go_wp2_with fail
            go_ret
            exact ⟨by simp, H6.out.below⟩
      · have HB : Hid (has D (keyL nm) = true) := hb
        clear hb
        obtain ⟨z, hz⟩ : ∃ z, z = Maps.size D := ⟨_, rfl⟩
        have hz1 : z ≤ 1024 := by rw [hz]; exact Nat.le_trans HI.out.map.size_le hlen
        have HZ : Hid (z = Maps.size D) := hz
        clear hz
        have c10 := HI.out.c10
        have hlk : (Instr.lookup 24 (.map (some w.heap.size)) (.string nm) false).run Ybaf.prog wr = .ok (.bool true) wr := by rw [HI.out.look nm hnmM, HB.out]
        have hln : ∀ ty, (Builtin.len_ #[24] ty #[.map (some w.heap.size)]).run Ybaf.prog wr = .ok (.int .i64 z) wr := fun ty => by rw [HI.out.len ty, HZ.out]
        go_wp2_with fail
        clear c10 hlk hln
        refine (len_any (w.heap.size + 1) 0 0 none _ (by omega) (HI.out.c11n rfl) HI.out.c12).mono ?_
        rintro e W1 ⟨rfl, m1, hm1⟩
        have H1 : Hid (St w W1 len D 0) := by show St w W1 len D 0; rw [hm1]; exact HI.out.drewN m1
        have HF1 : Hid (F.answers W1.tape) := by show F.answers W1.tape; rw [H1.out.below.tape]; exact hF
        clear hm1
        go_wp2_with fail
        refine (builtin_old H1.out nm (by omega) HB.out).mono ?_
        rintro e W2 ⟨rfl, hW2⟩
        subst hW2
        have H2 : Hid (St w W2 len D 0) := H1
        have HB2 : Hid (has D (keyL nm) = true) := HB
        have HA2 : Hid (∀ j, j < len → has D (keyL (ss.getD j ByteArray.empty)) = true) := HA
        have HZ2 : Hid (((Maps.size D : Nat) : Int) = (z : Int)) := by show ((Maps.size D : Nat) : Int) = (z : Int); rw [HZ.out]
        clear H1 HI
        obtain ⟨D2, hD2⟩ : ∃ D2, D2 = D := ⟨_, rfl⟩
        rw [← hD2] at H2 HB2 HA2 HZ2
        obtain ⟨n2, hn2⟩ : ∃ n2, n2 = len := ⟨_, rfl⟩
        obtain ⟨L, hL⟩ : ∃ L, L = 0 := ⟨_, rfl⟩
        have H2' : Hid (St w W2 n2 D2 L) := by show St w W2 n2 D2 L; rw [hn2, hL]; exact H2.out
        have HLz : Hid (L = 0) := hL
        clear H2 hD2 hn2 hL HA HZ HB
        have hLm : L ≤ 281474976710656 := H2'.out.most
        have c10 := H2'.out.c10
        have hlk : (Instr.lookup 24 (.map (some w.heap.size)) (.string nm) false).run Ybaf.prog W2 = .ok (.bool true) W2 := by rw [H2'.out.look nm hnmM, HB2.out]
        have hln : ∀ ty, (Builtin.len_ #[24] ty #[.map (some w.heap.size)]).run Ybaf.prog W2 = .ok (.int .i64 (z : Int)) W2 := fun ty => by rw [H2'.out.len ty, HZ2.out]
        go_wp2_with fail
        clear c10 hlk hln
        obtain ⟨ao, cp, h11⟩ := H2'.out.c11
        refine (len_any (w.heap.size + 1) L cp ao _ hLm h11 H2'.out.c12).mono ?_
        rintro e W3 ⟨rfl, m3, hm3⟩
        have H3 : Hid (St w W3 n2 D2 L) := by show St w W3 n2 D2 L; rw [hm3]; exact H2'.out.drewN m3
        clear hm3 h11 H2'
        have hL0 : ((L : Int) != 0) = false := by rw [HLz.out]; rfl
        go_wp2_with fail
        go_loopw [109] (fun i wr => ∃ j : Nat, j ≤ len ∧ i = .int .i64 j ∧ Hid (St w wr n2 D2 L)) (fun i _ => len - (intOf i).toNat)
        case atStart => exact ⟨0, Nat.zero_le _, rfl, H3⟩
        case round =>
          clear H3
          obtain ⟨j, hj, rfl, H3⟩ := hrel
          have c10 := H3.out.c10
          by_cases hjn : j < len
          · have hss := HSS.out
            have hsz := HSZ.out
            have hc0 := HC0.out
            obtain ⟨x, hx⟩ : ∃ x, x = ss.getD j ByteArray.empty := ⟨_, rfl⟩
            have hcx : wr.cell? ⟨b0, off0 + j, none⟩ = some (.string x) := by rw [H3.out.below.cell (by exact hb0), hc0 j hjn, hx]
            have hxm : x.size ≤ maxLen := by
              have : x ∈ ss := by rw [hx, List.getD_eq_getElem?_getD, List.getElem?_eq_getElem (by omega)]; exact List.getElem_mem (by omega)
              have := hsz x this
              unfold maxLen; omega
            have hlk : (Instr.lookup 24 (.map (some w.heap.size)) (.string x) false).run Ybaf.prog wr = .ok (.bool true) wr := by rw [H3.out.look x hxm, hx, HA2.out j hjn]
            clear hx hc0 hsz hss
            go_wp2_with fail
            go_roundw
            case rel => exact ⟨j + 1, by omega, by go_num, H3⟩
            case measure => simp [intOf]; omega
          · have hlk : (Instr.lookup 24 (.map (some w.heap.size)) (.string nm) false).run Ybaf.prog wr = .ok (.bool true) wr := by rw [H3.out.look nm hnmM, HB2.out]
            have hln : ∀ ty, (Builtin.len_ #[24] ty #[.map (some w.heap.size)]).run Ybaf.prog wr = .ok (.int .i64 (z : Int)) wr := fun ty => by rw [H3.out.len ty, HZ2.out]
            go_wp2_with fail
            clear c10 hlk hln
            obtain ⟨ao, cp, h11⟩ := H3.out.c11
            refine (len_any (w.heap.size + 1) L cp ao _ hLm h11 H3.out.c12).mono ?_
            rintro e W4 ⟨rfl, m4, hm4⟩
            have H4 : Hid (St w W4 n2 D2 L) := by show St w W4 n2 D2 L; rw [hm4]; exact H3.out.drewN m4
            clear hm4 h11 H3
            go_wp2_with fail
            refine (builtin_old H4.out nm (by omega) HB2.out).mono ?_
            rintro e W5 ⟨rfl, hW5⟩
            subst hW5
            go_wp2_with fail
            obtain ⟨ao2, cp2, h11⟩ := H4.out.c11
            refine (len_any (w.heap.size + 1) L cp2 ao2 _ hLm h11 H4.out.c12).mono ?_
            rintro e W6 ⟨rfl, m6, hm6⟩
            have H6 : Hid (St w W6 n2 D2 L) := by show St w W6 n2 D2 L; rw [hm6]; exact H4.out.drewN m6
            clear hm6 h11 H4
            have c10 := H6.out.c10
            have hlk : (Instr.lookup 24 (.map (some w.heap.size)) (.string nm) false).run Ybaf.prog W6 = .ok (.bool true) W6 := by rw [H6.out.look nm hnmM, HB2.out]
            have hln : ∀ ty, (Builtin.len_ #[24] ty #[.map (some w.heap.size)]).run Ybaf.prog W6 = .ok (.int .i64 (z : Int)) W6 := fun ty => by rw [H6.out.len ty, HZ2.out]
            go_wp2_with fail
            go_ret
            exact ⟨by simp, H6.out.below⟩

end Go.Proofs.YbulkcxrgFmt
