import Derived.Test.YbulkcxrgFmtBuf
import Derived.Lib.BufferMore
import Derived.BigCall
import Derived.BigGuard
namespace Go.Proofs.YbulkcxrgFmt
open Go.RowKit
set_option linter.unusedVariables false

/-- What (*bytes.Buffer).grow leaves: room for n bytes in a new row N; of block G only the buffer's first cell has turned. -/
structure Grew (G n : Nat) (w w' : World) : Prop where
  kept : w.grownBy w' (some G)
  cells : ∀ i, i ≠ 11 → w'.cell? ⟨G, i, none⟩ = w.cell? ⟨G, i, none⟩
  thaw : ∀ i, w'.frozen? ⟨G, i, none⟩ = w.frozen? ⟨G, i, none⟩
  row : ∃ N cap arr, w'.cell? ⟨G, 11, none⟩ = some (.slice (some ⟨N, 0, none⟩) n cap) ∧ w.heap.size ≤ N ∧ w'.heap[N]? = some (.cells arr 5 (0, 0)) ∧ arr.size = cap ∧ n ≤ cap ∧ cap ≤ maxLen

theorem gtrans {a w w' : World} {row : Option Nat} (h : a.grownBy w row) (k : w.grownBy w' row) : a.grownBy w' row :=
  ⟨k.os.trans h.os, k.tape.trans h.tape, k.output.trans h.output, Nat.le_trans h.size k.size, fun i hi hr => (k.block i (Nat.lt_of_lt_of_le hi h.size) hr).trans (h.block i hi hr)⟩
theorem grefl (w : World) (row : Option Nat) : w.grownBy w row := ⟨rfl, rfl, rfl, Nat.le_refl _, fun _ _ _ => rfl⟩
theorem gset (w : World) (b i : Nat) (v : Value) : w.grownBy (w.setCell ⟨b, i, none⟩ v) (some b) :=
  ⟨rfl, rfl, rfl, by simp, fun k _ hk => Below.heap_setCell _ _ _ k (fun e => hk (by rw [e]))⟩
theorem gdrewN (w : World) (m : Nat) (row : Option Nat) : w.grownBy (w.drewN m) row := ⟨rfl, rfl, rfl, Nat.le_refl _, fun _ _ _ => rfl⟩
theorem gdrew (w : World) (row : Option Nat) : w.grownBy w.drew row := ⟨rfl, rfl, rfl, Nat.le_refl _, fun _ _ _ => rfl⟩

theorem addr_ne {b o b' o' : Nat} (h : b ≠ b' ∨ o ≠ o') : (⟨b, o, none⟩ : Addr) ≠ ⟨b', o', none⟩ := by
  intro e
  injection e with e1 e2
  rcases h with h | h
  · exact h e1
  · exact h e2

theorem grew_small {G n m : Nat} {w : World} {M : Array Value} (hG : G < w.heap.size) (c0 : w.cell? ⟨G, 11, none⟩ = some (.slice none 0 0)) (hMs : M.size = 64) (h64 : n ≤ 64) :
    Grew G n w (((w.drewN m).setCell ⟨G, 11, none⟩ (.slice (some ⟨(w.drewN m).heap.size, 0, none⟩) n 64)).alloc (.cells M 5)) := by
  have hs : ((w.drewN m).setCell ⟨G, 11, none⟩ (.slice (some ⟨(w.drewN m).heap.size, 0, none⟩) n 64)).heap.size = w.heap.size := by simp
  refine ⟨gtrans (gtrans (gdrewN w m _) (gset _ G 11 _)) (World.grownBy_alloc _ _ _), fun i hi => ?_, fun i => ?_, w.heap.size, 64, M, ?_, Nat.le_refl _, ?_, hMs, h64, by unfold maxLen; omega⟩
  · rw [World.cell?_alloc_past _ _ _ (by rw [hs]; exact hG), World.cell?_setCell_other _ _ _ _ (addr_ne (by omega))]
    rfl
  · rw [frozen?_alloc_cells, World.frozen?_setCell]
    rfl
  · rw [World.cell?_alloc_past _ _ _ (by rw [hs]; exact hG), World.cell?_setCell_same _ _ _ (show (w.drewN m).cell? ⟨G, 11, none⟩ = some (.slice none 0 0) from c0)]
    rfl
  · rw [← hs]; exact heap_alloc_new _ _

theorem grew_big {G n m cap2 : Nat} {w : World} {cells : Array Value} (v0 : Value) (hG : G < w.heap.size) (c0 : w.cell? ⟨G, 11, none⟩ = some (.slice none 0 0)) (c1 : w.cell? ⟨G, 12, none⟩ = some (.int .i64 0)) (hcs : cells.size = cap2) (hn : n ≤ cap2) (hm : cap2 ≤ maxLen) :
    Grew G n w ((((((w.drewN m).drew.alloc (.cells cells 5)).drew).setCell ⟨G, 11, none⟩ v0).setCell ⟨G, 12, none⟩ (.int .i64 0)).setCell ⟨G, 11, none⟩ (.slice (some ⟨w.heap.size, 0, none⟩) n cap2)) := by
  have d0 : (((w.drewN m).drew.alloc (.cells cells 5)).drew).cell? ⟨G, 11, none⟩ = some (.slice none 0 0) := by
    show ((w.drewN m).drew.alloc (.cells cells 5)).cell? _ = _
    rw [World.cell?_alloc_past _ _ _ (by exact hG)]; exact c0
  have d1 : (((w.drewN m).drew.alloc (.cells cells 5)).drew).cell? ⟨G, 12, none⟩ = some (.int .i64 0) := by
    show ((w.drewN m).drew.alloc (.cells cells 5)).cell? _ = _
    rw [World.cell?_alloc_past _ _ _ (by exact hG)]; exact c1
  refine ⟨gtrans (gtrans (gtrans (gtrans (gtrans (gtrans (gdrewN w m _) (gdrew _ _)) (World.grownBy_alloc _ _ _)) (gdrew _ _)) (gset _ G 11 _)) (gset _ G 12 _)) (gset _ G 11 _), fun i hi => ?_, fun i => ?_, w.heap.size, cap2, cells, ?_, Nat.le_refl _, ?_, hcs, hn, hm⟩
  · rw [World.cell?_setCell_other _ _ _ _ (addr_ne (by omega))]
    by_cases e : i = 12
    · subst e
      rw [World.cell?_setCell_same _ _ _ (u := .int .i64 0) (by rw [World.cell?_setCell_other _ _ _ _ (addr_ne (by omega)), d1]), c1]
    · rw [World.cell?_setCell_other _ _ _ _ (addr_ne (by omega)), World.cell?_setCell_other _ _ _ _ (addr_ne (by omega))]
      show ((w.drewN m).drew.alloc (.cells cells 5)).cell? _ = _
      rw [World.cell?_alloc_past _ _ _ (by exact hG)]
      rfl
  · rw [World.frozen?_setCell, World.frozen?_setCell, World.frozen?_setCell]
    show ((w.drewN m).drew.alloc (.cells cells 5)).frozen? _ = _
    rw [frozen?_alloc_cells]
    rfl
  · rw [World.cell?_setCell_same _ _ _ (u := v0) (by rw [World.cell?_setCell_other _ _ _ _ (addr_ne (by omega)), World.cell?_setCell_same _ _ _ d0])]
  · rw [Below.heap_setCell _ _ _ _ (by exact Nat.ne_of_gt hG), Below.heap_setCell _ _ _ _ (by exact Nat.ne_of_gt hG), Below.heap_setCell _ _ _ _ (by exact Nat.ne_of_gt hG)]
    exact heap_alloc_new (w.drewN m).drew _

set_option maxHeartbeats 6400000 in
set_option maxRecDepth 100000 in
theorem grow_small (G n : Nat) (w : World) (hG : G < w.heap.size) (hn : 1 ≤ n) (h64 : n ≤ 64)
    (c0 : w.cell? ⟨G, 11, none⟩ = some (.slice none 0 0)) (c1 : w.cell? ⟨G, 12, none⟩ = some (.int .i64 0)) (f0 : w.frozen? ⟨G, 11, none⟩ = false) :
    Calls Ybaf.prog 29 #[.pointer (some ⟨G, 11, none⟩), .int .i64 n] w fun e w' => e = .returned (.int .i64 0) ∧ Grew G n w w' := by
  obtain ⟨i0, hi, hz0, hz1, hz2⟩ := info_parts info5
  obtain ⟨M, hM⟩ : ∃ M, M = madeCells (Value.int .u8 0).cells ((64 : Int).toNat * i0.size) := ⟨_, rfl⟩
  have hMs : M.size = 64 := by rw [hM, size_madeCells, hz1]; rfl
  have hmk : ∀ W : World, (Instr.makeSlice 32 (.int .i64 (n : Int)) (.int .i64 64)).run Ybaf.prog W = .ok (.slice (some ⟨W.heap.size, 0, none⟩) n 64) (W.alloc (.cells M 5)) := fun W => by
    have h := run_makeSlice (P := Ybaf.prog) W 32 5 i0 (.int .u8 0) Ybaf.underlying32 hi hz0 .i64 .i64 (n : Int) 64 (by omega) (by omega) (by rw [hz1]; decide) (by rw [hz2]; decide) (by decide)
    rw [← hM] at h
    simpa using h
  clear hM hi hz0 hz1 hz2
  have hnil : ∀ W, (binOp .eql 32 (.slice none 0 0) (.slice none 0 0)).run Ybaf.prog W = .ok (.bool true) W := fun W => Lib.run_eql_slice_nil_nil W _ _ Ybaf.underlying32
  go_enter Ybaf.func29, Ybaf.ntmps29
  go_wp2_with fail
  refine (len_any G 0 0 none _ (by omega) c0 c1).mono ?_
  rintro e W0 ⟨rfl, m, hW0⟩
  have d0 : W0.cell? ⟨G, 11, none⟩ = some (.slice none 0 0) := by rw [hW0]; exact c0
  have d1 : W0.cell? ⟨G, 12, none⟩ = some (.int .i64 0) := by rw [hW0]; exact c1
  have e0 : W0.frozen? ⟨G, 11, none⟩ = false := by rw [hW0]; exact f0
  have hG0 : G < W0.heap.size := by rw [hW0]; exact hG
  have d0a : ∀ o, (W0.alloc o).cell? ⟨G, 11, none⟩ = some (.slice none 0 0) := fun o => by rw [World.cell?_alloc_past _ _ _ hG0, d0]
  have e0a : ∀ o, (W0.alloc o).frozen? ⟨G, 11, none⟩ = false := fun o => by rw [World.frozen?_alloc_past _ _ _ hG0, e0]
  have HW : Hid (W0 = w.drewN m) := hW0
  clear hW0
  go_wp2_with fail
  refine (tryGrow_none G n _ hn (by omega) d0).mono ?_
  rintro e W0 ⟨rfl, rfl⟩
  go_wp2
  go_ret
  refine ⟨rfl, ?_⟩
  rw [HW.out]
  exact grew_small hG c0 hMs h64

set_option maxHeartbeats 12800000 in
set_option maxRecDepth 100000 in
theorem grow_big (G n : Nat) (w : World) (hG : G < w.heap.size) (h64 : 64 < n) (hlim : n ≤ 281474976710656)
    (c0 : w.cell? ⟨G, 11, none⟩ = some (.slice none 0 0)) (c1 : w.cell? ⟨G, 12, none⟩ = some (.int .i64 0)) (f0 : w.frozen? ⟨G, 11, none⟩ = false) (f1 : w.frozen? ⟨G, 12, none⟩ = false) :
    Calls Ybaf.prog 29 #[.pointer (some ⟨G, 11, none⟩), .int .i64 n] w fun e w' => e = .returned (.int .i64 0) ∧ Grew G n w w' := by
  have hnil : ∀ W, (binOp .eql 32 (.slice none 0 0) (.slice none 0 0)).run Ybaf.prog W = .ok (.bool true) W := fun W => Lib.run_eql_slice_nil_nil W _ _ Ybaf.underlying32
  go_enter Ybaf.func29, Ybaf.ntmps29
  go_wp2_with fail
  refine (len_any G 0 0 none _ (by omega) c0 c1).mono ?_
  rintro e W0 ⟨rfl, m, hW0⟩
  have d0 : W0.cell? ⟨G, 11, none⟩ = some (.slice none 0 0) := by rw [hW0]; exact c0
  have d1 : W0.cell? ⟨G, 12, none⟩ = some (.int .i64 0) := by rw [hW0]; exact c1
  have e0 : W0.frozen? ⟨G, 11, none⟩ = false := by rw [hW0]; exact f0
  have e1 : W0.frozen? ⟨G, 12, none⟩ = false := by rw [hW0]; exact f1
  have hG0 : G < W0.heap.size := by rw [hW0]; exact hG
  have HW : Hid (W0 = w.drewN m) := hW0
  clear hW0 hG
  go_wp2_with fail
  refine (tryGrow_none G n _ (by omega) hlim d0).mono ?_
  rintro e W0 ⟨rfl, rfl⟩
  go_wp2_with fail
  have hwn : IntKind.i64.wrap (n : Int) = n := by rw [IntKind.wrap_i64]; omega
  go_region_with (
    go_at_call 30
    refine (growSlice_nil n _ (by omega) hlim).mono ?_
    rintro e w2 ⟨cap2, cells, rfl, hw2, hcs, hcap, hcm⟩
    have d0a : w2.cell? ⟨G, 11, none⟩ = some (.slice none 0 0) := by rw [hw2]; show (World.alloc _ _).cell? _ = _; rw [World.cell?_alloc_past _ _ _ (by exact hG0)]; exact d0
    have d1a : w2.cell? ⟨G, 12, none⟩ = some (.int .i64 0) := by rw [hw2]; show (World.alloc _ _).cell? _ = _; rw [World.cell?_alloc_past _ _ _ (by exact hG0)]; exact d1
    have e0a : w2.frozen? ⟨G, 11, none⟩ = false := by rw [hw2]; show (World.alloc _ _).frozen? _ = _; rw [World.frozen?_alloc_past _ _ _ (by exact hG0)]; exact e0
    have e1a : w2.frozen? ⟨G, 12, none⟩ = false := by rw [hw2]; show (World.alloc _ _).frozen? _ = _; rw [World.frozen?_alloc_past _ _ _ (by exact hG0)]; exact e1
    have HW2 := Lib.hid hw2
    clear hw2)
  all_goals (
    go_wp2
    go_ret
    refine ⟨rfl, ?_⟩
    rw [HW2.out, HW.out]
    refine grew_big (m := m) _ (by rw [HW.out] at hG0; exact hG0) c0 c1 hcs hcap hcm)
end Go.Proofs.YbulkcxrgFmt
