import Derived.Test.YbulkcxrgFmtGrow
namespace Go.Proofs.YbulkcxrgFmt
open Go.RowKit
set_option linter.unusedVariables false

/-- What (*bytes.Buffer).Write of n bytes onto an empty buffer leaves: of block G only the buffer's slice and 'lastRead' have turned; no other block that was there has. -/
structure Wrote (G n : Nat) (w w' : World) : Prop where
  kept : w.grownBy w' (some G)
  cells : ∀ i, i ≠ 11 → i ≠ 13 → w'.cell? ⟨G, i, none⟩ = w.cell? ⟨G, i, none⟩
  thaw : ∀ i, w'.frozen? ⟨G, i, none⟩ = w.frozen? ⟨G, i, none⟩
  buf : ∃ ao cap, w'.cell? ⟨G, 11, none⟩ = some (.slice ao n cap)
  last : ∃ lr, w'.cell? ⟨G, 13, none⟩ = some (.int .i8 lr)

theorem wrote_end {G n N cap : Nat} {w W2 : World} {lr : Int} (hG : G < w.heap.size) (c2 : w.cell? ⟨G, 13, none⟩ = some (.int .i8 lr)) (h : Grew G n (w.setCell ⟨G, 13, none⟩ (.int .i8 0)) W2) (h11 : W2.cell? ⟨G, 11, none⟩ = some (.slice (some ⟨N, 0, none⟩) n cap)) (hN : w.heap.size ≤ N) (ys : Array Value) :
    Wrote G n w (W2.setRow N ys) := by
  have hGN : G ≠ N := by omega
  have k := gtrans (gset w G 13 (.int .i8 0)) h.kept
  refine ⟨⟨k.os, k.tape, k.output, by simpa [World.setRow] using k.size, fun i hi hr => (setRow_other _ _ _ _ (by omega)).trans (k.block i hi hr)⟩, fun i h1 h2 => ?_, fun i => ?_, ⟨some ⟨N, 0, none⟩, cap, ?_⟩, 0, ?_⟩
  · rw [cell_setRow_other _ _ _ _ (by exact hGN), h.cells i h1, World.cell?_setCell_other _ _ _ _ (addr_ne (by omega))]
  · rw [World.frozen?_of_block (a := ⟨G, i, none⟩) (setRow_other W2 N G ys hGN), h.thaw, World.frozen?_setCell]
  · rw [cell_setRow_other _ _ _ _ (by exact hGN), h11]
  · rw [cell_setRow_other _ _ _ _ (by exact hGN), h.cells 13 (by omega), World.cell?_setCell_same _ _ _ c2]

set_option maxHeartbeats 6400000 in
set_option maxRecDepth 100000 in
theorem write_any (G n c : Nat) (a : Addr) (cs : List Value) (lr : Int) (w : World) (hG : G < w.heap.size) (hn : 1 ≤ n) (hlim : n ≤ 281474976710656)
    (c0 : w.cell? ⟨G, 11, none⟩ = some (.slice none 0 0)) (c1 : w.cell? ⟨G, 12, none⟩ = some (.int .i64 0)) (c2 : w.cell? ⟨G, 13, none⟩ = some (.int .i8 lr))
    (f : ∀ i, w.frozen? ⟨G, i, none⟩ = false) (hcs : cs.length = n) (hab : a.block ≠ G) (hsrc : ∀ j v, cs[j]? = some v → w.cell? (a.add j) = some v) (h1c : ∀ v ∈ cs, v.oneCell' = true) :
    Calls Ybaf.prog 27 #[.pointer (some ⟨G, 11, none⟩), .slice (some a) n c] w fun e w' => e = .returned (.tuple #[.int .i64 n, .nilIface]) ∧ Wrote G n w w' := by
  have f2 := f 13
  have W0 : Hid (∀ i, w.frozen? ⟨G, i, none⟩ = false) := f
  clear f
  have hinfo : (Ybaf.prog.info? 5).map (·.size) = some 1 := by kernel_rfl
  have S0 : Hid (∀ j v, cs[j]? = some v → w.cell? (a.add j) = some v) := hsrc
  clear hsrc
  have d0 : (w.setCell ⟨G, 13, none⟩ (.int .i8 0)).cell? ⟨G, 11, none⟩ = some (.slice none 0 0) := by rw [World.cell?_setCell_other _ _ _ _ (addr_ne (by omega)), c0]
  have d1 : (w.setCell ⟨G, 13, none⟩ (.int .i8 0)).cell? ⟨G, 12, none⟩ = some (.int .i64 0) := by rw [World.cell?_setCell_other _ _ _ _ (addr_ne (by omega)), c1]
  go_enter Ybaf.func27, Ybaf.ntmps27
  go_wp2_with fail
  refine (tryGrow_none G n _ hn hlim (by exact d0)).mono ?_
  rintro e w1 ⟨rfl, rfl⟩
  go_wp2_with fail
  have key : Calls Ybaf.prog 29 #[.pointer (some ⟨G, 11, none⟩), .int .i64 n] (w.setCell ⟨G, 13, none⟩ (.int .i8 0)) fun e w' => e = .returned (.int .i64 0) ∧ Grew G n (w.setCell ⟨G, 13, none⟩ (.int .i8 0)) w' := by
    by_cases h64 : n ≤ 64
    · exact grow_small G n _ (by simpa using hG) hn h64 d0 d1 (by rw [World.frozen?_setCell]; exact W0.out 11)
    · exact grow_big G n _ (by simpa using hG) (by omega) hlim d0 d1 (by rw [World.frozen?_setCell]; exact W0.out 11) (by rw [World.frozen?_setCell]; exact W0.out 12)
  refine key.mono ?_
  clear key
  rintro e W2 ⟨rfl, hgr⟩
  obtain ⟨N, cap, arr, h11, hN, hrow, harr, hncap, hcm⟩ := hgr.row
  have hN2 : w.heap.size ≤ N := by simpa using hN
  have hcm' := hcm
  unfold maxLen at hcm'
  have hsrc2 : ∀ j v, cs[j]? = some v → W2.cell? (a.add j) = some v := fun j v hj => by
    have hb : (a.add j).block = a.block := by unfold Addr.add; split <;> rfl
    have h1 := S0.out j v hj
    have hlt : (a.add j).block < w.heap.size := World.block_lt_of_cell? _ _ h1
    rw [World.cell?_of_block (a := a.add j) ((gtrans (gset w G 13 (.int .i8 0)) hgr.kept).block _ hlt (fun e => hab (by rw [← hb]; exact Option.some.inj e))), h1]
  have hcp := run_copy_row (P := Ybaf.prog) W2 32 32 3 5 N 0 n cap a n c arr 5 cs Ybaf.underlying32 hinfo hrow (by rw [hcs]; exact (Nat.min_self n).symm) hsrc2 (by omega) h1c
  rw [hcs] at hcp
  generalize (arr.toList.take 0 ++ cs ++ arr.toList.drop (0 + n)).toArray = ys at hcp
  have HG := Lib.hid hgr
  clear hgr hrow hsrc2 hN d0 d1
  go_wp2
  go_ret2
  exact ⟨rfl, wrote_end hG c2 HG.out h11 hN2 ys⟩
end Go.Proofs.YbulkcxrgFmt
