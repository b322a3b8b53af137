import Derived.Test.YbulkcxrgFmtText
namespace Go.Proofs.YbulkcxrgFmt
open Go.RowKit Go.Kit Go.Extern.Stop Go.Stop Go.Extern
set_option linter.unusedVariables false

/-- A step ahead of the write that lays new blocks alone. -/
theorem Wrote.after {G n : Nat} {w w1 w' : World} (h : Wrote G n w1 w') (hk : w.grownBy w1 (some G)) (hb : w1.heap[G]? = w.heap[G]?) : Wrote G n w w' :=
  ⟨gtrans hk h.kept, fun i h1 h2 => (h.cells i h1 h2).trans (World.cell?_of_block (a := ⟨G, i, none⟩) hb), fun i => (h.thaw i).trans (World.frozen?_of_block (a := ⟨G, i, none⟩) hb), h.buf, h.last⟩

set_option maxHeartbeats 6400000 in
set_option maxRecDepth 100000 in
theorem fprintf_any (F : Interp) (G A : Nat) (s0 s1 : ByteArray) (a2 a3 lr : Int) (w : World) (hF : F.answers w.tape) (hG : G < w.heap.size)
    (c0 : w.cell? ⟨G, 11, none⟩ = some (.slice none 0 0)) (c1 : w.cell? ⟨G, 12, none⟩ = some (.int .i64 0)) (c2 : w.cell? ⟨G, 13, none⟩ = some (.int .i8 lr)) (f : ∀ i, w.frozen? ⟨G, i, none⟩ = false)
    (hA0 : w.cell? ⟨A, 0, none⟩ = some (.iface 9 (.string s0))) (hA1 : w.cell? ⟨A, 1, none⟩ = some (.iface 9 (.string s1))) (hA2 : w.cell? ⟨A, 2, none⟩ = some (.iface 3 (.int .i64 a2))) (hA3 : w.cell? ⟨A, 3, none⟩ = some (.iface 3 (.int .i64 a3)))
    (hl1 : 1 ≤ (F.string "fmt.Sprintf" (lineReading s0.data.toList s1.data.toList a2 a3) 0).length) (hl2 : (F.string "fmt.Sprintf" (lineReading s0.data.toList s1.data.toList a2 a3) 0).length ≤ 281474976710656) :
    Calls Ybaf.prog 6 #[.iface 42 (.pointer (some ⟨G, 11, none⟩)), .string ⟨#[115, 116, 97, 116, 105, 99, 32, 99, 111, 110, 115, 116, 32, 116, 97, 114, 110, 95, 102, 117, 110, 99, 32, 37, 115, 32, 61, 32, 123, 116, 97, 114, 110, 95, 98, 117, 105, 108, 116, 105, 110, 95, 37, 115, 44, 32, 37, 100, 44, 32, 37, 100, 44, 32, 48, 125, 59, 10]⟩, .slice (some ⟨A, 0, none⟩) 4 4] w fun e w' =>
      ∃ n : Nat, e = .returned (.tuple #[.int .i64 n, .nilIface]) ∧ 1 ≤ n ∧ n ≤ 281474976710656 ∧ Wrote G n w w' := by
  have hF' := hF
  unfold Interp.answers at hF'
  have hcv2 := fun w s => run_bytes_of_string (P := Ybaf.prog) w 9 32 5 s Ybaf.underlying9 Ybaf.underlying32 Ybaf.underlying5
  have hm : ∀ w : World, (method 224 42 (.pointer (some ⟨G, 11, none⟩)) "Write").run Ybaf.prog w = .ok (27, .pointer (some ⟨G, 11, none⟩)) w := fun _ => by kernel_rfl
  have hc27 : ∀ (args : Array Value) (w : World), (callFunc 27 args).run Ybaf.prog w = .ok (.enter 27 args) w := fun _ _ => by kernel_rfl
  have k7 := call7
  have g7 := guard7
  have p7 := fmtP
  have r7 := fmtR
  have o3 := op3
  have o9 := op9
  have W0 : Hid (∀ i, w.frozen? ⟨G, i, none⟩ = false) := f
  have L1 : Hid (1 ≤ (F.string "fmt.Sprintf" (lineReading s0.data.toList s1.data.toList a2 a3) 0).length) := hl1
  have L2 : Hid ((F.string "fmt.Sprintf" (lineReading s0.data.toList s1.data.toList a2 a3) 0).length ≤ 281474976710656) := hl2
  clear f hl1 hl2
  go_enter Ybaf.func6, Ybaf.ntmps6
  go_wp2_with fail
  have hsl := textOf_list F "fmt.Sprintf" (lineReading s0.data.toList s1.data.toList a2 a3)
  unfold lineReading at hsl
  generalize FmtStop.textOf (F "fmt.Sprintf" _ 0) = s at hsl ⊢
  generalize grownCap w.drew s.size 0 5 = cap
  have hlen : s.data.toList.length = s.size := by rw [Array.length_toList]; rfl
  rw [hsl] at hlen
  have hs1 : 1 ≤ s.size := by rw [← hlen]; exact L1.out
  have hs2 : s.size ≤ 281474976710656 := by rw [← hlen]; exact L2.out
  clear hlen hsl L1 L2 k7 g7 p7 r7 o3 o9 hm hc27 hcv2 hF' hA0 hA1 hA2 hA3
  obtain ⟨W3, hW3⟩ : ∃ W3, W3 = (w.alloc (Obj.cells (bytesRow s cap) 5 ((bytesRow s cap).size, (bytesRow s cap).size + 1))).drew.drew := ⟨_, rfl⟩
  rw [← hW3]
  have hblk : W3.heap[G]? = w.heap[G]? := by rw [hW3]; exact Below.heap_alloc w _ G hG
  have hsz3 : W3.heap.size = w.heap.size + 1 := by rw [hW3]; simp
  have hk3 : w.grownBy W3 (some G) := by rw [hW3]; exact gtrans (gtrans (World.grownBy_alloc w _ _) (gdrew _ _)) (gdrew _ _)
  have e0 : W3.cell? ⟨G, 11, none⟩ = some (.slice none 0 0) := by rw [World.cell?_of_block (a := ⟨G, 11, none⟩) hblk]; exact c0
  have e1 : W3.cell? ⟨G, 12, none⟩ = some (.int .i64 0) := by rw [World.cell?_of_block (a := ⟨G, 12, none⟩) hblk]; exact c1
  have e2 : W3.cell? ⟨G, 13, none⟩ = some (.int .i8 lr) := by rw [World.cell?_of_block (a := ⟨G, 13, none⟩) hblk]; exact c2
  have ef : ∀ i, W3.frozen? ⟨G, i, none⟩ = false := fun i => by rw [World.frozen?_of_block (a := ⟨G, i, none⟩) hblk]; exact W0.out i
  have hsrc : ∀ (j : Nat) v, (s.data.toList.map fun b => Value.int .u8 (b.toNat : Int))[j]? = some v → W3.cell? ((⟨w.heap.size, 0, none⟩ : Addr).add j) = some v := by
    intro j v hv
    rw [Addr.add_lit, Nat.zero_add, hW3]
    show (w.alloc _).cell? _ = _
    have hj : j < s.data.size := by
      have := (List.getElem?_eq_some_iff.1 hv).1
      simpa using this
    rw [World.cell?_alloc_mark, bytesRow_at s _ j hj]
    rw [List.getElem?_map, List.getElem?_eq_getElem (by simpa using hj)] at hv
    simpa using hv
  refine (write_any G s.size cap ⟨w.heap.size, 0, none⟩ (s.data.toList.map fun b => Value.int .u8 (b.toNat : Int)) lr W3 (by omega) hs1 hs2 e0 e1 e2 ef (by rw [List.length_map, Array.length_toList]; rfl) (by show w.heap.size ≠ G; omega) hsrc (fun v hv => by obtain ⟨_, _, rfl⟩ := List.mem_map.1 hv; rfl)).mono ?_
  rintro e w2 ⟨rfl, hwr⟩
  have HW := Lib.hid hwr
  clear hwr e0 e1 e2 ef hsrc
  go_wp2
  go_ret2
  exact ⟨s.size, rfl, hs1, hs2, HW.out.after hk3 hblk⟩
end Go.Proofs.YbulkcxrgFmt
