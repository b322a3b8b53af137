import Derived.Test.YbulkcxnmWalks
import Derived.Deep.Draws
import Derived.WalkSmall
namespace Go.Proofs.Ybulkcxnm.lawS4952AScript
open Go.ChangeShapes Go.WideShapes Go.ChangeAt Go.RowKit

/-- WHAT THE WALK IS TOLD OF A SLICE OF INTEGERS THAT CAME IN: it is nil; or it leads to a row of 'cap' cells, the numbers 'zs' (the first 'len' are its elements, the rest its spare room), each fitting its kind. -/
def IsRow (k : IntKind) (w : World) (a : Option Addr) (len cap : Nat) (zs : List Int) : Prop :=
  (a = none ∧ len = 0 ∧ cap = 0 ∧ zs = []) ∨
  ∃ x, a = some x ∧ len ≤ cap ∧ cap ≤ maxLen ∧ zs.length = cap ∧ (∀ i, i < zs.length → w.cell? (x.add i) = some (.int k (zs.getD i 0))) ∧ ∀ n ∈ zs, (Lit.int k n).wf = true

theorem block_lt {w : World} {a : Addr} {v : Value} (h : w.cell? a = some v) : a.block < w.heap.size := by
  refine Nat.lt_of_not_le fun hn => ?_
  have : w.heap[a.block]? = none := Array.getElem?_eq_none hn
  simp [World.cell?, this] at h

/-- A row with an element: where it lies; what its cells hold. -/
theorem IsRow.at {k : IntKind} {w : World} {a : Option Addr} {len cap : Nat} {zs : List Int} (h : IsRow k w a len cap zs) (hl : 0 < len) :
    ∃ b off, a = some ⟨b, off, none⟩ ∧ b < w.heap.size ∧ ∀ i, i < len → ∃ x : Int, w.cell? ⟨b, off + i, none⟩ = some (.int k x) ∧ x = zs.getD i 0 ∧ (Lit.int k x).wf = true := by
  rcases h with ⟨rfl, h0, _⟩ | ⟨x, rfl, hlc, hm, hz, hc, hw⟩
  · omega
  · obtain ⟨b, off, spot⟩ := x
    have h0 := hc 0 (by omega)
    have hspot : spot = none := by simpa [Addr.add] using World.cell?_spot h0
    subst hspot
    refine ⟨b, off, rfl, by simpa [Addr.add] using block_lt h0, fun i hi => ⟨zs.getD i 0, ?_, rfl, ?_⟩⟩
    · rw [← add_plain]
      exact hc i (by omega)
    · refine hw _ ?_
      rw [List.getD_eq_getElem?_getD, List.getElem?_eq_getElem (by omega)]
      simp

/-- Behind i rounds of the first loop. -/
structure Inv1 (w wr : World) (n i : Nat) (z : List Int) : Prop where
  below : Below w.heap.size w wr
  size : wr.heap.size = w.heap.size + 2 + i
  gs : ∀ j, j < n → wr.cell? ⟨w.heap.size, j, none⟩ = some (.pointer (if j < i then some ⟨w.heap.size + 2 + j, 0, none⟩ else none))
  seen : ∀ j, j < n → wr.cell? ⟨w.heap.size + 1, j, none⟩ = some (.bool false)
  came : ∀ j, j < i → wr.cell? ⟨w.heap.size + 2 + j, 3, none⟩ = some (.int .i64 (z.getD j 0))
  begun : ∀ j, j < i → wr.cell? ⟨w.heap.size + 2 + j, 4, none⟩ = some (.bool false)
  thaw : ∀ b o, w.heap.size ≤ b → wr.frozen? ⟨b, o, none⟩ = false

/-- In the second loop: which goroutines have started ('st'), which are marked ('sn'), how many have waited. -/
structure Inv2 (w wr : World) (n : Nat) (z : List Int) (st sn : Nat → Bool) (c : Int) : Prop where
  below : Below w.heap.size w wr
  gs : ∀ j, j < n → wr.cell? ⟨w.heap.size, j, none⟩ = some (.pointer (some ⟨w.heap.size + 2 + j, 0, none⟩))
  seen : ∀ j, j < n → wr.cell? ⟨w.heap.size + 1, j, none⟩ = some (.bool (sn j))
  came : ∀ j, j < n → wr.cell? ⟨w.heap.size + 2 + j, 3, none⟩ = some (.int .i64 (z.getD j 0))
  begun : ∀ j, j < n → wr.cell? ⟨w.heap.size + 2 + j, 4, none⟩ = some (.bool (st j))
  sum0 : wr.cell? ⟨w.heap.size + 2 + n, 0, none⟩ = some (.int .u64 0)
  sum1 : wr.cell? ⟨w.heap.size + 2 + n, 1, none⟩ = some (.int .u64 0)
  sum2 : wr.cell? ⟨w.heap.size + 2 + n, 2, none⟩ = some (.int .u64 c)
  sum3 : wr.cell? ⟨w.heap.size + 2 + n, 3, none⟩ = some (.int .u64 0)
  sum4 : wr.cell? ⟨w.heap.size + 2 + n, 4, none⟩ = some (.int .u64 0)
  thaw : ∀ b o, w.heap.size ≤ b → wr.frozen? ⟨b, o, none⟩ = false

theorem frozen_out {w : World} {b o : Nat} (h : w.heap.size ≤ b) : w.frozen? ⟨b, o, none⟩ = false := by
  have : w.heap[b]? = none := Array.getElem?_eq_none h
  simp [World.frozen?, this]

theorem made_get (v : Value) (n j : Nat) (h : j < n) : (madeCells #[v] n)[j]? = some v := by
  simp [madeCells, h, Nat.mod_one]

/-- At the first loop's start. -/
theorem Inv1.start (w : World) (n : Nat) (z : List Int) :
    Inv1 w ((w.alloc (.cells (madeCells #[.pointer none] n) 26)).alloc (.cells (madeCells #[.bool false] n) 4)) n 0 z := by
  refine ⟨((Below.refl _ _).alloc (Nat.le_refl _) _).alloc (by simp) _, by simp, fun j hj => ?_, fun j hj => ?_, fun j hj => by omega, fun j hj => by omega, fun b o hb => ?_⟩
  · rw [World.cell?_alloc_past _ _ _ (by simp), World.cell?_alloc_at _ _ _ _ rfl, made_get _ _ _ hj]
    simp
  · rw [World.cell?_alloc_at _ _ _ _ (by simp), made_get _ _ _ hj]
  · rw [frozen?_alloc_cells, frozen?_alloc_cells]
    exact frozen_out hb

theorem addr_ne {b o b' o' : Nat} (h : b ≠ b' ∨ o ≠ o') : (⟨b, o, none⟩ : Addr) ≠ ⟨b', o', none⟩ := by
  intro e
  injection e with e1 e2
  rcases h with h | h
  · exact h e1
  · exact h e2

/-- One round of the first loop: a new goroutine, its pointer stored. -/
theorem Inv1.step {w wr : World} {n i : Nat} {z : List Int} (h : Inv1 w wr n i z) (hi : i < n) (x : Int) (hx : x = z.getD i 0) (u : Value) :
    Inv1 w ((wr.alloc (.cells #[u, .slice none 0 0, .int .i64 0, .int .i64 x, .bool false, .int .i64 0] 30)).setCell ⟨w.heap.size, i, none⟩ (.pointer (some ⟨w.heap.size + 2 + i, 0, none⟩))) n (i + 1) z := by
  have hs := h.size
  have old : ∀ b o, b < w.heap.size + 2 + i → (b ≠ w.heap.size ∨ o ≠ i) → ((wr.alloc (.cells #[u, .slice none 0 0, .int .i64 0, .int .i64 x, .bool false, .int .i64 0] 30)).setCell ⟨w.heap.size, i, none⟩ (.pointer (some ⟨w.heap.size + 2 + i, 0, none⟩))).cell? ⟨b, o, none⟩ = wr.cell? ⟨b, o, none⟩ := by
    intro b o hb hne
    rw [World.cell?_setCell_other _ _ _ _ (addr_ne (by omega)), World.cell?_alloc_past _ _ _ (by omega)]
  have new : ∀ o, ((wr.alloc (.cells #[u, .slice none 0 0, .int .i64 0, .int .i64 x, .bool false, .int .i64 0] 30)).setCell ⟨w.heap.size, i, none⟩ (.pointer (some ⟨w.heap.size + 2 + i, 0, none⟩))).cell? ⟨w.heap.size + 2 + i, o, none⟩ = #[u, .slice none 0 0, .int .i64 0, .int .i64 x, .bool false, .int .i64 0][o]? := by
    intro o
    rw [World.cell?_setCell_other _ _ _ _ (addr_ne (by omega)), World.cell?_alloc_at _ _ _ _ (by omega)]
  refine ⟨(h.below.alloc (by omega) _).setCell (Nat.le_refl _) _, by simp [hs]; omega, fun j hj => ?_, fun j hj => ?_, fun j hj => ?_, fun j hj => ?_, fun b o hb => ?_⟩
  · by_cases e : j = i
    · subst e
      rw [World.cell?_setCell_same _ _ _ (u := .pointer none) (by rw [World.cell?_alloc_past _ _ _ (by omega), h.gs j hj]; simp)]
      simp
    · rw [old _ _ (by omega) (by omega), h.gs j hj]
      by_cases e2 : j < i
      · rw [if_pos e2, if_pos (by omega)]
      · rw [if_neg e2, if_neg (by omega)]
  · rw [old _ _ (by omega) (by omega), h.seen j hj]
  · by_cases e : j = i
    · subst e; rw [new, hx]; rfl
    · rw [old _ _ (by omega) (by omega), h.came j (by omega)]
  · by_cases e : j = i
    · subst e; rw [new]; rfl
    · rw [old _ _ (by omega) (by omega), h.begun j (by omega)]
  · rw [World.frozen?_setCell, frozen?_alloc_cells]
    exact h.thaw b o hb

/-- From the first loop to the second: the sums' block. -/
theorem Inv2.start {w wr : World} {n : Nat} {z : List Int} (h : Inv1 w wr n n z) :
    Inv2 w (wr.alloc (.cells #[.int .u64 0, .int .u64 0, .int .u64 0, .int .u64 0, .int .u64 0] 25)) n z (fun _ => false) (fun _ => false) 0 := by
  have hs := h.size
  have old : ∀ b o, b < w.heap.size + 2 + n → (wr.alloc (.cells #[.int .u64 0, .int .u64 0, .int .u64 0, .int .u64 0, .int .u64 0] 25)).cell? ⟨b, o, none⟩ = wr.cell? ⟨b, o, none⟩ := by
    intro b o hb
    rw [World.cell?_alloc_past _ _ _ (by omega)]
  have new : ∀ o, (wr.alloc (.cells #[.int .u64 0, .int .u64 0, .int .u64 0, .int .u64 0, .int .u64 0] 25)).cell? ⟨w.heap.size + 2 + n, o, none⟩ = #[.int .u64 0, .int .u64 0, .int .u64 0, .int .u64 0, .int .u64 0][o]? := by
    intro o
    rw [World.cell?_alloc_at _ _ _ _ (by omega)]
  refine ⟨h.below.alloc (by omega) _, fun j hj => ?_, fun j hj => ?_, fun j hj => ?_, fun j hj => ?_, new 0, new 1, new 2, new 3, new 4, fun b o hb => ?_⟩
  · rw [old _ _ (by omega), h.gs j hj, if_pos hj]
  · rw [old _ _ (by omega), h.seen j hj]
  · rw [old _ _ (by omega), h.came j hj]
  · rw [old _ _ (by omega), h.begun j hj]
  · rw [frozen?_alloc_cells]
    exact h.thaw b o hb

def put (f : Nat → Bool) (i : Nat) : Nat → Bool := fun j => if j = i then true else f j

/-- 'gp.started = true'. -/
theorem Inv2.begin {w wr : World} {n : Nat} {z : List Int} {st sn : Nat → Bool} {c : Int} (h : Inv2 w wr n z st sn c) {i : Nat} (hi : i < n) :
    Inv2 w (wr.setCell ⟨w.heap.size + 2 + i, 4, none⟩ (.bool true)) n z (put st i) sn c := by
  have old : ∀ b o, (b ≠ w.heap.size + 2 + i ∨ o ≠ 4) → (wr.setCell ⟨w.heap.size + 2 + i, 4, none⟩ (.bool true)).cell? ⟨b, o, none⟩ = wr.cell? ⟨b, o, none⟩ := by
    intro b o hne
    rw [World.cell?_setCell_other _ _ _ _ (addr_ne (by omega))]
  refine ⟨h.below.setCell (by simp; omega) _, fun j hj => ?_, fun j hj => ?_, fun j hj => ?_, fun j hj => ?_, ?_, ?_, ?_, ?_, ?_, fun b o hb => ?_⟩
  · rw [old _ _ (by omega), h.gs j hj]
  · rw [old _ _ (by omega), h.seen j hj]
  · rw [old _ _ (by omega), h.came j hj]
  · by_cases e : j = i
    · subst e
      rw [World.cell?_setCell_same _ _ _ (h.begun j hj)]
      simp [put]
    · rw [old _ _ (by omega), h.begun j hj]
      simp [put, e]
  · rw [old _ _ (by omega)]; exact h.sum0
  · rw [old _ _ (by omega)]; exact h.sum1
  · rw [old _ _ (by omega)]; exact h.sum2
  · rw [old _ _ (by omega)]; exact h.sum3
  · rw [old _ _ (by omega)]; exact h.sum4
  · rw [World.frozen?_setCell]; exact h.thaw b o hb

/-- 'a.waited = d'. -/
theorem Inv2.wait {w wr : World} {n : Nat} {z : List Int} {st sn : Nat → Bool} {c : Int} (h : Inv2 w wr n z st sn c) (d : Int) :
    Inv2 w (wr.setCell ⟨w.heap.size + 2 + n, 2, none⟩ (.int .u64 d)) n z st sn d := by
  have old : ∀ b o, (b ≠ w.heap.size + 2 + n ∨ o ≠ 2) → (wr.setCell ⟨w.heap.size + 2 + n, 2, none⟩ (.int .u64 d)).cell? ⟨b, o, none⟩ = wr.cell? ⟨b, o, none⟩ := by
    intro b o hne
    rw [World.cell?_setCell_other _ _ _ _ (addr_ne (by omega))]
  refine ⟨h.below.setCell (by simp; omega) _, fun j hj => ?_, fun j hj => ?_, fun j hj => ?_, fun j hj => ?_, ?_, ?_, ?_, ?_, ?_, fun b o hb => ?_⟩
  · rw [old _ _ (by omega), h.gs j hj]
  · rw [old _ _ (by omega), h.seen j hj]
  · rw [old _ _ (by omega), h.came j hj]
  · rw [old _ _ (by omega), h.begun j hj]
  · rw [old _ _ (by omega)]; exact h.sum0
  · rw [old _ _ (by omega)]; exact h.sum1
  · rw [World.cell?_setCell_same _ _ _ h.sum2]
  · rw [old _ _ (by omega)]; exact h.sum3
  · rw [old _ _ (by omega)]; exact h.sum4
  · rw [World.frozen?_setCell]; exact h.thaw b o hb

/-- 'seen[i] = true'. -/
theorem Inv2.mark {w wr : World} {n : Nat} {z : List Int} {st sn : Nat → Bool} {c : Int} (h : Inv2 w wr n z st sn c) {i : Nat} (hi : i < n) :
    Inv2 w (wr.setCell ⟨w.heap.size + 1, i, none⟩ (.bool true)) n z st (put sn i) c := by
  have old : ∀ b o, (b ≠ w.heap.size + 1 ∨ o ≠ i) → (wr.setCell ⟨w.heap.size + 1, i, none⟩ (.bool true)).cell? ⟨b, o, none⟩ = wr.cell? ⟨b, o, none⟩ := by
    intro b o hne
    rw [World.cell?_setCell_other _ _ _ _ (addr_ne (by omega))]
  refine ⟨h.below.setCell (by simp) _, fun j hj => ?_, fun j hj => ?_, fun j hj => ?_, fun j hj => ?_, ?_, ?_, ?_, ?_, ?_, fun b o hb => ?_⟩
  · rw [old _ _ (by omega), h.gs j hj]
  · by_cases e : j = i
    · subst e
      rw [World.cell?_setCell_same _ _ _ (h.seen j hj)]
      simp [put]
    · rw [old _ _ (by omega), h.seen j hj]
      simp [put, e]
  · rw [old _ _ (by omega), h.came j hj]
  · rw [old _ _ (by omega), h.begun j hj]
  · rw [old _ _ (by omega)]; exact h.sum0
  · rw [old _ _ (by omega)]; exact h.sum1
  · rw [old _ _ (by omega)]; exact h.sum2
  · rw [old _ _ (by omega)]; exact h.sum3
  · rw [old _ _ (by omega)]; exact h.sum4
  · rw [World.frozen?_setCell]; exact h.thaw b o hb

theorem Inv2.drewN {w wr : World} {n : Nat} {z : List Int} {st sn : Nat → Bool} {c : Int} (h : Inv2 w wr n z st sn c) (m : Nat) : Inv2 w (wr.drewN m) n z st sn c :=
  ⟨below_drewN h.below m, h.gs, h.seen, h.came, h.begun, h.sum0, h.sum1, h.sum2, h.sum3, h.sum4, h.thaw⟩

/-- The callee at the state: nothing happens. -/
theorem start_inv_quiet {w wr : World} {n : Nat} {z : List Int} {st sn : Nat → Bool} {c : Int} (h : Inv2 w wr n z st sn c) {i : Nat} (hi : i < n) (now : Int) (hq : z.getD i 0 < 0 ∨ st i = true) :
    Calls Yba.prog 9 #[.pointer (some ⟨w.heap.size + 2 + n, 0, none⟩), .pointer (some ⟨w.heap.size + 2 + i, 0, none⟩), .int .i64 now] wr fun e w' => e = .returned (.tuple #[]) ∧ Inv2 w w' n z st sn c := by
  refine (start_quiet _ _ (z.getD i 0) now (st i) _ (h.came i hi) (h.begun i hi) hq).mono ?_
  rintro e w' ⟨rfl, rfl⟩
  exact ⟨rfl, h⟩

/-- .. it starts, and has not waited. -/
theorem start_inv_soon {w wr : World} {n : Nat} {z : List Int} {st sn : Nat → Bool} {c : Int} (h : Inv2 w wr n z st sn c) {i : Nat} (hi : i < n) (now : Int) (h0 : 0 ≤ z.getD i 0) (hs : st i = false) (hn : now ≤ z.getD i 0) :
    Calls Yba.prog 9 #[.pointer (some ⟨w.heap.size + 2 + n, 0, none⟩), .pointer (some ⟨w.heap.size + 2 + i, 0, none⟩), .int .i64 now] wr fun e w' => e = .returned (.tuple #[]) ∧ Inv2 w w' n z (put st i) sn c := by
  refine (start_soon _ _ (z.getD i 0) now _ (h.came i hi) (by rw [h.begun i hi, hs]) (h.thaw _ _ (by omega)) h0 hn).mono ?_
  rintro e w' ⟨rfl, rfl⟩
  exact ⟨rfl, h.begin hi⟩

/-- .. it starts, and has waited. -/
theorem start_inv_late {w wr : World} {n : Nat} {z : List Int} {st sn : Nat → Bool} {c : Int} (h : Inv2 w wr n z st sn c) {i : Nat} (hi : i < n) (now : Int) (h0 : 0 ≤ z.getD i 0) (hs : st i = false) (hn : z.getD i 0 < now) :
    Calls Yba.prog 9 #[.pointer (some ⟨w.heap.size + 2 + n, 0, none⟩), .pointer (some ⟨w.heap.size + 2 + i, 0, none⟩), .int .i64 now] wr fun e w' => e = .returned (.tuple #[]) ∧ Inv2 w w' n z (put st i) sn (IntKind.u64.wrap (c + 1)) := by
  refine (start_late _ _ (z.getD i 0) now c _ (h.came i hi) (by rw [h.begun i hi, hs]) h.sum2 (h.thaw _ _ (by omega)) (h.thaw _ _ (by omega)) h0 hn).mono ?_
  rintro e w' ⟨rfl, rfl⟩
  exact ⟨rfl, (h.begin hi).wait _⟩
end Go.Proofs.Ybulkcxnm.lawS4952AScript
