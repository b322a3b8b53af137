import Derived.Test.YbulkcxooWalks
import Derived.Laws.IdiomCopy
namespace Go.Proofs.Ybulkcxoo.lawS4954BReads
open Go.ChangeShapes Go.WideShapes Go.ChangeAt Go.RowKit
set_option linter.unusedVariables false

/-- WHAT THE WALK IS TOLD OF A SLICE OF INTEGERS THAT CAME IN: it is nil; or it leads to a row of 'cap' cells, the numbers 'zs' (the first 'len' are its elements, the rest its spare room), each fitting its kind. -/
def IsRow (k : IntKind) (w : World) (a : Option Addr) (len cap : Nat) (zs : List Int) : Prop :=
  (a = none ∧ len = 0 ∧ cap = 0 ∧ zs = []) ∨
  ∃ x, a = some x ∧ len ≤ cap ∧ cap ≤ maxLen ∧ zs.length = cap ∧ (∀ i, i < zs.length → w.cell? (x.add i) = some (.int k (zs.getD i 0))) ∧ ∀ n ∈ zs, (Lit.int k n).wf = true

theorem block_lt {w : World} {a : Addr} {v : Value} (h : w.cell? a = some v) : a.block < w.heap.size := by
  refine Nat.lt_of_not_le fun hn => ?_
  have : w.heap[a.block]? = none := Array.getElem?_eq_none hn
  simp [World.cell?, this] at h

/-- A row with an element: where it lies; what its cells hold. -/
theorem IsRow.at {k : IntKind} {w : World} {a : Option Addr} {len cap : Nat} {zs : List Int} (h : IsRow k w a len cap zs) (hl : 0 < len) :
    ∃ b off, a = some ⟨b, off, none⟩ ∧ b < w.heap.size ∧ len ≤ zs.length ∧ ∀ i, i < len → w.cell? ⟨b, off + i, none⟩ = some (.int k (zs.getD i 0)) := by
  rcases h with ⟨rfl, h0, _⟩ | ⟨x, rfl, hlc, hm, hz, hc, hw⟩
  · omega
  · obtain ⟨b, off, spot⟩ := x
    have h0 := hc 0 (by omega)
    have hspot : spot = none := by simpa [Addr.add] using World.cell?_spot h0
    subst hspot
    refine ⟨b, off, rfl, by simpa [Addr.add] using block_lt h0, by omega, fun i hi => ?_⟩
    rw [← add_plain]
    exact hc i (by omega)

theorem addr_ne {b o b' o' : Nat} (h : b ≠ b' ∨ o ≠ o') : (⟨b, o, none⟩ : Addr) ≠ ⟨b', o', none⟩ := by
  intro e
  injection e with e1 e2
  rcases h with h | h
  · exact h e1
  · exact h e2

theorem frozen_out {w : World} {b o : Nat} (h : w.heap.size ≤ b) : w.frozen? ⟨b, o, none⟩ = false := by
  have : w.heap[b]? = none := Array.getElem?_eq_none h
  simp [World.frozen?, this]

theorem made_get (v : Value) (n j : Nat) (h : j < n) : (madeCells #[v] n)[j]? = some v := by
  simp [madeCells, h, Nat.mod_one]

theorem below_setCells {B b : Nat} {a : World} (hB : B ≤ b) : ∀ (vs : List Value) (o : Nat) (w : World), Below B a w → Below B a (w.setCells b o vs)
  | [], _, _, h => h
  | v :: vs, o, w, h => below_setCells hB vs (o + 1) _ (h.setCell (p := ⟨b, o, none⟩) hB v)

theorem size_setCells (b : Nat) : ∀ (vs : List Value) (o : Nat) (w : World), (w.setCells b o vs).heap.size = w.heap.size
  | [], _, _ => rfl
  | v :: vs, o, w => (size_setCells b vs (o + 1) _).trans (World.size_setCell _ _ _)

theorem size5 : (Yba.prog.info? 5).map (·.size) = some 1 := by kernel_rfl

/-- 'buf := make([]byte, len(data)); copy(buf, data)': a copy in a new block. -/
theorem copied (w : World) (n : Nat) (a0 : Option Addr) (cap0 : Nat) (z : List Int) (h : IsRow .u8 w a0 n cap0 z) :
    ∃ W1, (∀ ty, (Builtin.copy_ #[22, 22] ty #[.slice (some ⟨w.heap.size, 0, none⟩) n n, .slice a0 n cap0]).run Yba.prog (w.alloc (.cells (madeCells #[.int .u8 0] n) 5)) = .ok (goInt n) W1) ∧
      Below w.heap.size w W1 ∧ W1.heap.size = w.heap.size + 1 ∧ (∀ j, j < n → W1.cell? ⟨w.heap.size, j, none⟩ = some (.int .u8 (z.getD j 0))) ∧ ∀ b o, w.heap.size ≤ b → W1.frozen? ⟨b, o, none⟩ = false := by
  have hbel : Below w.heap.size w (w.alloc (.cells (madeCells #[.int .u8 0] n) 5)) := (Below.refl _ _).alloc (Nat.le_refl _) _
  have hfz : ∀ b o, w.heap.size ≤ b → (w.alloc (.cells (madeCells #[.int .u8 0] n) 5)).frozen? ⟨b, o, none⟩ = false := fun b o hb => by rw [frozen?_alloc_cells]; exact frozen_out hb
  by_cases hn : n = 0
  · subst hn
    exact ⟨_, fun ty => run_copy_none _ 22 22 ty 5 _ _ _ _ _ _ Yba.underlying22 size5 rfl, hbel, by simp, fun j hj => by omega, hfz⟩
  · obtain ⟨b, off, rfl, hb, hlen, hc⟩ := h.at (by omega)
    have hl : ((z.take n).map (Value.int .u8)).length = n := by simp; omega
    have hg : ∀ (j : Nat) v, ((z.take n).map (Value.int .u8))[j]? = some v → j < n ∧ v = .int .u8 (z.getD j 0) := by
      intro j v hv
      have hj : j < n := by rw [← hl]; exact (List.getElem?_eq_some_iff.1 hv).1
      refine ⟨hj, ?_⟩
      rw [List.getElem?_map, List.getElem?_take_of_lt hj, List.getElem?_eq_getElem (by omega)] at hv
      rw [List.getD_eq_getElem?_getD, List.getElem?_eq_getElem (by omega)]
      simpa using hv.symm
    have hcell : ∀ j, j < n → (w.alloc (.cells (madeCells #[.int .u8 0] n) 5)).cell? ⟨w.heap.size, 0 + j, none⟩ = some (.int .u8 0) := fun j hj => by
      rw [World.cell?_alloc_at _ _ _ _ rfl, Nat.zero_add, made_get _ _ _ hj]
    have hin : ∀ j, j < ((z.take n).map (Value.int .u8)).length → ((w.alloc (.cells (madeCells #[.int .u8 0] n) 5)).cell? ⟨w.heap.size, 0 + j, none⟩).isSome = true := fun j hj => by
      rw [hcell j (by omega)]; rfl
    refine ⟨(w.alloc (.cells (madeCells #[.int .u8 0] n) 5)).setCells w.heap.size 0 ((z.take n).map (Value.int .u8)), fun ty => ?_, below_setCells (Nat.le_refl _) _ _ _ hbel, by rw [size_setCells]; simp, fun j hj => ?_, fun b o hb => ?_⟩
    · have hr := run_copy_cells (P := Yba.prog) (w.alloc (.cells (madeCells #[.int .u8 0] n) 5)) 22 22 ty 5 w.heap.size 0 n n ⟨b, off, none⟩ n cap0 ((z.take n).map (Value.int .u8)) Yba.underlying22 size5 (by rw [hl]; exact (Nat.min_self n).symm)
        (fun j v hv => by
          obtain ⟨hj, rfl⟩ := hg j v hv
          rw [add_plain, World.cell?_alloc_past _ _ _ hb]
          exact hc j hj) hin (fun j hj => hfz _ _ (Nat.le_refl _)) (ints_oneCell _ _)
      rw [hr, hl]
    · have := World.cell?_setCells_in w.heap.size ((z.take n).map (Value.int .u8)) 0 (w.alloc (.cells (madeCells #[.int .u8 0] n) 5)) hin j (by omega)
      rw [Nat.zero_add] at this
      rw [this]
      exact congrArg some (hg j _ (List.getElem?_eq_getElem (by omega))).2
    · rw [World.frozen?_setCells]
      exact hfz _ _ hb

/-- No earlier error: behind i reads. -/
structure InvR (w wr : World) (n : Nat) (z : List Int) (i : Nat) : Prop where
  below : Below w.heap.size w wr
  size : w.heap.size + 2 ≤ wr.heap.size
  buf : ∀ j, j < n → wr.cell? ⟨w.heap.size, j, none⟩ = some (.int .u8 (z.getD j 0))
  rest : ∃ p, wr.cell? ⟨w.heap.size + 1, 0, none⟩ = some (.slice (some ⟨w.heap.size, p, none⟩) (n - i) (n - i)) ∧ (i < n → p = i)
  good : i ≤ n → wr.cell? ⟨w.heap.size + 1, 1, none⟩ = some .nilIface
  bad : n < i → ∃ v, wr.cell? ⟨w.heap.size + 1, 1, none⟩ = some (.iface 31 v)
  thaw : ∀ o, wr.frozen? ⟨w.heap.size + 1, o, none⟩ = false

theorem InvR.start {w W1 : World} {n : Nat} {z : List Int} (hb : Below w.heap.size w W1) (hs : W1.heap.size = w.heap.size + 1) (hc : ∀ j, j < n → W1.cell? ⟨w.heap.size, j, none⟩ = some (.int .u8 (z.getD j 0)))
    (hf : ∀ b o, w.heap.size ≤ b → W1.frozen? ⟨b, o, none⟩ = false) :
    InvR w (W1.alloc (.cells #[.slice (some ⟨w.heap.size, 0, none⟩) n n, .nilIface] 28)) n z 0 := by
  refine ⟨hb.alloc (by omega) _, by simp; omega, fun j hj => ?_, ⟨0, ?_, fun _ => rfl⟩, fun _ => ?_, fun h => by omega, fun o => ?_⟩
  · rw [World.cell?_alloc_past _ _ _ (by omega), hc j hj]
  · rw [World.cell?_alloc_at _ _ _ _ (by omega)]; rfl
  · rw [World.cell?_alloc_at _ _ _ _ (by omega)]; rfl
  · rw [frozen?_alloc_cells]; exact hf _ _ (by omega)

theorem InvR.drewN {w wr : World} {n : Nat} {z : List Int} {i : Nat} (h : InvR w wr n z i) (m : Nat) : InvR w (wr.drewN m) n z i :=
  ⟨below_drewN h.below m, h.size, h.buf, h.rest, h.good, h.bad, h.thaw⟩

/-- A read that is served. -/
theorem u8_in {w wr : World} {n : Nat} {z : List Int} {i : Nat} (h : InvR w wr n z i) (hn : n ≤ 1024) (hi : i < n) :
    Calls Yba.prog 5 #[.pointer (some ⟨w.heap.size + 1, 0, none⟩)] wr fun e w' => e = .returned (.int .u8 (z.getD i 0)) ∧ InvR w w' n z (i + 1) := by
  obtain ⟨p, hp, hpi⟩ := h.rest
  obtain rfl := hpi hi
  have key : ∀ v : Value, ∀ q, v = .slice (some ⟨w.heap.size, q, none⟩) (n - (p + 1)) (n - (p + 1)) → (p + 1 < n → q = p + 1) → InvR w (wr.setCell ⟨w.heap.size + 1, 0, none⟩ v) n z (p + 1) := by
    rintro v q rfl hq
    refine ⟨h.below.setCell (by simp) _, by rw [World.size_setCell]; exact h.size, fun j hj => ?_, ⟨q, ?_, hq⟩, fun _ => ?_, fun hbad => by omega, fun o => ?_⟩
    · rw [World.cell?_setCell_other _ _ _ _ (addr_ne (by omega)), h.buf j hj]
    · rw [World.cell?_setCell_same _ _ _ hp]
    · rw [World.cell?_setCell_other _ _ _ _ (addr_ne (by omega)), h.good (by omega)]
    · rw [World.frozen?_setCell]; exact h.thaw o
  by_cases hl : n - p = 1
  · rw [hl] at hp
    refine (u8_last _ _ p _ _ (by omega) (h.good (by omega)) hp (h.thaw 0) (h.buf p hi)).mono ?_
    rintro e w' ⟨rfl, rfl⟩
    exact ⟨rfl, key _ p (by rw [show n - (p + 1) = 0 from by omega]) (fun hh => by omega)⟩
  · obtain ⟨l, hl2⟩ : ∃ l, n - p = l + 2 := ⟨n - p - 2, by omega⟩
    rw [hl2] at hp
    refine (u8_more _ _ p l _ _ (by omega) (by omega) (h.good (by omega)) hp (h.thaw 0) (h.buf p hi)).mono ?_
    rintro e w' ⟨rfl, rfl⟩
    exact ⟨rfl, key _ (p + 1) (by rw [show n - (p + 1) = l + 1 from by omega]) (fun _ => rfl)⟩

/-- A read past the end. -/
theorem u8_out {w wr : World} {n : Nat} {z : List Int} {i : Nat} (h : InvR w wr n z i) (hi : n ≤ i) :
    Calls Yba.prog 5 #[.pointer (some ⟨w.heap.size + 1, 0, none⟩)] wr fun e w' => e = .returned (.int .u8 0) ∧ InvR w w' n z (i + 1) := by
  obtain ⟨p, hp, _⟩ := h.rest
  have hsz := h.size
  by_cases he : n < i
  · obtain ⟨v, hv⟩ := h.bad he
    refine (u8_err _ _ _ _ hv).mono ?_
    rintro e w' ⟨rfl, rfl⟩
    refine ⟨rfl, h.below, h.size, h.buf, ⟨p, by rw [hp, show n - (i + 1) = n - i from by omega], fun hh => by omega⟩, fun hh => by omega, fun _ => ⟨v, hv⟩, h.thaw⟩
  · obtain rfl : n = i := by omega
    rw [Nat.sub_self] at hp
    refine (u8_short _ _ _ _ (by omega) (h.good (by omega)) hp (h.thaw 1)).mono ?_
    rintro e w' ⟨rfl, s, rfl⟩
    have old : ∀ b o, b < wr.heap.size → (b ≠ w.heap.size + 1 ∨ o ≠ 1) → ((wr.setCell ⟨w.heap.size + 1, 1, none⟩ (.iface 31 (.pointer (some ⟨wr.heap.size, 0, none⟩)))).alloc (.cells #[.string s] 33)).cell? ⟨b, o, none⟩ = wr.cell? ⟨b, o, none⟩ := by
      intro b o hb hne
      rw [World.cell?_alloc_past _ _ _ (by rw [World.size_setCell]; exact hb), World.cell?_setCell_other _ _ _ _ (addr_ne (by omega))]
    refine ⟨rfl, (h.below.setCell (by simp) _).alloc (by rw [World.size_setCell]; omega) _, by simp; omega, fun j hj => ?_, ⟨p, ?_, fun hh => by omega⟩, fun hh => by omega, fun _ => ⟨.pointer (some ⟨wr.heap.size, 0, none⟩), ?_⟩, fun o => ?_⟩
    · rw [old _ _ (by omega) (by omega), h.buf j hj]
    · rw [old _ _ (by omega) (by omega), hp, show n - (n + 1) = 0 from by omega]
    · rw [World.cell?_alloc_past _ _ _ (by rw [World.size_setCell]; omega), World.cell?_setCell_same _ _ _ (h.good (Nat.le_refl _))]
    · rw [frozen?_alloc_cells, World.frozen?_setCell]; exact h.thaw o

/-- An earlier error. -/
structure InvF (w wr : World) (n : Nat) (z : List Int) : Prop where
  below : Below w.heap.size w wr
  buf : ∀ j, j < n → wr.cell? ⟨w.heap.size, j, none⟩ = some (.int .u8 (z.getD j 0))
  rest : wr.cell? ⟨w.heap.size + 2, 0, none⟩ = some (.slice (some ⟨w.heap.size, 0, none⟩) n n)
  err : wr.cell? ⟨w.heap.size + 2, 1, none⟩ = some (.iface 31 (.pointer (some ⟨w.heap.size + 1, 0, none⟩)))

theorem InvF.start {w W1 : World} {n : Nat} {z : List Int} (s : ByteArray) (hb : Below w.heap.size w W1) (hs : W1.heap.size = w.heap.size + 1) (hc : ∀ j, j < n → W1.cell? ⟨w.heap.size, j, none⟩ = some (.int .u8 (z.getD j 0))) :
    InvF w ((W1.alloc (.cells #[.string s] 33)).alloc (.cells #[.slice (some ⟨w.heap.size, 0, none⟩) n n, .iface 31 (.pointer (some ⟨w.heap.size + 1, 0, none⟩))] 28)) n z := by
  refine ⟨(hb.alloc (by omega) _).alloc (by simp; omega) _, fun j hj => ?_, ?_, ?_⟩
  · rw [World.cell?_alloc_past _ _ _ (by simp; omega), World.cell?_alloc_past _ _ _ (by omega), hc j hj]
  · rw [World.cell?_alloc_at _ _ _ _ (by simp; omega)]; rfl
  · rw [World.cell?_alloc_at _ _ _ _ (by simp; omega)]; rfl

theorem InvF.drewN {w wr : World} {n : Nat} {z : List Int} (h : InvF w wr n z) (m : Nat) : InvF w (wr.drewN m) n z :=
  ⟨below_drewN h.below m, h.buf, h.rest, h.err⟩
end Go.Proofs.Ybulkcxoo.lawS4954BReads
