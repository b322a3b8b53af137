import Derived.Test.YbulkcxrgFmtFprintf
import Derived.Maps.OwnSet
import Derived.Maps.Views
import Derived.StringKeys
namespace Go.Proofs.YbulkcxrgFmt
open Go.RowKit Go.Maps Go.WideMaps
set_option linter.unusedVariables false

theorem law9 : Keyed Ybaf.prog 9 := string_keyed Ybaf.underlying9
theorem zero4 (w : World) : (zeroValue 4).run Ybaf.prog w = .ok (.bool false) w := by kernel_rfl
def keyL (s : ByteArray) : Lit := .string s.data.toList
theorem key9 (s : ByteArray) (h : s.size ≤ maxLen) : keyOf Ybaf.prog 9 (.string s) = some (keyL s) := keyOf_string_mk Ybaf.underlying9 h
theorem isKey9 (s : ByteArray) (h : s.size ≤ maxLen) : WideAt.IsKeyLit (keyL s) := law9.key (key9 s h)

theorem plainElem_bool_back {P : Program} {e : TypeId} (he : P.underlying e = some .bool) {v : Value} {b : Bool} {ps : List MemPlace} (h : plainElem (H := Unit) P e v = some (.lit (.bool b), ps)) : v = .bool b := by
  unfold plainElem at h
  rw [he] at h
  cases v <;> simp at h
  rw [h.1]
theorem plainElem_bool_inv {v : Value} {b : Bool} {ps : List MemPlace} (h : plainElem (H := Unit) Ybaf.prog 4 v = some (.lit (.bool b), ps)) : v = .bool b := plainElem_bool_back Ybaf.underlying4 h

/-- THE CALL's OWN STATE: the set of used names (block S, the datum D), the generator (block S + 1) whose buffer holds L bytes. -/
structure St (w0 W : World) (n : Nat) (D : DataW Unit) (L : Nat) : Prop where
  below : Below w0.heap.size w0 W
  map : W.ownsMap Ybaf.prog 9 (plainElem Ybaf.prog 4) w0.heap.size n D
  lt : w0.heap.size + 1 < W.heap.size
  c10 : W.cell? ⟨w0.heap.size + 1, 10, none⟩ = some (.map (some w0.heap.size))
  c11 : ∃ ao cap, W.cell? ⟨w0.heap.size + 1, 11, none⟩ = some (.slice ao L cap)
  c11n : L = 0 → W.cell? ⟨w0.heap.size + 1, 11, none⟩ = some (.slice none 0 0)
  c12 : W.cell? ⟨w0.heap.size + 1, 12, none⟩ = some (.int .i64 0)
  c13 : ∃ lr, W.cell? ⟨w0.heap.size + 1, 13, none⟩ = some (.int .i8 lr)
  thaw : ∀ i, W.frozen? ⟨w0.heap.size + 1, i, none⟩ = false
  most : L ≤ 281474976710656
  all : ∀ k z, has D k = true → D.atKey k z = .lit (.bool true)

theorem St.look {w0 W : World} {n : Nat} {D : DataW Unit} {L : Nat} (h : St w0 W n D L) (s : ByteArray) (hs : s.size ≤ maxLen) :
    (Instr.lookup 24 (.map (some w0.heap.size)) (.string s) false).run Ybaf.prog W = .ok (.bool (has D (keyL s))) W := by
  obtain ⟨v, ps, hrun, hv⟩ := h.map.lookup law9 Ybaf.underlying24 (zero4 W) (plainElem_bool Ybaf.underlying4 false) (key9 s hs)
  rw [hrun]
  cases hh : has D (keyL s)
  · rw [atKey_of_not_has hh] at hv
    rw [plainElem_bool_inv hv]
  · rw [h.all _ _ hh] at hv
    rw [plainElem_bool_inv hv]

theorem St.len {w0 W : World} {n : Nat} {D : DataW Unit} {L : Nat} (h : St w0 W n D L) (ty : TypeId) :
    (Builtin.len_ #[24] ty #[.map (some w0.heap.size)]).run Ybaf.prog W = .ok (.int .i64 (Maps.size D)) W := h.map.len Ybaf.underlying24 ty

theorem all_put {D : DataW Unit} (hD : IsMap D) (h : ∀ k z, has D k = true → D.atKey k z = .lit (.bool true)) {x : Lit} (hx : WideAt.IsKeyLit x) :
    ∀ k z, has (D.put x (.lit (.bool true))) k = true → (D.put x (.lit (.bool true))).atKey k z = .lit (.bool true) := by
  intro k z hk
  by_cases e : k = x
  · subst e; exact atKey_put_same hD hx _ _
  · rw [atKey_put_other e]
    rw [has_put_other e] at hk
    exact h k z hk

theorem St.drewN {w0 W : World} {n : Nat} {D : DataW Unit} {L : Nat} (h : St w0 W n D L) (m : Nat) : St w0 (W.drewN m) n D L :=
  ⟨h.below.trans ⟨rfl, rfl, rfl, Nat.le_refl _, fun _ _ => rfl⟩, h.map, h.lt, h.c10, h.c11, h.c11n, h.c12, h.c13, h.thaw, h.most, h.all⟩

/-- Behind a step that turns no cell of the generator and not the map. -/
theorem St.kept {w0 W W' : World} {n : Nat} {D : DataW Unit} {L : Nat} (h : St w0 W n D L) (hb : Below W.heap.size W W') : St w0 W' n D L := by
  have hblk : W'.heap[w0.heap.size + 1]? = W.heap[w0.heap.size + 1]? := hb.block _ h.lt
  have hc : ∀ i, W'.cell? ⟨w0.heap.size + 1, i, none⟩ = W.cell? ⟨w0.heap.size + 1, i, none⟩ := fun i => World.cell?_of_block (a := ⟨w0.heap.size + 1, i, none⟩) hblk
  have hg : W.grownBy W' none := ⟨hb.os, hb.tape, hb.output, hb.size, fun k hk _ => hb.block k hk⟩
  refine ⟨h.below.trans (hb.mono h.below.size), h.map.kept hg (by simp), Nat.lt_of_lt_of_le h.lt hb.size, by rw [hc]; exact h.c10, ?_, fun hL => by rw [hc]; exact h.c11n hL, by rw [hc]; exact h.c12, ?_, fun i => ?_, h.most, h.all⟩
  · obtain ⟨ao, cap, e⟩ := h.c11; exact ⟨ao, cap, by rw [hc]; exact e⟩
  · obtain ⟨lr, e⟩ := h.c13; exact ⟨lr, by rw [hc]; exact e⟩
  · rw [World.frozen?_of_block (a := ⟨w0.heap.size + 1, i, none⟩) hblk]; exact h.thaw i

/-- 'g.builtins[s] = true'. -/
theorem St.mark {w0 W W' : World} {n : Nat} {D : DataW Unit} {L : Nat} (h : St w0 W n D L) {s : ByteArray} (hs : s.size ≤ maxLen) (hown : W'.ownsMap Ybaf.prog 9 (plainElem Ybaf.prog 4) w0.heap.size (n + 1) (D.put (keyL s) (.lit (.bool true)))) (hg : W.grownBy W' (some w0.heap.size)) :
    St w0 W' (n + 1) (D.put (keyL s) (.lit (.bool true))) L := by
  have hblk : W'.heap[w0.heap.size + 1]? = W.heap[w0.heap.size + 1]? := hg.block _ h.lt (by simp)
  have hc : ∀ i, W'.cell? ⟨w0.heap.size + 1, i, none⟩ = W.cell? ⟨w0.heap.size + 1, i, none⟩ := fun i => World.cell?_of_block (a := ⟨w0.heap.size + 1, i, none⟩) hblk
  have hlt := h.lt
  have hsz := hg.size
  refine ⟨h.below.grown hg h.below.size (fun k hk => by cases hk; exact Nat.le_refl _), hown, by omega, by rw [hc]; exact h.c10, ?_, fun hL => by rw [hc]; exact h.c11n hL, by rw [hc]; exact h.c12, ?_, fun i => ?_, h.most, all_put h.map.isMap h.all (isKey9 s hs)⟩
  · obtain ⟨ao, cap, e⟩ := h.c11; exact ⟨ao, cap, by rw [hc]; exact e⟩
  · obtain ⟨lr, e⟩ := h.c13; exact ⟨lr, by rw [hc]; exact e⟩
  · rw [World.frozen?_of_block (a := ⟨w0.heap.size + 1, i, none⟩) hblk]; exact h.thaw i

/-- Behind the write onto the empty buffer. -/
theorem St.wrote {w0 W W' : World} {n L' : Nat} {D : DataW Unit} (h : St w0 W n D 0) (hw : Wrote (w0.heap.size + 1) L' W W') (h1 : 1 ≤ L') (h2 : L' ≤ 281474976710656) : St w0 W' n D L' := by
  have hlt := h.lt
  have hsz := hw.kept.size
  refine ⟨h.below.grown hw.kept h.below.size (fun k hk => by cases hk; exact Nat.le_succ _), h.map.kept hw.kept (by simp), by omega, by rw [hw.cells 10 (by omega) (by omega)]; exact h.c10, hw.buf, fun hL => by omega, by rw [hw.cells 12 (by omega) (by omega)]; exact h.c12, hw.last, fun i => by rw [hw.thaw]; exact h.thaw i, h2, h.all⟩
end Go.Proofs.YbulkcxrgFmt
