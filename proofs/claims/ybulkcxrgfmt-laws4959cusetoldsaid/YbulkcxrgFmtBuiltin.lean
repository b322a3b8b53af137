import Derived.Test.YbulkcxrgFmtState
namespace Go.Proofs.YbulkcxrgFmt
open Go.RowKit Go.Maps Go.WideMaps Go.Kit Go.Extern.Stop Go.Stop Go.Extern
set_option linter.unusedVariables false

def headS : ByteArray := ⟨#[98, 117, 105, 108, 116, 105, 110, 95]⟩

set_option maxHeartbeats 2000000 in
set_option maxRecDepth 100000 in
theorem builtin_old {w0 W : World} {n : Nat} {D : DataW Unit} {L : Nat} (h : St w0 W n D L) (s : ByteArray) (hs : s.size ≤ 140737488355328) (hh : has D (keyL s) = true) :
    Calls Ybaf.prog 5 #[.pointer (some ⟨w0.heap.size + 1, 0, none⟩), .string s] W fun e w' => e = .returned (.string (⟨#[98, 117, 105, 108, 116, 105, 110, 95]⟩ ++ s)) ∧ w' = W := by
  have hl := h.look s (by unfold maxLen; omega)
  rw [hh] at hl
  have c10 := h.c10
  go_enter Ybaf.func5, Ybaf.ntmps5
  go_wp2
  go_ret
  exact ⟨rfl, rfl⟩

set_option maxHeartbeats 6400000 in
set_option maxRecDepth 100000 in
theorem builtin_new (F : Interp) {w0 W : World} {n : Nat} {D : DataW Unit} (h : St w0 W n D 0) (hF : F.answers W.tape) (s : ByteArray) (hs : s.size ≤ 140737488351232) (hn : n < 4096) (hh : has D (keyL s) = false)
    (mb : Option Nat) (x y : Int) (hg : w0.cell? ⟨0, 0, none⟩ = some (.map mb)) (h0 : 0 < w0.heap.size)
    (hlook : ∀ V, Below w0.heap.size w0 V → (Instr.lookup 45 (.map mb) (.string s) false).run Ybaf.prog V = .ok (.agg #[.int .i64 x, .int .i64 y]) V)
    (hl1 : 1 ≤ (F.string "fmt.Sprintf" (lineReading (headS ++ s).data.toList s.data.toList x y) 0).length) (hl2 : (F.string "fmt.Sprintf" (lineReading (headS ++ s).data.toList s.data.toList x y) 0).length ≤ 281474976710656) :
    Calls Ybaf.prog 5 #[.pointer (some ⟨w0.heap.size + 1, 0, none⟩), .string s] W fun e w' => e = .returned (.string (⟨#[98, 117, 105, 108, 116, 105, 110, 95]⟩ ++ s)) ∧ ∃ L, St w0 w' (n + 1) (D.put (keyL s) (.lit (.bool true))) L := by
  have hmax : s.size ≤ maxLen := by unfold maxLen; omega
  have hl := h.look s hmax
  rw [hh] at hl
  have c10 := h.c10
  have HL : Hid (∀ V, Below w0.heap.size w0 V → (Instr.lookup 45 (.map mb) (.string s) false).run Ybaf.prog V = .ok (.agg #[.int .i64 x, .int .i64 y]) V) := hlook
  have L1 : Hid (1 ≤ (F.string "fmt.Sprintf" (lineReading (headS ++ s).data.toList s.data.toList x y) 0).length) := hl1
  have L2 : Hid ((F.string "fmt.Sprintf" (lineReading (headS ++ s).data.toList s.data.toList x y) 0).length ≤ 281474976710656) := hl2
  have HG0 : Hid (w0.cell? ⟨0, 0, none⟩ = some (.map mb)) := hg
  clear hlook hl1 hl2 hg
  go_enter Ybaf.func5, Ybaf.ntmps5
  go_wp2_with (at_mapUpdate; refine wpList_mapUpdate_own _ rfl _ _ _ 24 rfl 9 4 law9 Ybaf.underlying24 _ w0.heap.size n _ rfl h.map (by unfold maxLen; omega) _ _ _ rfl rfl (key9 s hmax) _ [] (plainElem_bool Ybaf.underlying4 true) ?_)
  intro w1 hown1 hgrow1
  have h1 := h.mark hmax hown1 hgrow1
  clear hl c10 hown1
  have g1 : w1.cell? ⟨0, 0, none⟩ = some (.map mb) := by rw [h1.below.cell (by exact h0)]; exact HG0.out
  have k1 := HL.out w1 h1.below
  go_wp2_with fail
  clear k1 g1 HL HG0
  obtain ⟨lr, e13⟩ := h1.c13
  have e11 := h1.c11n rfl
  have e12 := h1.c12
  have ef := h1.thaw
  have q0 := h1.lt
  have q1 : w0.heap.size + 1 < w1.heap.size + 1 := by omega
  have q2 : w0.heap.size + 1 < w1.heap.size + 1 + 1 := by omega
  have hF1 : F.answers w1.tape := by rw [hgrow1.tape]; exact hF
  have H1 := Lib.hid h1
  have HGr := Lib.hid hgrow1
  clear h1 hgrow1 h hh
  go_region_with (
    go_at_call 6
    refine (fprintf_any F (w0.heap.size + 1) (w1.heap.size + 1) ({ data := #[98, 117, 105, 108, 116, 105, 110, 95] } ++ s) s x y lr _ (by exact hF1) (by go_simp) (by go_simp) (by go_simp) (by go_simp) (by intro i; go_simp) (by go_simp) (by go_simp) (by go_simp) (by go_simp) (by exact L1.out) (by exact L2.out)).mono ?_
    rintro e w2 ⟨L, rfl, hL1, hL2, hwr⟩)
  all_goals (
    have HWr := Lib.hid hwr
    clear hwr
    go_wp2
    go_ret
    refine ⟨rfl, L, ?_⟩
    exact (H1.out.kept ((((Below.refl _ _).alloc (Nat.le_refl _) _).alloc (by simp) _).drew)).wrote HWr.out hL1 hL2)
end Go.Proofs.YbulkcxrgFmt
