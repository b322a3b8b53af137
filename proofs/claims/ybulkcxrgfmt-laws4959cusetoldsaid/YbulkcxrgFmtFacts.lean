import Derived.Test.YbulkcxrgFmtWalkOdd
import Derived.Test.YbulkcxrgFmtWalkNone
import Derived.Test.YbulkcxrgFmtWalkSome
import Derived.ProofKit
import Derived.OpenShut
import Derived.SliceStrings
import Derived.SizedLaws
import Derived.LaidHandle
namespace Go.Proofs.YbulkcxrgFmt
open Go.ChangeShapes Go.WideShapes Go.ChangeAt Go.WideElems Go.RowKit Go.Maps Go.Kit Go.Extern.Stop Go.Stop Go.Extern
set_option linter.unusedVariables false

/-! ### The law, at every input that the walk is told of -/
set_option maxHeartbeats 1000000 in
set_option maxRecDepth 100000 in
theorem walk_great (a0 : Option Addr) (len cap : Nat) (s : ByteArray) (p : Int) (w : World) (hlen : 1024 < len) :
    Calls Ybaf.prog 3 #[.slice a0 len cap, .string s, .int .u8 p] w fun e w' => e = .returned (.bool true) ∧ Below w.heap.size w w' := by
  go_enter Ybaf.func3, Ybaf.ntmps3
  go_wp2
  go_ret
  exact ⟨rfl, Below.refl _ _⟩

theorem walk_all (F : Interp) (a0 : Option Addr) (len cap : Nat) (ss : List ByteArray) (s : ByteArray) (p : Int) (w : World) (wp : (Lit.int .u8 p).wf = true) (hS : IsStrs w a0 len ss) (hs : s.size ≤ 140737488351232) (mb : Option Nat) (hT : Told F w mb) :
    Calls Ybaf.prog 3 #[.slice a0 len cap, .string s, .int .u8 p] w fun e w' => e = .returned (.bool true) ∧ Below w.heap.size w w' := by
  by_cases hlen : 1024 < len
  · exact walk_great a0 len cap s p w hlen
  · have hb := bounds_u8 wp
    obtain ⟨q, rfl⟩ := Int.eq_ofNat_of_zero_le hb.1
    by_cases h2 : q % 2 = 0
    · by_cases hl0 : 0 < len
      · exact walk_some F a0 len cap ss s q w (by omega) (by omega) hS hs mb hT h2 hl0
      · exact walk_none F a0 len cap ss s q w (by omega) (by omega) hS hs mb hT h2 (by omega)
    · exact walk_odd F a0 len cap ss s q w (by omega) (by omega) hS hs mb hT (by omega)

/-! ### The variable 'builtins' -/
theorem cells3 : Ybaf.prog.cellsOf 3 = 1 := by kernel_rfl
theorem cells44 : Ybaf.prog.cellsOf 44 = 2 := by kernel_rfl
theorem zero44 (w : World) : (zeroValue 44).run Ybaf.prog w = .ok (.agg #[.int .i64 0, .int .i64 0]) w := by kernel_rfl
def vName : String := Rows.lawS4959CUseSpec.vars.headD ""
theorem gVar : Ybaf.prog.globalNamed vName = some 0 := by kernel_rfl
theorem tVar : (Ybaf.prog.globals[0]?).map (·.type) = some 45 := by kernel_rfl

theorem pair_of {H : Type} {enc : TypeId × Value → H} {P : Program} {W : World} {base : Nat} {sp : Nat → Bool} {held : Bool} {n : Nat} {t u : TypeId} {f0 f1 : Field} {v : Value} {z : DataW H × List MemPlace}
    (ht : P.underlying t = some (.struct #[f0, f1])) (hu : P.underlying u = some (.int .i64)) (hc : P.cellsOf u = 1) (hct : P.cellsOf t = 2) (t0 : f0.type = u) (t1 : f1.type = u) (o0 : f0.offset = 0) (o1 : f1.offset = 1)
    (h : elemAt enc P W base sp held n t v = some z) : ∃ x y : Int, v = .agg #[.int .i64 x, .int .i64 y] ∧ (Lit.int .i64 x).wf = true ∧ (Lit.int .i64 y).wf = true := by
  unfold elemAt at h
  split at h
  · obtain ⟨y0, y1, m, _, hl, h0, h1⟩ := trod_struct2 ht h
    rw [t0, o0, hc] at h0
    rw [t1, o1, hc] at h1
    rw [hct] at hl
    obtain ⟨x, e0, _, wx⟩ := DataW.trod_int hu h0
    obtain ⟨y, e1, _, wy⟩ := DataW.trod_int hu h1
    refine ⟨x, y, ?_, wx, wy⟩
    cases v with
    | agg cs =>
      obtain ⟨l⟩ := cs
      simp only [Value.cells] at hl e0 e1
      match l, hl with
      | [c0, c1], _ =>
        simp at e0 e1
        rw [e0, e1]
    | _ => simp [Value.cells] at hl
  · cases h

theorem one_of_apart {A B C : Type} (g : A → B × C) : ∀ {l : List A}, (l.map g).Pairwise (fun p q => p.1 ≠ q.1) → ∀ {x y : A}, x ∈ l → y ∈ l → (g x).1 = (g y).1 → x = y
  | [], _, _, _, hx, _, _ => by simp at hx
  | a :: r, hp, x, y, hx, hy, h => by
    rw [List.map_cons] at hp
    obtain ⟨h1, h2⟩ := List.pairwise_cons.1 hp
    rcases List.mem_cons.1 hx with ex | hx'
    · rcases List.mem_cons.1 hy with ey | hy'
      · rw [ex, ey]
      · exact absurd (by rw [← ex]; exact h) (h1 (g y) (List.mem_map.2 ⟨y, hy', rfl⟩))
    · rcases List.mem_cons.1 hy with ey | hy'
      · exact absurd (by rw [← ey]; exact h.symm) (h1 (g x) (List.mem_map.2 ⟨x, hx', rfl⟩))
      · exact one_of_apart g h2 hx' hy' h

theorem look_of {H : Type} {enc : TypeId × Value → H} {W : World} {sp : Nat → Bool} {fuel : Nat} {cs : Array Value} {d : DataW H} {p : List MemPlace} (hv : W.var? Ybaf.prog vName = some cs)
    (hd : DataW.trod enc Ybaf.prog W 0 sp true fuel 45 cs.toList = some (d, p)) :
    ∃ mb, W.cell? ⟨0, 0, none⟩ = some (.map mb) ∧ ∀ nm : ByteArray, nm.size ≤ 140737488351232 → ∃ x y : Int, (Lit.int .i64 x).wf = true ∧ (Lit.int .i64 y).wf = true ∧ ∀ V, Below W.heap.size W V → (Instr.lookup 45 (.map mb) (.string nm) false).run Ybaf.prog V = .ok (.agg #[.int .i64 x, .int .i64 y]) V := by
  rcases open_map Ybaf.underlying45 hd with ⟨hcs, _⟩ | ⟨bm, es, clock, m, rfl, hcs, hb, _, F, _⟩
  · refine ⟨none, ?_, fun nm hnm => ⟨0, 0, by decide, by decide, fun V _ => ?_⟩⟩
    · have := World.var?_cell gVar hv 0
      rw [Array.eq_one_of_toList hcs] at this
      simpa using this
    · have := Maps.look_nil (w := V) false law9 Ybaf.underlying45 (zero44 V) (key9 nm (by unfold maxLen; omega))
      simpa using this
  · refine ⟨some bm, ?_, fun nm hnm => ?_⟩
    · have := World.var?_cell gVar hv 0
      rw [Array.eq_one_of_toList hcs] at this
      simpa using this
    · have hlt : bm < W.heap.size := (Array.getElem?_eq_some_iff.1 hb).1
      have hkey := key9 nm (by unfold maxLen; omega)
      rcases Maps.fit_look false law9 Ybaf.underlying45 (zero44 W) hb F hkey with ⟨_, hno, _⟩ | ⟨e0, y, hm, he, _, hR, _, _⟩
      · refine ⟨0, 0, by decide, by decide, fun V hV => ?_⟩
        rcases Maps.fit_look false law9 Ybaf.underlying45 (zero44 V) ((hV.block bm hlt).trans hb) F hkey with ⟨hrun, _, _⟩ | ⟨e1, _, hm1, he1, _⟩
        · simpa using hrun
        · exact absurd he1 (hno e1 hm1)
      · obtain ⟨x, z, hval, wx, wz⟩ := pair_of Ybaf.underlying44 Ybaf.underlying3 cells3 cells44 rfl rfl rfl rfl hR
        refine ⟨x, z, wx, wz, fun V hV => ?_⟩
        rcases Maps.fit_look false law9 Ybaf.underlying45 (zero44 V) ((hV.block bm hlt).trans hb) F hkey with ⟨_, hno, _⟩ | ⟨e1, y1, hm1, he1, hrun, hR1, _, _⟩
        · exact absurd he (hno e0 hm)
        · have : e1.val = e0.val := by
            obtain ⟨r0, hr0⟩ := F.reads e0 hm
            obtain ⟨r1, hr1⟩ := F.reads e1 hm1
            have k0 := rd_key hr0
            have k1 := rd_key hr1
            rw [he, hkey] at k0
            rw [he1, hkey] at k1
            rw [one_of_apart _ (fit_apart law9 F) hm1 hm (by rw [rg_of hr0, rg_of hr1, ← Option.some.inj k0, ← Option.some.inj k1])]
          rw [this, hval] at hrun
          simpa using hrun
end Go.Proofs.YbulkcxrgFmt
