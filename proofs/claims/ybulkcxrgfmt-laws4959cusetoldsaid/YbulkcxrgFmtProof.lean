import Derived.Test.YbulkcxrgFmtLift
import Derived.Test.YbulkcxrgFmtTie
import Derived.Test.YbulkcxrgFmtCards
import Derived.SevenTiedAt
namespace Go.Proofs.YbulkcxrgFmt
open Go.ChangeShapes Go.WideShapes Go.ChangeAt Go.WideElems Go.RowKit Go.Maps Go.Kit Go.Extern.Stop Go.Stop Go.Extern
open Go.ChangeMaps (open_string shut_string)
set_option linter.unusedVariables false

theorem weight_strs {H : Type} (P : Program) (e : TypeId) : ∀ (l : List ByteArray) (s : ByteArray), s ∈ l → s.data.toList.length ∈ DataW.weightsAll P e (strs (H := H) l)
  | [], _, h => by simp at h
  | a :: r, s, h => by
    show _ ∈ DataW.weightsAll P e (DataW.lit (.string a.data.toList) :: strs r)
    rw [DataW.weightsAll]
    rcases List.mem_cons.1 h with rfl | h
    · exact List.mem_append.2 (.inl (by simp [DataW.weights]))
    · exact List.mem_append.2 (.inr (weight_strs P e r s h))

set_option maxRecDepth 100000 in
set_option maxHeartbeats 4000000 in
theorem lifted (os : Os) (started : os.Started) (H : Type) (enc : TypeId × Value → H) :
    ReturnsInTold none {} Ybaf.checked os 3 .any Input.okWide ((OpenSpec.ofChange Rows.lawS4959CUseSpec).preRow enc Ybaf.prog Ybaf.f3 Rows.lawS4959CUseRow.domain false Rows.lawS4959CUseRow.laid)
      (fun F => ((OpenSpec.ofChange Rows.lawS4959CUseSpec).at F).post enc Ybaf.prog Ybaf.f3 false true false false) (aloneAtReturn Ybaf.prog) nothingAlways := by
  refine returnsInTold_of_row (C := Ybaf.checked) (s := OpenSpec.ofChange Rows.lawS4959CUseSpec) (by kernel_rfl) own started (by kernel_rfl) Ybaf.func3
    (OpenSpec.witness_stopped_atRef (enc := enc) (C := Ybaf.checked) false (World.doorLaid Ybaf.prog 177 os) #[.slice none 0 0, .string ⟨#[]⟩, .int .u8 0] rfl (by kernel_rfl) (by kernel_rfl) (by kernel_rfl) (witness_row os enc)) ?_
  intro F W base args ds gs before _ hF hval0 hW _ _ hsz0 _ _
  have hval : ∀ (j : Nat) t v, Ybaf.f3.params[j]? = some t → args[j]? = some v → Value.okWide Ybaf.prog W .any base t v := hval0
  have hW' := hW
  obtain ⟨p, q, hA0, hV0, rfl, _, _⟩ := hW
  have hA : DataW.TrodAll enc Ybaf.prog W 0 (fun _ => true) true Ybaf.f3.params.toList args.toList ds p := hA0
  rw [Ybaf.params3] at hA hval
  obtain ⟨v0, v1, v2, d0, d1, d2, p0, p1, p2, rfl, rfl, rfl, h0, h1, h2⟩ := trodAll_three hA
  have hV : DataW.TrodVars enc Ybaf.prog W (fun _ => true) [vName] gs q := hV0
  obtain ⟨g, t, cs, fuel, dg, pg, rfl, hg1, hg2, hg3, hg4, _⟩ := trodVars_one hV
  obtain rfl := Option.some.inj (gVar.symm.trans hg1)
  obtain rfl := Option.some.inj (tVar.symm.trans hg2)
  obtain ⟨mb, hcell, hlook⟩ := look_of hg3 hg4
  have hsz : (DataW.weightsEach Ybaf.prog [22, 9, 5, 45] ([d0, d1, d2] ++ [dg])).all (· ≤ reachBytes) = true := hsz0
  have hr : reachBytes = 140737488351232 := by decide
  rw [hr] at hsz
  have k0 := h0
  have lt0 : ∀ x ∈ p0, x.block < W.heap.size := by obtain ⟨m, hm⟩ := k0; exact DataW.trod_lt m _ _ _ hm
  obtain ⟨a0, len, cap, rfl⟩ := okWide_slice Ybaf.underlying22 (hval 0 22 v0 rfl rfl)
  obtain ⟨ss, hS⟩ : ∃ ss, IsStrs W a0 len ss := by
    obtain ⟨fuel, hf⟩ := h0
    rcases open_strings Ybaf.underlying22 Ybaf.underlying9 cells9 hf with ⟨hcs, _⟩ | ⟨a, l, c, zs, hcs, _, hl, hm, hz, hx, hc, _⟩
    · simp [Value.cells] at hcs
      obtain ⟨rfl, rfl, rfl⟩ := hcs
      exact ⟨[], rfl, (fun s hs => by simp at hs), (fun h => by omega)⟩
    · simp [Value.cells] at hcs
      obtain ⟨rfl, rfl, rfl⟩ := hcs
      simp only [if_true] at hz
      simp only [Prod.mk.injEq] at hx
      have hd0 : d0 = .slice (strs (zs.take len)) (strs (zs.drop len)) := hx.1
      refine ⟨zs.take len, by rw [List.length_take]; omega, fun s hs => ?_, fun hl0 => ?_⟩
      · have hw := List.all_eq_true.1 hsz s.data.toList.length (DataW.weights_mem_each (j := 0) (t := 22) (d := d0) rfl rfl _ (by
          rw [hd0, DataW.weights, Ybaf.underlying22]
          exact List.mem_cons_of_mem _ (List.mem_append.2 (.inl (weight_strs _ _ _ s hs)))))
        simpa using hw
      · obtain ⟨b, off, spot⟩ := a
        have hspot : spot = none := by simpa [Addr.add] using World.cell?_spot (hc 0 (by omega))
        subst hspot
        refine ⟨b, off, rfl, ?_, fun i hi => ?_⟩
        · have := World.block_lt_of_cell? _ _ (hc 0 (by omega))
          simpa [Addr.add] using this
        · have e := hc i (by omega)
          rw [Addr.add_lit] at e
          rw [e, List.getD_eq_getElem?_getD, List.getD_eq_getElem?_getD, List.getElem?_take_of_lt hi]
  obtain ⟨s, rfl, rfl, rfl, ws⟩ := open_string Ybaf.underlying9 (hval 1 9 v1 rfl rfl) h1
  obtain ⟨pk, rfl, rfl, rfl, wp⟩ := open_int Ybaf.underlying5 (hval 2 5 v2 rfl rfl) h2
  have hs : s.size ≤ 140737488351232 := by
    have hw := List.all_eq_true.1 hsz s.data.toList.length (DataW.weights_mem_each (j := 1) (t := 9) (d := .lit (.string s.data.toList)) rfl rfl _ (by simp [DataW.weights]))
    simpa using hw
  have hT : Told F.told W mb := by
    refine ⟨hF, World.block_lt_of_cell? _ _ hcell, hcell, hlook, fun nm x y hnm wx wy => ?_⟩
    have hn1 : nm.data.toList.length = nm.size := by rw [Array.length_toList]; rfl
    have hn2 : (headS ++ nm).data.toList.length = 8 + nm.size := by
      rw [Array.length_toList]
      show (headS ++ nm).size = _
      rw [ByteArray.size_append]
      rfl
    rw [line_told F _ _ x y wx wy (by omega) (by omega)]
    have hl := line_len (headS ++ nm).data.toList nm.data.toList x y wx wy
    omega
  refine (walk_all F.told a0 len cap ss s pk W wp hS hs mb hT).mono fun e W' ⟨he, bel⟩ => ?_
  subst he
  exact ⟨_, rfl, _, _, _, [], _, _, hW', trodAll_mk1 (shut_bool Ybaf.underlying4 _), trodAll_mk3 (Below.trod laidOut (by kernel_rfl) (of_decide_eq_true (by kernel_rfl)) k0 bel lt0) (shut_string Ybaf.underlying9 ws) (shut_int Ybaf.underlying5 wp), Below.trodVars laidOut bel (by kernel_rfl) hV0, bel.frame _, fun h => by cases h⟩

theorem stops : Ybaf.pinned.checked.prog.stops = ["fmt.Sprintf"] := by kernel_rfl
theorem stopKnobs : Ybaf.pinned.checked.prog.stopKnobs = [] := by kernel_rfl
theorem quiet (os : Os) : Stop.quiet Ybaf.pinned.checked.prog os := by
  intro k hk
  rw [stopKnobs] at hk
  cases hk

/-- THE STATEMENT: the told and tied card. -/
theorem proved : Rows.LawS4959CUseToldSaid :=
  Claim7.holds_of_told_tied_any_at .later 3 Ybaf.f3 "fmt.Sprintf" [] [] _ _ _ _ _ (by kernel_rfl) rfl rfl rfl laidOut (by kernel_rfl) rfl ⟨rfl, rfl, rfl, rfl, rfl, rfl, rfl⟩ rfl rfl (by kernel_rfl) (by kernel_rfl) Ybaf.func3 (by kernel_rfl)
    (of_decide_eq_true (by kernel_rfl)) (by unfold Func.isWrapper; first | (rw [if_pos (by decide +kernel)]; kernel_rfl) | (rw [if_neg (by decide +kernel)]; exact ⟨rfl, rfl⟩)) stops.symm rfl stopKnobs.symm (by kernel_rfl)
    (by kernel_rfl) (by kernel_rfl) (by kernel_rfl) (by kernel_rfl) (by kernel_rfl) (by kernel_rfl) (by kernel_rfl) (by kernel_rfl) (by kernel_rfl) rfl (by kernel_rfl) rfl rfl
    rfl rfl
    rfl (by kernel_rfl) (by kernel_rfl) (by kernel_rfl) (by decide) (by kernel_rfl) lawS4959CUse_row_tie
    (OpenClaim.moreEntering_of (by kernel_rfl) (by kernel_rfl) (by kernel_rfl) (by kernel_rfl) (by kernel_rfl) (by kernel_rfl) (by kernel_rfl) (by kernel_rfl) (by kernel_rfl) (by kernel_rfl))
    ⟨_, WideRow.started_initial, quiet _⟩
    (fun os started _ H enc _ => lifted os started H enc)
end Go.Proofs.YbulkcxrgFmt
