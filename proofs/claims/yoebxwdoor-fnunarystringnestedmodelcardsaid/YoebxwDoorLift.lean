/-
  THE ROW AND THE CARD.
-/
import Derived.Test.YoebxwDoorFrame
import Derived.Test.YoebxwDoorCards
import Derived.Test.YoebxwDoorTie
import Derived.SevenTiedAt
namespace Go.Proofs.YoebxwDoor
open Go.ChangeShapes Go.WideShapes Go.ChangeAt Go.RowKit
open Go.ChangeMaps (open_string shut_string)

set_option maxRecDepth 100000 in
theorem lifted (os : Os) (started : os.Started) (H : Type) (enc : TypeId × Value → H) :
    ReturnsInHanded {} Ebxg.checked os 3 .any (fun w args => (Rows.fnUnaryStringNestedModelSpec.pre enc Ebxg.prog Ebxg.f3 [] false w args ∧ laidMetH Ebxg.prog Rows.fnUnaryStringNestedModelRow.laid w) ∧ sizedMet enc Ebxg.prog Ebxg.f3 (OpenSpec.ofChange Rows.fnUnaryStringNestedModelSpec) false w args)
      (Rows.fnUnaryStringNestedModelSpec.post enc Ebxg.prog Ebxg.f3 false true false false) := by
  refine returnsInHanded_of_change_and (C := Ebxg.checked) (X := fun w _ => laidMetH Ebxg.prog Rows.fnUnaryStringNestedModelRow.laid w) (fun _ _ _ hh h => h.of_heap hh) own started (by kernel_rfl) Ebxg.func3
    (ChangeSpec.witness_shaped (enc := enc) (C := Ebxg.checked) (os := os) (X := fun w _ => laidMetH Ebxg.prog Rows.fnUnaryStringNestedModelRow.laid w) false (World.doorLaid Ebxg.prog 400 os) #[.slice none 0 0, .int .u8 0, .string ByteArray.empty] 8 rfl (World.shaped_of_RefB (by kernel_rfl) (by kernel_rfl)) (by kernel_rfl) (by kernel_rfl) (by kernel_rfl) (door_met os _)) ?_
  intro W base args ds gs before hval0 hW _ _ hL _
  have hval : ∀ (j : Nat) t v, Ebxg.f3.params[j]? = some t → args[j]? = some v → Value.okWide Ebxg.prog W .any base t v := hval0
  have hW' := hW
  obtain ⟨p, q, hA0, hV0, rfl, hfz, hnd⟩ := hW
  have hA : DataW.TrodAll enc Ebxg.prog W 0 (fun _ => true) true Ebxg.f3.params.toList args.toList ds p := hA0
  have hV : DataW.TrodVars enc Ebxg.prog W (fun _ => true) [tokensName] gs q := hV0
  rw [Ebxg.params3] at hA hval
  obtain ⟨v0, v1, v2, d0, d1, d2, p0, p1, p2, rfl, rfl, rfl, h0, h1, h2⟩ := trodAll_three hA
  obtain ⟨g, t, cs, fuel, d, p', rfl, hg, ht, hvar, hd, rfl⟩ := trodVars_one hV
  obtain rfl := Option.some.inj (gTokens.symm.trans hg)
  obtain rfl := Option.some.inj (tTokens.symm.trans ht)
  obtain ⟨a0, len0, cap0, rfl⟩ := okWide_slice Ebxg.underlying22 (hval 0 22 v0 rfl rfl)
  have k0 := h0
  have lt0 : ∀ x ∈ p0, x.block < W.heap.size := by obtain ⟨m, hm⟩ := k0; exact DataW.trod_lt m _ _ _ hm
  obtain ⟨z0, w0⟩ : ∃ zs : List Int, (a0 = none ∧ len0 = 0 ∧ cap0 = 0 ∧ zs = []) ∨ ∃ x, a0 = some x ∧ len0 ≤ cap0 ∧ cap0 ≤ maxLen ∧ zs.length = cap0 ∧ (∀ i, i < zs.length → W.cell? (x.add i) = some (.int .u8 (zs.getD i 0))) ∧ ∀ n ∈ zs, (Lit.int .u8 n).wf = true := by
    obtain ⟨fuel, hf⟩ := h0
    rcases open_ints Ebxg.underlying22 Ebxg.underlying5 (by kernel_rfl) hf with ⟨hcs, _⟩ | ⟨x, l, c, zs, hcs, _, hl, hm, hz, _, hcell, hwz⟩
    · simp [Value.cells] at hcs
      obtain ⟨rfl, rfl, rfl⟩ := hcs
      exact ⟨[], .inl ⟨rfl, rfl, rfl, rfl⟩⟩
    · simp [Value.cells] at hcs
      obtain ⟨rfl, rfl, rfl⟩ := hcs
      exact ⟨zs, .inr ⟨_, rfl, hl, hm, by simpa using hz, hcell, hwz⟩⟩
  obtain ⟨a1, rfl, rfl, rfl, w1⟩ := open_int Ebxg.underlying5 (hval 1 5 v1 rfl rfl) h1
  obtain ⟨a2, rfl, rfl, rfl, w2⟩ := open_string Ebxg.underlying9 (hval 2 9 v2 rfl rfl) h2
  have hT := of_laid hL
  have h0lt : 0 < W.heap.size := World.block_lt_of_cell? W _ hT.1
  have ltv : ∀ x ∈ p', x.block < W.heap.size := DataW.trod_lt fuel _ _ _ hd
  clear hA0 hV0 hval0 hA hV
  refine (walk a0 len0 cap0 z0 a1 a2 W w0 w1 w2 hT).mono fun e W' ⟨he, bel⟩ => ?_
  subst he
  obtain ⟨fuel', hd'⟩ := Below.trod laidOut (by kernel_rfl) (of_decide_eq_true (by kernel_rfl)) (v := .agg cs) (⟨fuel, by simpa [Value.cells] using hd⟩ : DataW.Trod enc Ebxg.prog W 0 (fun _ => true) true 50 (.agg cs) d p') bel ltv
  have hv' := trodVars_mk1 (enc := enc) (spare := fun b => decide (b < W.heap.size)) hg ht (var?_below bel hg h0lt hvar) (by simpa [Value.cells] using hd')
  refine ⟨_, rfl, _, _, _, [], p0 ++ ([] ++ []), MemPlace.row ⟨0, 0, none⟩ cs.size ++ p', hW', ?_, ?_, ?_, bel.frame _, fun h => by cases h⟩
  · exact trodAll_mk1 (shut_bool Ebxg.underlying4 _)
  · exact trodAll_mk3 (Below.trod laidOut (by kernel_rfl) (of_decide_eq_true (by kernel_rfl)) k0 bel lt0) (shut_int Ebxg.underlying5 w1) (shut_string Ebxg.underlying9 w2)
  · exact hv'

theorem row_holds : Rows.FnUnaryStringNestedModelSaid :=
  OpenClaim.holds_of_wide 3 Ebxg.f3 rfl rfl rfl rfl rfl rfl rfl ⟨rfl, rfl, rfl, rfl, rfl⟩ rfl rfl rfl rfl rfl (by kernel_rfl) Ebxg.func3 (by kernel_rfl)
    (of_decide_eq_true (by kernel_rfl)) (by unfold Func.isWrapper; first | (rw [if_pos (by decide +kernel)]; kernel_rfl) | (rw [if_neg (by decide +kernel)]; exact ⟨rfl, rfl⟩))
    (fun os started H enc _ => lifted os started H enc)

/-- THE CARD. -/
theorem card_holds : Rows.FnUnaryStringNestedModelCardSaid :=
  Claim7.holds_tied_plain_at .later [] [.data, .data, .data, .data] true (true, "82529dd3052f0ff3ea35dfb23800d71155b0a8207de64f97509f8851928cbb97") false
    row_holds (fun _ h => by cases h) (by kernel_rfl) (fun _ h => by cases h) fnUnaryStringNestedModel_row_tie rfl ⟨rfl, rfl⟩ (by kernel_rfl) rfl
    (fun f fn hf hfn => by
      obtain rfl : f = 3 := Option.some.inj ((show Ebxg.prog.funcNamed Rows.fnUnaryStringNestedModelRow.func = some 3 by kernel_rfl).symm.trans hf) |>.symm
      obtain rfl : fn = Ebxg.f3 := (Option.some.inj (Ebxg.func3.symm.trans hfn)).symm
      exact ⟨by kernel_rfl, fun j t ht => by
        rw [Ebxg.params3] at ht
        have hm : t ∈ [22, 5, 9] := by simpa using Array.mem_of_getElem? ht
        have hall : ([22, 5, 9].all fun u => !Ebxg.prog.wantsStandIn u) = true := by kernel_rfl
        exact (show Ebxg.prog.wantsStandIn t = false by simpa using List.all_eq_true.1 hall t hm)⟩)
    (by kernel_rfl)
end Go.Proofs.YoebxwDoor
