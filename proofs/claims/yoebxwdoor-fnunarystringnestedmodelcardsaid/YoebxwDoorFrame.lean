/-
  THE ROW, PROVED: FnUnaryStringNestedModel answers true for every input; what came in reads as it did.
-/
import Derived.Test.YoebxwDoorLaw
import Derived.ProofKit
import Derived.LaidMore
import Derived.OpenShut
import Derived.Stop.Joined
import Derived.ShutString
import Derived.ChangeOld
import Derived.ChangeVars
namespace Go.Proofs.YoebxwDoor
open Go.ChangeShapes Go.WideShapes Go.ChangeAt Go.RowKit
open Go.ChangeMaps (open_string shut_string)

theorem own : ownKnob Ebxg.prog.godebug = none := by kernel_rfl
theorem laidOut : laidOutB Ebxg.prog = true := by kernel_rfl
/-- The table's name, as the row lists it. -/
def tokensName : String := Rows.fnUnaryStringNestedModelRow.named.headD ""
theorem gTokens : Ebxg.prog.globalNamed tokensName = some 0 := by kernel_rfl
theorem tTokens : (Ebxg.prog.globals[0]?).map (·.type) = some 50 := by kernel_rfl
theorem cells9 : Ebxg.prog.cellsOf 9 = 1 := by kernel_rfl

/-- The door's own heap meets the condition. -/
theorem door_met (os : Os) (args : Array Value) : laidMetH Ebxg.prog Rows.fnUnaryStringNestedModelRow.laid ((World.doorLaid Ebxg.prog 400 os).forCall (fun _ _ => 0) ⟨#[], args, []⟩).memory :=
  laidMetH_of_parts3 (fuel := 8) (laidMet_of_run' 8 (by kernel_rfl) (by kernel_rfl)) (by kernel_rfl) (by kernel_rfl)

/-- One text of a table of strings. -/
theorem text_at {H : Type} {enc : TypeId × Value → H} {W : World} {sp : Nat → Bool} {held : Bool} {fuel : Nat} {cs : Array Value} {ls : List (DataW H)} {p : List MemPlace}
    (hd : DataW.trod enc Ebxg.prog W 0 sp held fuel 50 cs.toList = some (.agg ls, p)) (i : Nat) (hi : i < 75) (c : UInt8) (hl : ls[i]? = some (.lit (.string [c]))) : cs[i]? = some (.string ⟨#[c]⟩) := by
  obtain ⟨xs, m, rfl, hx, _, hn, hel⟩ := DataW.trod_array Ebxg.underlying50 hd
  have he := hel i hi
  rw [cells9, Nat.mul_one] at he
  have hxi : i < xs.length := by omega
  rw [List.getElem?_eq_getElem hxi] at he
  obtain ⟨s, e1, e2, _⟩ := DataW.trod_string Ebxg.underlying9 he
  simp only [Prod.mk.injEq, DataW.agg.injEq] at hx
  have hxl : (xs.map (·.1))[i]? = some (.lit (.string [c])) := by rw [← hx.1]; exact hl
  rw [List.getElem?_map, List.getElem?_eq_getElem hxi, e2] at hxl
  simp only [Option.map_some, Option.some.injEq, DataW.lit.injEq, Lit.string.injEq] at hxl
  have hs : s = ⟨#[c]⟩ := by
    apply ByteArray.ext
    apply Array.ext'
    simpa using hxl
  have h0 := congrArg (·[0]?) e1
  simp only [List.getElem?_take, List.getElem?_drop] at h0
  subst hs
  simpa using h0

/-- WHAT THE CONDITION GIVES THE WALKS: the four texts. -/
theorem of_laid {W : World} (h : laidMetH Ebxg.prog Rows.fnUnaryStringNestedModelRow.laid W) : TokCells W := by
  rw [MakeChecks.laidMetH_plain _ _ _ (by kernel_rfl)] at h
  obtain ⟨ps, ⟨_, _, _, _, _, _, _, _, _, _, ⟨_, _, _, _, _, _, _, _, _, _, ⟨_, _, _, _, _, _, _, _, _, _, ⟨g, t, cs, f, p, q, hg, ht, hv, hd, _, _⟩, _⟩, _⟩, _⟩, _, _⟩ := h
  obtain rfl := Option.some.inj (gTokens.symm.trans hg)
  obtain rfl := Option.some.inj (tTokens.symm.trans ht)
  have key := fun i hi c hl => (World.var?_cell hg hv i).trans (text_at hd i hi c hl)
  exact ⟨key 11 (by decide) 43 rfl, key 12 (by decide) 45 rfl, key 41 (by decide) 33 rfl, key 18 (by decide) 94 rfl⟩

/-- THE WALK, every way. -/
theorem walk (a0 : Option Addr) (len0 cap0 : Nat) (z0 : List Int) (a1 : Int) (a2 : ByteArray) (w : World)
    (w0 : (a0 = none ∧ len0 = 0 ∧ cap0 = 0 ∧ z0 = []) ∨ ∃ x, a0 = some x ∧ len0 ≤ cap0 ∧ cap0 ≤ maxLen ∧ z0.length = cap0 ∧ (∀ i, i < z0.length → w.cell? (x.add i) = some (.int .u8 (z0.getD i 0))) ∧ ∀ n ∈ z0, (Lit.int .u8 n).wf = true)
    (w1 : (Lit.int .u8 a1).wf = true) (w2 : a2.size ≤ maxLen) (hT : TokCells w) :
    Calls Ebxg.prog 3 #[.slice a0 len0 cap0, .int .u8 a1, .string a2] w fun e w' => e = .returned (.bool true) ∧ Below w.heap.size w w' := by
  obtain ⟨k0, k1⟩ := bounds_u8 w1
  have hl : len0 ≤ maxLen := by
    rcases w0 with ⟨_, h, _⟩ | ⟨_, _, h, h', _⟩ <;> omega
  cases hf : fits len0 a2.size with
  | false => exact law_unfit a0 len0 cap0 a1 a2 w hl w2 hf
  | true =>
    by_cases g1 : (4096 : Int) < len0
    · exact law_wide a0 len0 cap0 a1 a2 w hl w2 hf g1
    · by_cases g2 : (4096 : Int) < a2.size
      · exact law_long a0 len0 cap0 a1 a2 w hl w2 hf g1 g2
      · by_cases g3 : len0 = 0
        · subst g3
          exact law_none a0 cap0 a1 a2 w hl w2 hf g2
        · rcases w0 with ⟨_, h, _⟩ | ⟨x, rfl, h1, h2, h3, h4, h5⟩
          · exact absurd h g3
          · obtain ⟨b, off, rfl, hc⟩ := ints_at h4 (by omega)
            have hlen : (z0.take len0).length = len0 := by rw [List.length_take]; omega
            have hR : Row w b off (z0.take len0) := fun j hj => by
              rw [hc j (by omega)]
              simp [show j < len0 by omega]
            have hb : b < w.heap.size := World.block_lt_of_cell? w _ (hc 0 (by omega))
            have := law_main b off cap0 (z0.take len0) a1 a2 w (by omega) (by omega) (by omega) hR hb (fun y hy => bounds_u8 (h5 y (List.mem_of_mem_take hy))) k0 k1 hT
            rw [hlen] at this
            exact this

end Go.Proofs.YoebxwDoor
