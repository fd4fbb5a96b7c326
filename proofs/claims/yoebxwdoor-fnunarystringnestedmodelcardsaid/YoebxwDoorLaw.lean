/-
  THE LAW's WALK: FnUnaryStringNestedModel (3) answers true.
-/
import Derived.Test.YoebxwDoorBuild
import Derived.Test.YoebxwDoorModel
namespace Go.Proofs.YoebxwDoor
open Go.RowKit

theorem TokCells.later {w w' : World} (h : TokCells w) (hb : Below w.heap.size w w') : TokCells w' := by
  have key : ∀ (a : Addr) (v : Value), w.cell? a = some v → w'.cell? a = some v := fun a v ha => (hb.cell (World.block_lt_of_cell? w a ha)).trans ha
  exact ⟨key _ _ h.1, key _ _ h.2.1, key _ _ h.2.2.1, key _ _ h.2.2.2⟩

set_option maxHeartbeats 400000 in
theorem law_unfit (ao : Option Addr) (len cap : Nat) (k : Int) (t : ByteArray) (w : World) (hl : len ≤ maxLen) (ht : t.size ≤ maxLen) (hf : fits len t.size = false) :
    Calls Ebxg.prog 3 #[.slice ao len cap, .int .u8 k, .string t] w fun e w' => e = .returned (.bool true) ∧ Below w.heap.size w w' := by
  go_enter Ebxg.func3, Ebxg.ntmps3
  go_wp2_with (go_at_call 4; refine (bytes_any _ _ _ _ _ _ hl ht).mono ?_; rintro e w' ⟨rfl, rfl⟩)
  go_ret
  exact ⟨rfl, Below.refl _ _⟩

set_option maxHeartbeats 400000 in
theorem law_wide (ao : Option Addr) (len cap : Nat) (k : Int) (t : ByteArray) (w : World) (hl : len ≤ maxLen) (ht : t.size ≤ maxLen) (hf : fits len t.size = true) (hw : (4096 : Int) < len) :
    Calls Ebxg.prog 3 #[.slice ao len cap, .int .u8 k, .string t] w fun e w' => e = .returned (.bool true) ∧ Below w.heap.size w w' := by
  go_enter Ebxg.func3, Ebxg.ntmps3
  go_wp2_with (go_at_call 4; refine (bytes_any _ _ _ _ _ _ hl ht).mono ?_; rintro e w' ⟨rfl, rfl⟩)
  go_ret
  exact ⟨rfl, Below.refl _ _⟩

set_option maxHeartbeats 400000 in
theorem law_long (ao : Option Addr) (len cap : Nat) (k : Int) (t : ByteArray) (w : World) (hl : len ≤ maxLen) (ht : t.size ≤ maxLen) (hf : fits len t.size = true) (hw : ¬ (4096 : Int) < len) (hw2 : (4096 : Int) < t.size) :
    Calls Ebxg.prog 3 #[.slice ao len cap, .int .u8 k, .string t] w fun e w' => e = .returned (.bool true) ∧ Below w.heap.size w w' := by
  go_enter Ebxg.func3, Ebxg.ntmps3
  go_wp2_with (go_at_call 4; refine (bytes_any _ _ _ _ _ _ hl ht).mono ?_; rintro e w' ⟨rfl, rfl⟩)
  go_ret
  exact ⟨rfl, Below.refl _ _⟩

set_option maxHeartbeats 400000 in
theorem law_none (ao : Option Addr) (cap : Nat) (k : Int) (t : ByteArray) (w : World) (hl : 0 ≤ maxLen) (ht : t.size ≤ maxLen) (hf : fits 0 t.size = true) (hw2 : ¬ (4096 : Int) < t.size) :
    Calls Ebxg.prog 3 #[.slice ao 0 cap, .int .u8 k, .string t] w fun e w' => e = .returned (.bool true) ∧ Below w.heap.size w w' := by
  go_enter Ebxg.func3, Ebxg.ntmps3
  go_wp2_with (go_at_call 4; refine (bytes_any _ _ _ _ _ _ hl ht).mono ?_; rintro e w' ⟨rfl, rfl⟩)
  go_ret
  exact ⟨rfl, Below.refl _ _⟩

theorem leafOf_size (k : Int) (t : ByteArray) (h : t.size ≤ 4096) : (leafOf k t).size ≤ 4096 := by
  unfold leafOf
  split
  · decide
  · exact h

theorem same_text (a : List UInt8) : (a == a) = true := by simp

set_option maxHeartbeats 400000 in
theorem law_main (b off cap : Nat) (z : List Int) (k : Int) (t : ByteArray) (w : World) (hz : z.length ≤ 4096) (hz1 : 1 ≤ z.length) (ht : t.size ≤ 4096) (hR : Row w b off z) (hb : b < w.heap.size)
    (hu : ∀ x ∈ z, 0 ≤ x ∧ x ≤ 255) (k0 : 0 ≤ k) (k1 : k ≤ 255) (hT : TokCells w) :
    Calls Ebxg.prog 3 #[.slice (some ⟨b, off, none⟩) z.length cap, .int .u8 k, .string t] w fun e w' => e = .returned (.bool true) ∧ Below w.heap.size w w' := by
  have hf : fits z.length t.size = true := fits_yes (by omega)
  have g1 : ¬ (4096 : Int) < z.length := by omega
  have g2 : ¬ (4096 : Int) < t.size := by omega
  go_enter Ebxg.func3, Ebxg.ntmps3
  go_wp2_with (go_at_call 4; refine (bytes_any _ _ _ _ _ _ (by unfold maxLen; omega) (by unfold maxLen; omega)).mono ?_; rintro e w' ⟨rfl, hw⟩; have hw2 := hw.symm; clear hw; subst hw2)
  refine (copy_any b off cap z w hz hR hb).mono ?_
  rintro e w1 ⟨rfl, hR1, hB1⟩
  have hb1 : w.heap.size < w1.heap.size := World.block_lt_of_cell? w1 _ (hR1 0 (by omega))
  go_wp2_with fail
  refine (build_any w.heap.size z k t w1 hz hz1 hR1 hb1 hu k0 k1).mono ?_
  rintro e w2 ⟨⟨q, rfl, hCh⟩, hB2⟩
  obtain ⟨b0, r0, HZ⟩ : ∃ b0 r0, Hid (z = b0 :: r0) := by
    cases z with
    | nil => simp at hz1
    | cons b0 r0 => exact ⟨b0, r0, rfl⟩
  have hlf := leafOf_size k t ht
  have hS : ∀ w : World, TokCells w → Chain w (leafOf k t) z 25 q → Calls Ebxg.prog 7 #[.pointer (some ⟨q, 0, none⟩)] w fun e w' => e = .returned (.string ⟨(flat (leafOf k t).data.toList z).toArray⟩) ∧ ∃ n, w' = w.drewN n := by
    intro w hT hC
    rw [HZ.out] at hC
    rw [← nest_flat, HZ.out]
    exact string_any (leafOf k t) r0 b0 q w hT (by have := congrArg List.length HZ.out; simp at this; omega) hC
  have hT2 : TokCells w2 := (hT.later hB1).later hB2
  have hR2 : Row w2 w.heap.size 0 z := fun j hj => (hB2.cell (by exact hb1)).trans (hR1 j hj)
  have hb2 : w.heap.size < w2.heap.size := Nat.lt_of_lt_of_le hb1 hB2.size
  have hB02 : Below w.heap.size w w2 := hB1.trans (hB2.mono (Nat.le_of_lt hb1))
  clear hR hR1 hT hB1 hB2 hb hb1 HZ
  go_wp2_with fail
  refine (hS w2 hT2 hCh).mono ?_
  rintro e w3 ⟨rfl, n, rfl⟩
  go_wp2_with (go_at_call 9; refine (leafText_any _ k0 k1 _ _).mono ?_; rintro e w' ⟨rfl, hw⟩; have hw2 := hw.symm; clear hw; subst hw2)
  refine (model_any w.heap.size z (leafOf k t) (w2.drewN n) hz hz1 hlf hR2 hb2 hu).mono ?_
  rintro e w4 ⟨rfl, hB4⟩
  have hB04 : Below w.heap.size w w4 := hB02.trans (Below.mono ⟨hB4.os, hB4.tape, hB4.output, hB4.size, hB4.block⟩ (Nat.le_of_lt hb2))
  go_wp2_with fail
  go_ret
  exact ⟨by simp, hB04⟩

end Go.Proofs.YoebxwDoor
