/-
  CONTRACTS: zzBytes (4), Token.String (11), the leaves' String methods (43, 49, 53, 57).
-/
import Derived.Test.YoebxwDoorSmall
namespace Go.Proofs.YoebxwDoor
open Go.RowKit

/-- Of the package-level table 'tokens': the four texts that the chain's operators read. -/
def TokCells (w : World) : Prop :=
  w.cell? ⟨0, 11, none⟩ = some (.string ⟨#[43]⟩) ∧ w.cell? ⟨0, 12, none⟩ = some (.string ⟨#[45]⟩) ∧
  w.cell? ⟨0, 41, none⟩ = some (.string ⟨#[33]⟩) ∧ w.cell? ⟨0, 18, none⟩ = some (.string ⟨#[94]⟩)

/-- The bound on the total length. -/
def fits (n m : Nat) : Bool := decide (n + m ≤ 1048576)
theorem fits_yes {n m : Nat} (h : n + m ≤ 1048576) : fits n m = true := decide_eq_true h
theorem fits_no {n m : Nat} (h : ¬ n + m ≤ 1048576) : fits n m = false := decide_eq_false h

set_option maxHeartbeats 400000 in
theorem bytes_any (ao : Option Addr) (len cap : Nat) (k : Int) (t : ByteArray) (w : World) (hl : len ≤ maxLen) (ht : t.size ≤ maxLen) :
    Calls Ebxg.prog 4 #[.slice ao len cap, .int .u8 k, .string t] w fun e w' => e = .returned (.bool (fits len t.size)) ∧ w' = w := by
  unfold maxLen at hl ht
  by_cases h1 : (1048576 : Int) < len
  · go_enter Ebxg.func4, Ebxg.ntmps4
    go_wp2
    go_ret
    exact ⟨by rw [fits_no (by omega)]; rfl, rfl⟩
  · by_cases h2 : (1048576 : Int) < t.size
    · go_enter Ebxg.func4, Ebxg.ntmps4
      go_wp2
      go_ret
      exact ⟨by rw [fits_no (by omega)]; rfl, rfl⟩
    · by_cases h3 : (1048576 : Int) < (len : Int) + t.size
      · go_enter Ebxg.func4, Ebxg.ntmps4
        go_wp2
        go_ret
        exact ⟨by rw [fits_no (by omega)]; rfl, rfl⟩
      · go_enter Ebxg.func4, Ebxg.ntmps4
        go_wp2
        go_ret
        exact ⟨by rw [fits_yes (by omega)]; rfl, rfl⟩

set_option maxHeartbeats 400000 in
theorem tokString_any (b : Int) (w : World) (hT : TokCells w) :
    Calls Ebxg.prog 11 #[.int .i64 (tokOf b)] w fun e w' => e = .returned (.string ⟨#[symOf b]⟩) ∧ w' = w := by
  obtain ⟨c1, c2, c3, c4⟩ := hT
  rcases (show b % 4 = 0 ∨ b % 4 = 1 ∨ b % 4 = 2 ∨ b % 4 = 3 from by omega) with h | h | h | h
  · rw [show tokOf b = 11 by simp [tokOf, h], show symOf b = 43 by simp [symOf, h]]
    clear h
    go_enter Ebxg.func11, Ebxg.ntmps11
    go_wp2
    go_ret
    exact ⟨rfl, rfl⟩
  · rw [show tokOf b = 12 by simp [tokOf, h], show symOf b = 45 by simp [symOf, h]]
    clear h
    go_enter Ebxg.func11, Ebxg.ntmps11
    go_wp2
    go_ret
    exact ⟨rfl, rfl⟩
  · rw [show tokOf b = 41 by simp [tokOf, h], show symOf b = 33 by simp [symOf, h]]
    clear h
    go_enter Ebxg.func11, Ebxg.ntmps11
    go_wp2
    go_ret
    exact ⟨rfl, rfl⟩
  · rw [show tokOf b = 18 by simp [tokOf, h], show symOf b = 94 by simp [symOf, h]]
    clear h
    go_enter Ebxg.func11, Ebxg.ntmps11
    go_wp2
    go_ret
    exact ⟨rfl, rfl⟩

set_option maxHeartbeats 400000 in
theorem ident_any (q : Nat) (s : ByteArray) (w : World) (hc : w.cell? ⟨q, 0, none⟩ = some (.string s)) :
    Calls Ebxg.prog 43 #[.pointer (some ⟨q, 0, none⟩)] w fun e w' => e = .returned (.string s) ∧ w' = w := by
  go_enter Ebxg.func43, Ebxg.ntmps43
  go_wp2
  go_ret
  exact ⟨rfl, rfl⟩

set_option maxHeartbeats 400000 in
theorem intLit_any (q : Nat) (s : ByteArray) (w : World) (hc : w.cell? ⟨q, 2, none⟩ = some (.string s)) :
    Calls Ebxg.prog 49 #[.pointer (some ⟨q, 0, none⟩)] w fun e w' => e = .returned (.string s) ∧ w' = w := by
  go_enter Ebxg.func49, Ebxg.ntmps49
  go_wp2
  go_ret
  exact ⟨rfl, rfl⟩

set_option maxHeartbeats 400000 in
theorem strLit_any (q : Nat) (s : ByteArray) (w : World) (hc : w.cell? ⟨q, 2, none⟩ = some (.string s)) :
    Calls Ebxg.prog 53 #[.pointer (some ⟨q, 0, none⟩)] w fun e w' => e = .returned (.string s) ∧ w' = w := by
  go_enter Ebxg.func53, Ebxg.ntmps53
  go_wp2
  go_ret
  exact ⟨rfl, rfl⟩

set_option maxHeartbeats 400000 in
theorem undefLit_any (q : Nat) (w : World) :
    Calls Ebxg.prog 57 #[.pointer (some ⟨q, 0, none⟩)] w fun e w' => e = .returned (.string ⟨#[117, 110, 100, 101, 102, 105, 110, 101, 100]⟩) ∧ w' = w := by
  go_enter Ebxg.func57, Ebxg.ntmps57
  go_wp2
  go_ret
  exact ⟨rfl, rfl⟩

end Go.Proofs.YoebxwDoor
