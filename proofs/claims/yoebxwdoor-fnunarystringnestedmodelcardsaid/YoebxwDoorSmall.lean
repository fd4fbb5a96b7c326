/-
  THE SMALL FUNCTIONS' CONTRACTS: zzBytes (4), zzLeafText (9), zzOpTok (10), zzOpSym (12).
-/
import Derived.Test.YoebxwDoorRows
import Derived.Test.YoebxwDoorPlain
import Derived.WalkKit
import Derived.WalkSpells
import Derived.WalkLawsBesides
namespace Go.Proofs.YoebxwDoor
open Go.RowKit

set_option maxHeartbeats 400000 in
theorem opTok_any (b : Int) (h0 : 0 ≤ b) (h1 : b ≤ 255) (w : World) :
    Calls Ebxg.prog 10 #[.int .u8 b] w fun e w' => e = .returned (.int .i64 (tokOf b)) ∧ w' = w := by
  rcases (show b % 4 = 0 ∨ b % 4 = 1 ∨ b % 4 = 2 ∨ b % 4 = 3 from by omega) with h | h | h | h
  all_goals
    go_enter Ebxg.func10, Ebxg.ntmps10
    go_wp2
    go_ret
    exact ⟨by simp [tokOf, h], rfl⟩

set_option maxHeartbeats 400000 in
theorem opSym_any (b : Int) (h0 : 0 ≤ b) (h1 : b ≤ 255) (w : World) :
    Calls Ebxg.prog 12 #[.int .u8 b] w fun e w' => e = .returned (.string ⟨#[symOf b]⟩) ∧ w' = w := by
  rcases (show b % 4 = 0 ∨ b % 4 = 1 ∨ b % 4 = 2 ∨ b % 4 = 3 from by omega) with h | h | h | h
  all_goals
    go_enter Ebxg.func12, Ebxg.ntmps12
    go_wp2
    go_ret
    exact ⟨by simp [symOf, h], rfl⟩

set_option maxHeartbeats 400000 in
theorem leafText_any (k : Int) (h0 : 0 ≤ k) (h1 : k ≤ 255) (t : ByteArray) (w : World) :
    Calls Ebxg.prog 9 #[.int .u8 k, .string t] w fun e w' => e = .returned (.string (leafOf k t)) ∧ w' = w := by
  by_cases h : k % 4 = 3
  · go_enter Ebxg.func9, Ebxg.ntmps9
    go_wp2
    go_ret
    exact ⟨by simp [leafOf, h], rfl⟩
  · go_enter Ebxg.func9, Ebxg.ntmps9
    go_wp2
    go_ret
    exact ⟨by simp [leafOf, h], rfl⟩

end Go.Proofs.YoebxwDoor
