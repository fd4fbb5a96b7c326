/-
  (*UnaryExpr).String (7): its contract along a chain.
-/
import Derived.Test.YoebxwDoorText
import Derived.Deep.QuietTactic
import Derived.BigQuiet
import Derived.Deep.Draws
namespace Go.Proofs.YoebxwDoor
open Go.RowKit

theorem TokCells.drewN {w : World} (h : TokCells w) (n : Nat) : TokCells (w.drewN n) := by
  simpa [TokCells] using h

theorem m25 (a : Addr) (w : World) : (method 187 25 (.pointer (some a)) "String").run Ebxg.prog w = .ok (7, .pointer (some a)) w := by kernel_rfl
theorem m30 (a : Addr) (w : World) : (method 187 30 (.pointer (some a)) "String").run Ebxg.prog w = .ok (43, .pointer (some a)) w := by kernel_rfl
theorem m40 (a : Addr) (w : World) : (method 187 40 (.pointer (some a)) "String").run Ebxg.prog w = .ok (49, .pointer (some a)) w := by kernel_rfl
theorem m43 (a : Addr) (w : World) : (method 187 43 (.pointer (some a)) "String").run Ebxg.prog w = .ok (53, .pointer (some a)) w := by kernel_rfl
theorem m46 (a : Addr) (w : World) : (method 187 46 (.pointer (some a)) "String").run Ebxg.prog w = .ok (57, .pointer (some a)) w := by kernel_rfl

set_option maxHeartbeats 400000 in
theorem step25 (b : Int) (q q' : Nat) (s : ByteArray) (w : World) (hT : TokCells w) (hs : s.size ≤ 1000000)
    (c0 : w.cell? ⟨q, 0, none⟩ = some (.iface 25 (.pointer (some ⟨q', 0, none⟩)))) (c1 : w.cell? ⟨q, 1, none⟩ = some (.int .i64 (tokOf b)))
    (hc : ∀ m, Calls Ebxg.prog 7 #[.pointer (some ⟨q', 0, none⟩)] (w.drewN m) fun e w' => e = .returned (.string s) ∧ ∃ n, w' = (w.drewN m).drewN n) :
    Calls Ebxg.prog 7 #[.pointer (some ⟨q, 0, none⟩)] w fun e w' => e = .returned (.string (((⟨#[40]⟩ ++ ⟨#[symOf b]⟩) ++ s) ++ ⟨#[41]⟩)) ∧ ∃ n, w' = w.drewN n := by
  have hm := m25
  go_enter Ebxg.func7, Ebxg.ntmps7
  go_wp2_with fail
  go_quiet (first
    | (go_at_call 11; exact Calls.quiet_of_same (tokString_any b _ (hT.drewN _)))
    | (go_at_call 7; exact Calls.quiet_of (hc _)))
  go_wp2
  go_ret
  exact ⟨rfl, _, rfl⟩

set_option maxHeartbeats 400000 in
theorem step30 (b : Int) (q q' : Nat) (s : ByteArray) (w : World) (hT : TokCells w) (hs : s.size ≤ 1000000)
    (c0 : w.cell? ⟨q, 0, none⟩ = some (.iface 30 (.pointer (some ⟨q', 0, none⟩)))) (c1 : w.cell? ⟨q, 1, none⟩ = some (.int .i64 (tokOf b)))
    (hc : ∀ m, Calls Ebxg.prog 43 #[.pointer (some ⟨q', 0, none⟩)] (w.drewN m) fun e w' => e = .returned (.string s) ∧ ∃ n, w' = (w.drewN m).drewN n) :
    Calls Ebxg.prog 7 #[.pointer (some ⟨q, 0, none⟩)] w fun e w' => e = .returned (.string (((⟨#[40]⟩ ++ ⟨#[symOf b]⟩) ++ s) ++ ⟨#[41]⟩)) ∧ ∃ n, w' = w.drewN n := by
  have hm := m30
  go_enter Ebxg.func7, Ebxg.ntmps7
  go_wp2_with fail
  go_quiet (first
    | (go_at_call 11; exact Calls.quiet_of_same (tokString_any b _ (hT.drewN _)))
    | (go_at_call 43; exact Calls.quiet_of (hc _)))
  go_wp2
  go_ret
  exact ⟨rfl, _, rfl⟩

set_option maxHeartbeats 400000 in
theorem step40 (b : Int) (q q' : Nat) (s : ByteArray) (w : World) (hT : TokCells w) (hs : s.size ≤ 1000000)
    (c0 : w.cell? ⟨q, 0, none⟩ = some (.iface 40 (.pointer (some ⟨q', 0, none⟩)))) (c1 : w.cell? ⟨q, 1, none⟩ = some (.int .i64 (tokOf b)))
    (hc : ∀ m, Calls Ebxg.prog 49 #[.pointer (some ⟨q', 0, none⟩)] (w.drewN m) fun e w' => e = .returned (.string s) ∧ ∃ n, w' = (w.drewN m).drewN n) :
    Calls Ebxg.prog 7 #[.pointer (some ⟨q, 0, none⟩)] w fun e w' => e = .returned (.string (((⟨#[40]⟩ ++ ⟨#[symOf b]⟩) ++ s) ++ ⟨#[41]⟩)) ∧ ∃ n, w' = w.drewN n := by
  have hm := m40
  go_enter Ebxg.func7, Ebxg.ntmps7
  go_wp2_with fail
  go_quiet (first
    | (go_at_call 11; exact Calls.quiet_of_same (tokString_any b _ (hT.drewN _)))
    | (go_at_call 49; exact Calls.quiet_of (hc _)))
  go_wp2
  go_ret
  exact ⟨rfl, _, rfl⟩

set_option maxHeartbeats 400000 in
theorem step43 (b : Int) (q q' : Nat) (s : ByteArray) (w : World) (hT : TokCells w) (hs : s.size ≤ 1000000)
    (c0 : w.cell? ⟨q, 0, none⟩ = some (.iface 43 (.pointer (some ⟨q', 0, none⟩)))) (c1 : w.cell? ⟨q, 1, none⟩ = some (.int .i64 (tokOf b)))
    (hc : ∀ m, Calls Ebxg.prog 53 #[.pointer (some ⟨q', 0, none⟩)] (w.drewN m) fun e w' => e = .returned (.string s) ∧ ∃ n, w' = (w.drewN m).drewN n) :
    Calls Ebxg.prog 7 #[.pointer (some ⟨q, 0, none⟩)] w fun e w' => e = .returned (.string (((⟨#[40]⟩ ++ ⟨#[symOf b]⟩) ++ s) ++ ⟨#[41]⟩)) ∧ ∃ n, w' = w.drewN n := by
  have hm := m43
  go_enter Ebxg.func7, Ebxg.ntmps7
  go_wp2_with fail
  go_quiet (first
    | (go_at_call 11; exact Calls.quiet_of_same (tokString_any b _ (hT.drewN _)))
    | (go_at_call 53; exact Calls.quiet_of (hc _)))
  go_wp2
  go_ret
  exact ⟨rfl, _, rfl⟩

set_option maxHeartbeats 400000 in
theorem step46 (b : Int) (q q' : Nat) (s : ByteArray) (w : World) (hT : TokCells w) (hs : s.size ≤ 1000000)
    (c0 : w.cell? ⟨q, 0, none⟩ = some (.iface 46 (.pointer (some ⟨q', 0, none⟩)))) (c1 : w.cell? ⟨q, 1, none⟩ = some (.int .i64 (tokOf b)))
    (hc : ∀ m, Calls Ebxg.prog 57 #[.pointer (some ⟨q', 0, none⟩)] (w.drewN m) fun e w' => e = .returned (.string s) ∧ ∃ n, w' = (w.drewN m).drewN n) :
    Calls Ebxg.prog 7 #[.pointer (some ⟨q, 0, none⟩)] w fun e w' => e = .returned (.string (((⟨#[40]⟩ ++ ⟨#[symOf b]⟩) ++ s) ++ ⟨#[41]⟩)) ∧ ∃ n, w' = w.drewN n := by
  have hm := m46
  go_enter Ebxg.func7, Ebxg.ntmps7
  go_wp2_with fail
  go_quiet (first
    | (go_at_call 11; exact Calls.quiet_of_same (tokString_any b _ (hT.drewN _)))
    | (go_at_call 57; exact Calls.quiet_of (hc _)))
  go_wp2
  go_ret
  exact ⟨rfl, _, rfl⟩

/-- A leaf of dynamic type dt at the head of block q prints s. -/
def Leaf (w : World) (s : ByteArray) (dt q : Nat) : Prop :=
  (dt = 30 ∧ w.cell? ⟨q, 0, none⟩ = some (.string s)) ∨ (dt = 40 ∧ w.cell? ⟨q, 2, none⟩ = some (.string s)) ∨
  (dt = 43 ∧ w.cell? ⟨q, 2, none⟩ = some (.string s)) ∨ (dt = 46 ∧ s = ⟨#[117, 110, 100, 101, 102, 105, 110, 101, 100]⟩)

/-- A chain of unary operators over a leaf, from block q on. -/
def Chain (w : World) (s : ByteArray) : List Int → Nat → Nat → Prop
  | [], dt, q => Leaf w s dt q
  | b :: r, dt, q => dt = 25 ∧ ∃ dt' q', w.cell? ⟨q, 0, none⟩ = some (.iface dt' (.pointer (some ⟨q', 0, none⟩))) ∧ w.cell? ⟨q, 1, none⟩ = some (.int .i64 (tokOf b)) ∧ Chain w s r dt' q'

theorem Leaf.later {w w' : World} {s : ByteArray} {dt q : Nat} (h : Leaf w s dt q) (hb : Below w.heap.size w w') : Leaf w' s dt q := by
  have key : ∀ (a : Addr) (v : Value), w.cell? a = some v → w'.cell? a = some v := fun a v ha => (hb.cell (World.block_lt_of_cell? w a ha)).trans ha
  rcases h with ⟨h1, h2⟩ | ⟨h1, h2⟩ | ⟨h1, h2⟩ | h
  · exact .inl ⟨h1, key _ _ h2⟩
  · exact .inr (.inl ⟨h1, key _ _ h2⟩)
  · exact .inr (.inr (.inl ⟨h1, key _ _ h2⟩))
  · exact .inr (.inr (.inr h))

theorem Chain.later {w w' : World} {s : ByteArray} (hb : Below w.heap.size w w') : ∀ {ops : List Int} {dt q : Nat}, Chain w s ops dt q → Chain w' s ops dt q
  | [], _, _, h => Leaf.later h hb
  | _ :: _, _, _, ⟨h0, dt', q', c0, c1, hr⟩ =>
    ⟨h0, dt', q', (hb.cell (World.block_lt_of_cell? w _ c0)).trans c0, (hb.cell (World.block_lt_of_cell? w _ c1)).trans c1, Chain.later hb hr⟩

theorem nest_bytes (b : Int) (s : ByteArray) (r : List Int) :
    (((⟨#[40]⟩ : ByteArray) ++ ⟨#[symOf b]⟩) ++ ⟨(nest s.data.toList r).toArray⟩) ++ ⟨#[41]⟩ = ⟨(nest s.data.toList (b :: r)).toArray⟩ := by
  apply ByteArray.ext
  simp [nest]

theorem nest_size (s : ByteArray) (r : List Int) : (⟨(nest s.data.toList r).toArray⟩ : ByteArray).size = 3 * r.length + s.size := by
  show (nest s.data.toList r).toArray.size = _
  rw [List.size_toArray, nest_length, Array.length_toList]
  rfl

theorem bytes_self (s : ByteArray) : (⟨s.data.toList.toArray⟩ : ByteArray) = s := by
  apply ByteArray.ext
  simp

/-- THE CONTRACT: a chain prints its nested text, and turns nothing but draws. -/
theorem string_any (s : ByteArray) : ∀ (r : List Int) (b : Int) (q : Nat) (w : World), TokCells w → 3 * r.length + s.size ≤ 1000000 → Chain w s (b :: r) 25 q →
    Calls Ebxg.prog 7 #[.pointer (some ⟨q, 0, none⟩)] w fun e w' => e = .returned (.string ⟨(nest s.data.toList (b :: r)).toArray⟩) ∧ ∃ n, w' = w.drewN n := by
  intro r
  induction r with
  | nil =>
    intro b q w hT hs hC
    obtain ⟨_, dt, q', c0, c1, hL⟩ := hC
    rw [← nest_bytes, show nest s.data.toList [] = s.data.toList from rfl, bytes_self]
    rcases hL with ⟨rfl, h⟩ | ⟨rfl, h⟩ | ⟨rfl, h⟩ | ⟨rfl, rfl⟩
    · exact step30 b q q' s w hT (by omega) c0 c1 fun m => (ident_any q' s (w.drewN m) h).mono fun _ _ ⟨h1, h2⟩ => ⟨h1, 0, h2⟩
    · exact step40 b q q' s w hT (by omega) c0 c1 fun m => (intLit_any q' s (w.drewN m) h).mono fun _ _ ⟨h1, h2⟩ => ⟨h1, 0, h2⟩
    · exact step43 b q q' s w hT (by omega) c0 c1 fun m => (strLit_any q' s (w.drewN m) h).mono fun _ _ ⟨h1, h2⟩ => ⟨h1, 0, h2⟩
    · exact step46 b q q' _ w hT (by omega) c0 c1 fun m => (undefLit_any q' (w.drewN m)).mono fun _ _ ⟨h1, h2⟩ => ⟨h1, 0, h2⟩
  | cons b' r ih =>
    intro b q w hT hs hC
    obtain ⟨_, dt, q', c0, c1, hR⟩ := hC
    obtain rfl : dt = 25 := hR.1
    rw [← nest_bytes]
    simp only [List.length_cons] at hs
    refine step25 b q q' _ w hT (by rw [nest_size]; simp only [List.length_cons]; omega) c0 c1 fun m => ?_
    exact ih b' q' (w.drewN m) (hT.drewN m) (by omega) (Chain.later (w := w) (w' := w.drewN m) ⟨rfl, rfl, rfl, Nat.le_refl _, fun _ _ => rfl⟩ hR)

end Go.Proofs.YoebxwDoor
