/-
  zzBuildChain (6): the chain lies in new memory.
-/
import Derived.Test.YoebxwDoorString
import Derived.Test.YoebxwDoorCopy
namespace Go.Proofs.YoebxwDoor
open Go.RowKit

theorem below_alloc (w : World) (o : Obj) : Below w.heap.size w (w.alloc o) := (Below.refl _ _).alloc (Nat.le_refl _) _

theorem Chain.cons {w : World} {s : ByteArray} {r : List Int} {dt q : Nat} (h : Chain w s r dt q) (b : Int) (x : Value) :
    Chain (w.alloc (.cells #[.iface dt (.pointer (some ⟨q, 0, none⟩)), .int .i64 (tokOf b), x] 39)) s (b :: r) 25 w.heap.size :=
  ⟨rfl, dt, q, by simp, by simp, h.later (below_alloc _ _)⟩

theorem leaf30 (w : World) (t : ByteArray) (x : Value) : Leaf (w.alloc (.cells #[.string t, x] 33)) t 30 w.heap.size := .inl ⟨rfl, by simp⟩
theorem leaf40 (w : World) (t : ByteArray) (x y : Value) : Leaf (w.alloc (.cells #[x, y, .string t] 42)) t 40 w.heap.size := .inr (.inl ⟨rfl, by simp⟩)
theorem leaf43 (w : World) (t : ByteArray) (x y : Value) : Leaf (w.alloc (.cells #[x, y, .string t] 45)) t 43 w.heap.size := .inr (.inr (.inl ⟨rfl, by simp⟩))
theorem leaf46 (w : World) (x : Value) : Leaf (w.alloc (.cells #[x] 48)) ⟨#[117, 110, 100, 101, 102, 105, 110, 101, 100]⟩ 46 w.heap.size := .inr (.inr (.inr ⟨rfl, rfl⟩))

set_option maxHeartbeats 400000 in
theorem build_any (B : Nat) (z : List Int) (k : Int) (t : ByteArray) (w : World) (hz : z.length ≤ 4096) (hz1 : 1 ≤ z.length) (hR : Row w B 0 z) (hB : B < w.heap.size) (hu : ∀ x ∈ z, 0 ≤ x ∧ x ≤ 255) (k0 : 0 ≤ k) (k1 : k ≤ 255) :
    Calls Ebxg.prog 6 #[.slice (some ⟨B, 0, none⟩) z.length z.length, .int .u8 k, .string t, .int .i64 0] w fun e w' =>
      (∃ q, e = .returned (.pointer (some ⟨q, 0, none⟩)) ∧ Chain w' (leafOf k t) z 25 q) ∧ Below w.heap.size w w' := by
  obtain ⟨n, hn⟩ : ∃ n, z.length = n + 1 := ⟨z.length - 1, by omega⟩
  obtain ⟨x, hx⟩ : ∃ x, x = z.getD n 0 := ⟨_, rfl⟩
  have hc : w.cell? ⟨B, n, none⟩ = some (.int .u8 x) := by rw [hx]; simpa using hR n (by omega)
  have hbd : 0 ≤ x ∧ x ≤ 255 := by rw [hx]; exact hu _ (by simp [hn])
  have hC0 : ∀ (w : World) dt q y, Leaf w (leafOf k t) dt q → Chain (w.alloc (.cells #[.iface dt (.pointer (some ⟨q, 0, none⟩)), .int .i64 (tokOf x), y] 39)) (leafOf k t) (z.drop n) 25 w.heap.size := fun w dt q y hL => by
    rw [List.drop_eq_getElem_cons (by omega), List.drop_of_length_le (by omega), show z[n] = x by rw [hx]; simp [hn]]
    exact Chain.cons (r := []) hL x y
  have hn4 : n ≤ 4095 := by omega
  have HX : Hid (x = z.getD n 0) := hx
  have HN : Hid (z.length = n + 1) := hn
  rw [hn]
  clear hx hn hz hz1
  rcases (show k % 4 = 0 ∨ k % 4 = 1 ∨ k % 4 = 2 ∨ k % 4 = 3 from by omega) with h | h | h | h
  · have hCs := hC0 _ _ _ (.int .i64 0) (by rw [show leafOf k t = t by simp [leafOf, h]]; exact leaf30 w t (.int .i64 0))
    go_enter Ebxg.func6, Ebxg.ntmps6
    go_wp2_with (go_at_call 10; refine (opTok_any _ hbd.1 hbd.2 _).mono ?_; rintro e w' ⟨rfl, rfl⟩)
    go_loopw [10, 11] (fun u i wr => ∃ m : Nat, m ≤ n ∧ i = .int .i64 ((m : Int) - 1) ∧ (∃ q, u = .pointer (some ⟨q, 0, none⟩) ∧ Chain wr (leafOf k t) (z.drop m) 25 q) ∧ Below w.heap.size w wr) (fun _ i _ => (intOf i + 1).toNat)
    case atStart => exact ⟨n, Nat.le_refl _, rfl, ⟨_, rfl, by rw [World.size_alloc] at hCs; exact hCs⟩, ((Below.refl _ _).alloc (Nat.le_refl _) _).alloc (by simp) _⟩
    case round =>
      obtain ⟨m, hm, rfl, ⟨q, rfl, hCh⟩, hBk⟩ := hrel
      clear hCs hC0 hc hbd
      by_cases h1 : 1 ≤ m
      · obtain ⟨y, hy⟩ : ∃ y, y = z.getD (m - 1) 0 := ⟨_, rfl⟩
        obtain ⟨j, rfl⟩ : ∃ j, m = j + 1 := ⟨m - 1, by omega⟩
        simp only [Nat.add_sub_cancel] at hy
        have hj : j < z.length := by rw [HN.out]; omega
        have hcy : wr.cell? ⟨B, j, none⟩ = some (.int .u8 y) := (hBk.cell (by exact hB)).trans (by rw [hy]; simpa using hR j hj)
        have hbd : 0 ≤ y ∧ y ≤ 255 := by rw [hy]; exact hu _ (by simp [hj])
        have hN : Chain (wr.alloc (.cells #[.iface 25 (.pointer (some ⟨q, 0, none⟩)), .int .i64 (tokOf y), .int .i64 0] 39)) (leafOf k t) (z.drop j) 25 wr.heap.size := by
          rw [List.drop_eq_getElem_cons hj, show z[j] = y by rw [hy]; simp [hj]]
          exact hCh.cons y _
        have hB' : Below w.heap.size w (wr.alloc (.cells #[.iface 25 (.pointer (some ⟨q, 0, none⟩)), .int .i64 (tokOf y), .int .i64 0] 39)) := hBk.alloc hBk.size _
        clear hy hj h1 hu hR hCh
        rw [show (((j + 1 : Nat) : Int) - 1) = (j : Int) from by omega]
        go_wp2_with (go_at_call 10; refine (opTok_any _ hbd.1 hbd.2 _).mono ?_; rintro e w' ⟨rfl, rfl⟩)
        go_roundw
        case rel => exact ⟨j, by omega, by go_num, ⟨_, rfl, hN⟩, hB'⟩
        case measure => simp [intOf]
      · obtain rfl : m = 0 := by omega
        go_wp2_with fail
        go_ret
        exact ⟨⟨q, rfl, hCh⟩, hBk⟩
  · have hCs := hC0 _ _ _ (.int .i64 0) (by rw [show leafOf k t = t by simp [leafOf, h]]; exact leaf40 w t (.int .i64 0) (.int .i64 0))
    go_enter Ebxg.func6, Ebxg.ntmps6
    go_wp2_with (go_at_call 10; refine (opTok_any _ hbd.1 hbd.2 _).mono ?_; rintro e w' ⟨rfl, rfl⟩)
    go_loopw [10, 11] (fun u i wr => ∃ m : Nat, m ≤ n ∧ i = .int .i64 ((m : Int) - 1) ∧ (∃ q, u = .pointer (some ⟨q, 0, none⟩) ∧ Chain wr (leafOf k t) (z.drop m) 25 q) ∧ Below w.heap.size w wr) (fun _ i _ => (intOf i + 1).toNat)
    case atStart => exact ⟨n, Nat.le_refl _, rfl, ⟨_, rfl, by rw [World.size_alloc] at hCs; exact hCs⟩, ((Below.refl _ _).alloc (Nat.le_refl _) _).alloc (by simp) _⟩
    case round =>
      obtain ⟨m, hm, rfl, ⟨q, rfl, hCh⟩, hBk⟩ := hrel
      clear hCs hC0 hc hbd
      by_cases h1 : 1 ≤ m
      · obtain ⟨y, hy⟩ : ∃ y, y = z.getD (m - 1) 0 := ⟨_, rfl⟩
        obtain ⟨j, rfl⟩ : ∃ j, m = j + 1 := ⟨m - 1, by omega⟩
        simp only [Nat.add_sub_cancel] at hy
        have hj : j < z.length := by rw [HN.out]; omega
        have hcy : wr.cell? ⟨B, j, none⟩ = some (.int .u8 y) := (hBk.cell (by exact hB)).trans (by rw [hy]; simpa using hR j hj)
        have hbd : 0 ≤ y ∧ y ≤ 255 := by rw [hy]; exact hu _ (by simp [hj])
        have hN : Chain (wr.alloc (.cells #[.iface 25 (.pointer (some ⟨q, 0, none⟩)), .int .i64 (tokOf y), .int .i64 0] 39)) (leafOf k t) (z.drop j) 25 wr.heap.size := by
          rw [List.drop_eq_getElem_cons hj, show z[j] = y by rw [hy]; simp [hj]]
          exact hCh.cons y _
        have hB' : Below w.heap.size w (wr.alloc (.cells #[.iface 25 (.pointer (some ⟨q, 0, none⟩)), .int .i64 (tokOf y), .int .i64 0] 39)) := hBk.alloc hBk.size _
        clear hy hj h1 hu hR hCh
        rw [show (((j + 1 : Nat) : Int) - 1) = (j : Int) from by omega]
        go_wp2_with (go_at_call 10; refine (opTok_any _ hbd.1 hbd.2 _).mono ?_; rintro e w' ⟨rfl, rfl⟩)
        go_roundw
        case rel => exact ⟨j, by omega, by go_num, ⟨_, rfl, hN⟩, hB'⟩
        case measure => simp [intOf]
      · obtain rfl : m = 0 := by omega
        go_wp2_with fail
        go_ret
        exact ⟨⟨q, rfl, hCh⟩, hBk⟩
  · have hCs := hC0 _ _ _ (.int .i64 0) (by rw [show leafOf k t = t by simp [leafOf, h]]; exact leaf43 w t (.string ⟨#[]⟩) (.int .i64 0))
    go_enter Ebxg.func6, Ebxg.ntmps6
    go_wp2_with (go_at_call 10; refine (opTok_any _ hbd.1 hbd.2 _).mono ?_; rintro e w' ⟨rfl, rfl⟩)
    go_loopw [10, 11] (fun u i wr => ∃ m : Nat, m ≤ n ∧ i = .int .i64 ((m : Int) - 1) ∧ (∃ q, u = .pointer (some ⟨q, 0, none⟩) ∧ Chain wr (leafOf k t) (z.drop m) 25 q) ∧ Below w.heap.size w wr) (fun _ i _ => (intOf i + 1).toNat)
    case atStart => exact ⟨n, Nat.le_refl _, rfl, ⟨_, rfl, by rw [World.size_alloc] at hCs; exact hCs⟩, ((Below.refl _ _).alloc (Nat.le_refl _) _).alloc (by simp) _⟩
    case round =>
      obtain ⟨m, hm, rfl, ⟨q, rfl, hCh⟩, hBk⟩ := hrel
      clear hCs hC0 hc hbd
      by_cases h1 : 1 ≤ m
      · obtain ⟨y, hy⟩ : ∃ y, y = z.getD (m - 1) 0 := ⟨_, rfl⟩
        obtain ⟨j, rfl⟩ : ∃ j, m = j + 1 := ⟨m - 1, by omega⟩
        simp only [Nat.add_sub_cancel] at hy
        have hj : j < z.length := by rw [HN.out]; omega
        have hcy : wr.cell? ⟨B, j, none⟩ = some (.int .u8 y) := (hBk.cell (by exact hB)).trans (by rw [hy]; simpa using hR j hj)
        have hbd : 0 ≤ y ∧ y ≤ 255 := by rw [hy]; exact hu _ (by simp [hj])
        have hN : Chain (wr.alloc (.cells #[.iface 25 (.pointer (some ⟨q, 0, none⟩)), .int .i64 (tokOf y), .int .i64 0] 39)) (leafOf k t) (z.drop j) 25 wr.heap.size := by
          rw [List.drop_eq_getElem_cons hj, show z[j] = y by rw [hy]; simp [hj]]
          exact hCh.cons y _
        have hB' : Below w.heap.size w (wr.alloc (.cells #[.iface 25 (.pointer (some ⟨q, 0, none⟩)), .int .i64 (tokOf y), .int .i64 0] 39)) := hBk.alloc hBk.size _
        clear hy hj h1 hu hR hCh
        rw [show (((j + 1 : Nat) : Int) - 1) = (j : Int) from by omega]
        go_wp2_with (go_at_call 10; refine (opTok_any _ hbd.1 hbd.2 _).mono ?_; rintro e w' ⟨rfl, rfl⟩)
        go_roundw
        case rel => exact ⟨j, by omega, by go_num, ⟨_, rfl, hN⟩, hB'⟩
        case measure => simp [intOf]
      · obtain rfl : m = 0 := by omega
        go_wp2_with fail
        go_ret
        exact ⟨⟨q, rfl, hCh⟩, hBk⟩
  · have hCs := hC0 _ _ _ (.int .i64 0) (by rw [show leafOf k t = ⟨#[117, 110, 100, 101, 102, 105, 110, 101, 100]⟩ by simp [leafOf, h]]; exact leaf46 w (.int .i64 0))
    go_enter Ebxg.func6, Ebxg.ntmps6
    go_wp2_with (go_at_call 10; refine (opTok_any _ hbd.1 hbd.2 _).mono ?_; rintro e w' ⟨rfl, rfl⟩)
    go_loopw [10, 11] (fun u i wr => ∃ m : Nat, m ≤ n ∧ i = .int .i64 ((m : Int) - 1) ∧ (∃ q, u = .pointer (some ⟨q, 0, none⟩) ∧ Chain wr (leafOf k t) (z.drop m) 25 q) ∧ Below w.heap.size w wr) (fun _ i _ => (intOf i + 1).toNat)
    case atStart => exact ⟨n, Nat.le_refl _, rfl, ⟨_, rfl, by rw [World.size_alloc] at hCs; exact hCs⟩, ((Below.refl _ _).alloc (Nat.le_refl _) _).alloc (by simp) _⟩
    case round =>
      obtain ⟨m, hm, rfl, ⟨q, rfl, hCh⟩, hBk⟩ := hrel
      clear hCs hC0 hc hbd
      by_cases h1 : 1 ≤ m
      · obtain ⟨y, hy⟩ : ∃ y, y = z.getD (m - 1) 0 := ⟨_, rfl⟩
        obtain ⟨j, rfl⟩ : ∃ j, m = j + 1 := ⟨m - 1, by omega⟩
        simp only [Nat.add_sub_cancel] at hy
        have hj : j < z.length := by rw [HN.out]; omega
        have hcy : wr.cell? ⟨B, j, none⟩ = some (.int .u8 y) := (hBk.cell (by exact hB)).trans (by rw [hy]; simpa using hR j hj)
        have hbd : 0 ≤ y ∧ y ≤ 255 := by rw [hy]; exact hu _ (by simp [hj])
        have hN : Chain (wr.alloc (.cells #[.iface 25 (.pointer (some ⟨q, 0, none⟩)), .int .i64 (tokOf y), .int .i64 0] 39)) (leafOf k t) (z.drop j) 25 wr.heap.size := by
          rw [List.drop_eq_getElem_cons hj, show z[j] = y by rw [hy]; simp [hj]]
          exact hCh.cons y _
        have hB' : Below w.heap.size w (wr.alloc (.cells #[.iface 25 (.pointer (some ⟨q, 0, none⟩)), .int .i64 (tokOf y), .int .i64 0] 39)) := hBk.alloc hBk.size _
        clear hy hj h1 hu hR hCh
        rw [show (((j + 1 : Nat) : Int) - 1) = (j : Int) from by omega]
        go_wp2_with (go_at_call 10; refine (opTok_any _ hbd.1 hbd.2 _).mono ?_; rintro e w' ⟨rfl, rfl⟩)
        go_roundw
        case rel => exact ⟨j, by omega, by go_num, ⟨_, rfl, hN⟩, hB'⟩
        case measure => simp [intOf]
      · obtain rfl : m = 0 := by omega
        go_wp2_with fail
        go_ret
        exact ⟨⟨q, rfl, hCh⟩, hBk⟩

end Go.Proofs.YoebxwDoor
