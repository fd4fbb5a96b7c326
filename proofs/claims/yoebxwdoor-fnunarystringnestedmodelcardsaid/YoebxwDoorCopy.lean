/-
  zzCopyBytes (5): a fresh copy of a slice of bytes that is not empty.
-/
import Derived.Test.YoebxwDoorText
namespace Go.Proofs.YoebxwDoor
open Go.RowKit

theorem info5 : (Ebxg.prog.info? 5).map (fun i => (i.zero, i.size, i.bytes)) = some (some (.int .u8 0), 1, 1) := by kernel_rfl

/-- The bytes z lie from address a on. -/
def Row (w : World) (b off : Nat) (z : List Int) : Prop := ∀ k, k < z.length → w.cell? ⟨b, off + k, none⟩ = some (.int .u8 (z.getD k 0))

/-- What has been copied so far: the first k bytes. -/
def Part (w : World) (B n : Nat) (z : List Int) (k : Nat) : Prop :=
  ∃ xs, w.ownsRow B 5 1 (.slice (some ⟨B, 0, none⟩) n n) n xs ∧ ∀ j, j < k → xs[j]? = some (.int .u8 (z.getD j 0))

theorem Part.step {w : World} {B n : Nat} {z : List Int} {k : Nat} (h : Part w B n z k) (hk : k < n) : Part (w.setCell ⟨B, k, none⟩ (.int .u8 (z.getD k 0))) B n z (k + 1) := by
  obtain ⟨xs, ho, hx⟩ := h
  have hl : xs.length = n := by simpa using ho.1
  refine ⟨_, (ho.stored k _).1, fun j hj => ?_⟩
  by_cases e : j = k
  · subst e; simp [hl, hk]
  · rw [List.getElem?_set_ne (by omega)]; exact hx j (by omega)

theorem Part.row {w : World} {B : Nat} {z : List Int} (h : Part w B z.length z z.length) : Row w B 0 z := by
  obtain ⟨xs, ho, hx⟩ := h
  intro k hk
  rw [Nat.zero_add, ho.cellAt k (by omega)]
  exact hx k hk

theorem Part.cell {w : World} {B n : Nat} {z : List Int} {k : Nat} (h : Part w B n z k) (hk : k < n) : ∃ v, w.cell? ⟨B, k, none⟩ = some v := by
  obtain ⟨xs, ho, _⟩ := h
  have hl : xs.length = n := by simpa using ho.1
  exact ⟨xs[k]'(by omega), by rw [ho.cellAt k (by omega), List.getElem?_eq_getElem]⟩

theorem Part.free {w : World} {B n : Nat} {z : List Int} {k : Nat} (h : Part w B n z k) (j : Nat) : w.frozen? ⟨B, j, none⟩ = false := by
  obtain ⟨xs, ho, _⟩ := h
  exact ho.frozenAt j

set_option maxHeartbeats 400000 in
theorem copy_any (b off cap : Nat) (z : List Int) (w : World) (hz : z.length ≤ 4096) (hR : Row w b off z) (hb : b < w.heap.size) :
    Calls Ebxg.prog 5 #[.slice (some ⟨b, off, none⟩) z.length cap] w fun e w' =>
      e = .returned (.slice (some ⟨w.heap.size, 0, none⟩) z.length z.length) ∧ Row w' w.heap.size 0 z ∧ Below w.heap.size w w' := by
  obtain ⟨i0, hi, hz0, hz1, hz2⟩ := info_parts info5
  have hnil := fun (w : World) => Lib.run_eql_slice_nil (P := Ebxg.prog) w 22 5 (some ⟨b, off, none⟩) z.length cap 0 0 Ebxg.underlying22
  go_enter Ebxg.func5, Ebxg.ntmps5
  go_wp2_with (at_make; refine wpList_make_full _ rfl (.tmp 8) (.tmp 8) 22 rfl w.heap.size 5 i0 (.int .u8 0) 1 Ebxg.underlying22 hi hz0 hz1 _ _ _ _ z.length rfl rfl rfl rfl ?c1 ?c2 (Nat.le_refl _) ?_)
  case c1 => rw [hz2]; omega
  case c2 => unfold maxLen; omega
  intro w1 hown hgrow
  have hP : Part w1 w.heap.size z.length z 0 := ⟨_, hown, fun j hj => absurd hj (by omega)⟩
  have hB : Below w.heap.size w w1 := (Below.refl _ _).grown hgrow (Nat.le_refl _) (fun k hk => by cases hk)
  clear hown hgrow hnil
  go_wp2
  go_loopw [4] (fun i wr => ∃ k : Nat, k ≤ z.length ∧ i = .int .i64 k ∧ Part wr w.heap.size z.length z k ∧ Below w.heap.size w wr) (fun i _ => z.length - (intOf i).toNat)
  case atStart => exact ⟨0, Nat.zero_le _, rfl, hP, hB⟩
  case round =>
    obtain ⟨k, hk, rfl, hPk, hBk⟩ := hrel
    clear hP hB
    by_cases hlt : k < z.length
    · have hc : wr.cell? ⟨b, off + k, none⟩ = some (.int .u8 (z.getD k 0)) := (hBk.cell (by exact hb)).trans (hR k hlt)
      have hfr := hPk.free k
      obtain ⟨v0, hv0⟩ := hPk.cell hlt
      have hS := hPk.step hlt
      have hB' : Below w.heap.size w (wr.setCell ⟨w.heap.size, k, none⟩ (.int .u8 (z.getD k 0))) := hBk.setCell (Nat.le_refl _) _
      rw [show z.getD k 0 = z[k] from by simp [hlt]] at hc hS hB'
      go_wp2
      go_roundw
      case rel => exact ⟨k + 1, by omega, by go_num, hS, hB'⟩
      case measure => simp [intOf]; omega
    · obtain rfl : k = z.length := by omega
      go_wp2
      go_ret
      exact ⟨rfl, hPk.row, hBk⟩

end Go.Proofs.YoebxwDoor
