/-
  zzChainModel (8): the flat text.
-/
import Derived.Test.YoebxwDoorCopy
import Derived.Lib.AppendStr
namespace Go.Proofs.YoebxwDoor
open Go.RowKit

/-- Bytes as cells. -/
def byteVals (l : List UInt8) : List Value := l.map fun b => Value.int .u8 b.toNat
theorem byteVals_length (l : List UInt8) : (byteVals l).length = l.length := by simp [byteVals]

/-- The slice v owns the bytes l. -/
def Out (w : World) (B : Nat) (v : Value) (l : List UInt8) : Prop := w.ownsRow B 5 1 v l.length (byteVals l)

theorem Out.one {w : World} {B : Nat} {v : Value} {l : List UInt8} (c : UInt8) (h : w.ownsRow B 5 1 v (l.length + 1) (byteVals l ++ [.int .u8 c.toNat])) : Out w B v (l ++ [c]) := by
  unfold Out
  rw [List.length_append]
  simpa [byteVals] using h

theorem Out.str {w : World} {B : Nat} {v : Value} {l : List UInt8} (s : ByteArray) (h : w.ownsRow B 5 1 v (l.length + s.size) (byteVals l ++ Lib.strCells s)) : Out w B v (l ++ s.data.toList) := by
  unfold Out
  rw [List.length_append, Array.length_toList]
  simpa [byteVals, Lib.strCells] using h

theorem Out.own {w : World} {B : Nat} {v : Value} {l : List UInt8} (h : Out w B v l) : ∀ k, v.ownBlock = some k → B ≤ k := fun k hk => (World.ownsRow.lt h k hk).1

theorem data_length (s : ByteArray) : s.data.toList.length = s.size := by rw [Array.length_toList]; rfl

/-- What is owned and is not empty has an address, and 'string(v)' is its bytes. -/
theorem Out.text {w : World} {B : Nat} {v : Value} {l : List UInt8} (h : Out w B v l) (hl : 1 ≤ l.length) :
    ∃ g cap, v = .slice (some ⟨g, 0, none⟩) l.length cap ∧ (convert 22 9 (.slice (some ⟨g, 0, none⟩) l.length cap)).run Ebxg.prog w = .ok (.string ⟨l.toArray⟩) w := by
  have h' : w.ownsRow B 5 1 v l.length (byteVals l) := h
  rcases h'.2 with ⟨_, h0⟩ | ⟨g, cap, cur, rfl, _⟩
  · omega
  · refine ⟨g, cap, rfl, run_convert_bytes_back w 22 9 5 ⟨g, 0, none⟩ cap l Ebxg.underlying22 Ebxg.underlying5 Ebxg.underlying9 fun j hj => ?_⟩
    rw [Addr.add_lit, Nat.zero_add, h'.cellAt j (by omega)]
    simp [byteVals, hj]

theorem one_u8 (c : Int) : ∀ u ∈ [Value.int .u8 c], u.oneCell' = true := by
  intro u hu
  simp at hu
  subst hu
  rfl

set_option maxHeartbeats 400000 in
theorem model_any (B : Nat) (z : List Int) (leaf : ByteArray) (w : World) (hz : z.length ≤ 4096) (hz1 : 1 ≤ z.length) (hl : leaf.size ≤ 4096) (hR : Row w B 0 z) (hB : B < w.heap.size) (hu : ∀ x ∈ z, 0 ≤ x ∧ x ≤ 255) :
    Calls Ebxg.prog 8 #[.slice (some ⟨B, 0, none⟩) z.length z.length, .string leaf] w fun e w' =>
      e = .returned (.string ⟨(flat leaf.data.toList z).toArray⟩) ∧ Below w.heap.size w w' := by
  obtain ⟨i0, hi, hz0, hzs, hz2⟩ := info_parts info5
  go_enter Ebxg.func8, Ebxg.ntmps8
  go_wp2_with (at_make; refine wpList_make_own _ rfl (.const (.int .i64 0)) (.tmp 13) 22 rfl w.heap.size 5 i0 (.int .u8 0) 1 Ebxg.underlying22 hi hz0 hzs _ _ _ (3 * z.length + leaf.size) rfl rfl ?c0 ?c1 ?c2 (Nat.le_refl _) ?_)
  case c0 => omega
  case c1 => rw [hz2]; omega
  case c2 => unfold maxLen; omega
  intro w1 hown hgrow
  have hO : Out w1 w.heap.size (.slice (some ⟨w.heap.size, 0, none⟩) 0 (3 * z.length + leaf.size)) (heads (z.take 0)) := hown
  have hBl : Below w.heap.size w w1 := (Below.refl _ _).grown hgrow (Nat.le_refl _) (fun k hk => by cases hk)
  clear hown hgrow
  go_wp2_with fail
  go_loopw [5, 6] (fun v i wr => ∃ k : Nat, k ≤ z.length ∧ i = .int .i64 k ∧ Out wr w.heap.size v (heads (z.take k)) ∧ Below w.heap.size w wr) (fun _ i _ => z.length - (intOf i).toNat)
  case atStart => exact ⟨0, Nat.zero_le _, rfl, hO, hBl⟩
  case round =>
    obtain ⟨k, hk, rfl, hOk, hBk⟩ := hrel
    clear hO hBl
    have hlen : (heads (z.take k)).length ≤ 8192 := by rw [heads_length, List.length_take]; omega
    by_cases hlt : k < z.length
    · go_wp2_with (at_builtin; refine wpList_append_own _ rfl (.tmp 21) (.tmp 22) 22 rfl w.heap.size 5 i0 (.int .u8 0) 1 1 Ebxg.underlying22 hi hz0 hzs hz2 rfl (by decide) _ _ _ rfl (World.ownsRow.alloc hOk _) ⟨wr.heap.size, 0, none⟩ 1 1 [.int .u8 40] rfl rfl (cell_one_new _ _ _) (one_u8 40) ?d1 ?d2 ?d3 ?_)
      case d1 => unfold maxLen; omega
      case d2 => omega
      case d3 => have := hBk.size; simp; omega
      intro v1 w1 hown1 hgrow1 _
      have hO1 : Out w1 w.heap.size v1 (heads (z.take k) ++ [40]) := Out.one 40 hown1
      have hB1 : Below w.heap.size w w1 := (hBk.alloc hBk.size _).grown hgrow1 (by have := hBk.size; simp; omega) hOk.own
      obtain ⟨y, hy⟩ : ∃ y, y = z.getD k 0 := ⟨_, rfl⟩
      have hcy : w1.cell? ⟨B, k, none⟩ = some (.int .u8 y) := (hB1.cell (by exact hB)).trans (by rw [hy]; simpa using hR k hlt)
      have hbd : 0 ≤ y ∧ y ≤ 255 := by rw [hy]; exact hu _ (by simp [hlt])
      have HY : Hid (heads (z.take (k + 1)) = (heads (z.take k) ++ [40]) ++ (⟨#[symOf y]⟩ : ByteArray).data.toList) := by
        have e : z.take (k + 1) = z.take k ++ [y] := by rw [List.take_succ_eq_append_getElem hlt, show z[k] = y by rw [hy]; simp [hlt]]
        show _ = _
        rw [e, heads_append]
        simp [heads]
      clear hown1 hgrow1 hOk hBk hy
      have hl1 : (heads (z.take k) ++ [40]).length ≤ 8193 := by simp; omega
      have hsz := hB1.size
      obtain ⟨l1, hl1e⟩ : ∃ l1, l1 = heads (z.take k) ++ [40] := ⟨_, rfl⟩
      rw [← hl1e] at hO1 hl1 HY
      clear hl1e hlen hR hu
      go_wp2_with (first | (go_at_call 12; refine (opSym_any _ hbd.1 hbd.2 _).mono ?_; rintro e w' ⟨rfl, rfl⟩) | (at_builtin; refine Lib.wpList_append_own_string _ rfl (.tmp 24) (.tmp 29) 22 9 rfl w.heap.size 5 i0 Ebxg.underlying22 Ebxg.underlying9 hi hz0 hzs hz2 _ _ _ rfl hO1 ⟨#[symOf y]⟩ rfl ?f1 ?f2 ?f3 ?_))
      case f1 => unfold maxLen; show l1.length + 1 ≤ _; omega
      case f2 => show l1.length + 1 ≤ _; omega
      case f3 => exact hsz
      intro v2 w2 hown2 hgrow2 _
      have hO2 : Out w2 w.heap.size v2 (heads (z.take (k + 1))) := by rw [HY.out]; exact Out.str _ hown2
      have hB2 : Below w.heap.size w w2 := hB1.grown hgrow2 hsz hO1.own
      clear hown2 hgrow2 hO1 hB1 HY
      go_wp2_with fail
      go_roundw
      case rel => exact ⟨k + 1, by omega, by go_num, hO2, hB2⟩
      case measure => simp [intOf]; omega
    · obtain rfl : k = z.length := by omega
      rw [List.take_length] at hOk
      have hh : (heads z).length ≤ 8192 := by rw [heads_length]; omega
      have hsz := hBk.size
      have hhd : (heads z).length = 2 * z.length := heads_length z
      have HH : Hid ((heads z).length = 2 * z.length) := hhd
      clear hhd hlen
      go_wp2_with (at_builtin; refine Lib.wpList_append_own_string _ rfl (.tmp 31) (.tmp 32) 22 9 rfl w.heap.size 5 i0 Ebxg.underlying22 Ebxg.underlying9 hi hz0 hzs hz2 _ _ _ rfl hOk leaf rfl ?g1 ?g2 ?g3 ?_)
      case g1 => unfold maxLen; omega
      case g2 => omega
      case g3 => exact hsz
      intro v1 w1 hown1 hgrow1 _
      have hO1 : Out w1 w.heap.size v1 ((heads z ++ leaf.data.toList) ++ List.replicate 0 41) := by rw [List.replicate_zero, List.append_nil]; exact Out.str _ hown1
      have hB1 : Below w.heap.size w w1 := hBk.grown hgrow1 hsz hOk.own
      have hl1 : (heads z ++ leaf.data.toList).length ≤ 16384 := by rw [List.length_append, data_length]; omega
      have hp1 : 1 ≤ (heads z ++ leaf.data.toList).length := by rw [List.length_append, HH.out]; omega
      obtain ⟨l1, hl1e⟩ : ∃ l1, l1 = heads z ++ leaf.data.toList := ⟨_, rfl⟩
      have HF : Hid (flat leaf.data.toList z = l1 ++ List.replicate z.length 41) := by rw [hl1e]; exact rfl
      rw [← hl1e] at hO1 hl1 hp1
      clear hl1e HH hown1 hgrow1 hOk hBk hsz hh
      go_wp2_with fail
      go_loopw [5, 7] (fun v i wr => ∃ k : Nat, k ≤ z.length ∧ i = .int .i64 k ∧ Out wr w.heap.size v (l1 ++ List.replicate k 41) ∧ Below w.heap.size w wr) (fun _ i _ => z.length - (intOf i).toNat)
      case atStart => exact ⟨0, Nat.zero_le _, rfl, hO1, hB1⟩
      case round =>
        obtain ⟨k, hk, rfl, hOk, hBk⟩ := hrel
        clear hO1 hB1
        have hl2 : (l1 ++ List.replicate k 41).length ≤ 20480 := by rw [List.length_append, List.length_replicate]; omega
        have hp2 : 1 ≤ (l1 ++ List.replicate k 41).length := by rw [List.length_append]; omega
        have hsz := hBk.size
        by_cases hlt : k < z.length
        · have HK : Hid (l1 ++ List.replicate (k + 1) 41 = (l1 ++ List.replicate k 41) ++ [41]) := by
            show _ = _
            rw [List.replicate_succ', List.append_assoc]
          obtain ⟨l2, hl2e⟩ : ∃ l2, l2 = l1 ++ List.replicate k (41 : UInt8) := ⟨_, rfl⟩
          rw [← hl2e] at hOk hl2 hp2 HK
          clear hl2e hl1 hp1
          go_wp2_with (at_builtin; refine wpList_append_own _ rfl (.tmp 40) (.tmp 41) 22 rfl w.heap.size 5 i0 (.int .u8 0) 1 1 Ebxg.underlying22 hi hz0 hzs hz2 rfl (by decide) _ _ _ rfl (World.ownsRow.alloc hOk _) ⟨wr.heap.size, 0, none⟩ 1 1 [.int .u8 41] rfl rfl (cell_one_new _ _ _) (one_u8 41) ?k1 ?k2 ?k3 ?_)
          case k1 => unfold maxLen; omega
          case k2 => omega
          case k3 => simp; omega
          intro v1 w1 hown1 hgrow1 _
          have hO1 : Out w1 w.heap.size v1 (l1 ++ List.replicate (k + 1) 41) := by rw [HK.out]; exact Out.one 41 hown1
          have hB1 : Below w.heap.size w w1 := (hBk.alloc hBk.size _).grown hgrow1 (by simp; omega) hOk.own
          clear hown1 hgrow1 hOk hBk hsz HK
          go_wp2_with fail
          go_roundw
          case rel => exact ⟨k + 1, by omega, by go_num, hO1, hB1⟩
          case measure => simp [intOf]; omega
        · obtain rfl : k = z.length := by omega
          rw [← HF.out] at hOk hl2 hp2
          obtain ⟨g, cap, hv, hcv⟩ := hOk.text hp2
          subst hv
          clear hOk hl1 hp1
          go_wp2_with fail
          go_ret
          exact ⟨rfl, hBk⟩

end Go.Proofs.YoebxwDoor
