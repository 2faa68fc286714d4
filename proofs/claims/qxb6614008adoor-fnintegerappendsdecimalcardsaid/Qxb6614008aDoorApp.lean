/-
  The walk of FnIntegerAppendsDecimal (function 3).
-/
import Derived.Test.Qxb6614008aDoorEnc
import Derived.Test.Qxb6614008aDoorClone
import Derived.Test.Qxb6614008aDoorDec
namespace Go.Proofs.Qxb6614008aDoor
open Go.RowKit

/-- An owned row that is not empty: its slice and its cells. -/
theorem own_row {w : World} {B n : Nat} {v : Value} {xs : List Value} (h : w.ownsRow B 5 1 v n xs) (hn : 0 < n) :
    ∃ g c, v = .slice (some ⟨g, 0, none⟩) n c ∧ B ≤ g ∧ g < w.heap.size ∧ ∀ j u, xs[j]? = some u → w.cell? ⟨g, j, none⟩ = some u := by
  have hlt := h.lt
  have hcells := @World.ownsRow.cells _ _ _ _ _ _ _ h
  rcases h.2 with ⟨-, h0⟩ | ⟨g, cap, cur, rfl, hB, hg, hnc, -⟩
  · omega
  · refine ⟨g, cap, rfl, hB, (hlt g rfl).2, fun j u hu => ?_⟩
    have := hcells (g := g) rfl j u hu
    have hadd : (⟨g, 0, none⟩ : Addr).add j = ⟨g, j, none⟩ := by unfold Addr.add; split <;> simp_all
    rwa [hadd] at this

theorem byteCells_at (l : List UInt8) (j : Nat) (hj : j < l.length) : (Lib.byteCells l)[j]? = some (.int .u8 ((l.getD j 0).toNat : Int)) := by
  simp [Lib.byteCells, hj]

/-- A row by the index is an owned row. -/
theorem own_of_rowIs {w : World} {g len : Nat} {f : Nat → Value} (h : w.rowIs g 5 len f) (hlen : len ≤ 1048576) : w.ownsRow g 5 1 (.slice (some ⟨g, 0, none⟩) len len) len ((List.range len).map f) := by
  obtain ⟨c, hb, hn, hc⟩ := h
  refine ⟨by simp, .inr ⟨g, len, c, rfl, Nat.le_refl _, hb, Nat.le_refl _, by unfold maxLen; omega, by omega, ?_⟩⟩
  rw [Nat.mul_one]
  apply List.ext_getElem?
  intro i
  by_cases hi : i < len
  · rw [List.getElem?_take, if_pos hi, List.getElem?_map, List.getElem?_range hi, Array.getElem?_toList, hc i hi]
    rfl
  · rw [List.getElem?_eq_none (by simp; omega), List.getElem?_eq_none (by simp; omega)]

set_option maxHeartbeats 400000 in
theorem app_big (a : Option Addr) (len cap : Nat) (n : Int) (h : 1048576 < len) (hm : len ≤ 9223372036854775807) (w : World) :
    Calls Tryd.prog 3 #[.slice a len cap, .int .i64 n] w fun e w' => e = .returned (.bool true) ∧ Below w.heap.size w w' := by
  go_enter Tryd.func3, Tryd.ntmps3
  go_wp2_with (go_at_call 5; refine (bytes_big a len cap n h hm _).mono ?_; rintro e w' ⟨rfl, rfl⟩)
  go_ret
  exact ⟨rfl, Below.refl _ _⟩

set_option maxHeartbeats 1000000 in
set_option maxRecDepth 100000 in
theorem app_some (a : Addr) (b off len cap : Nat) (f : Nat → Int) (n : Int) (hn0 : -9223372036854775808 ≤ n) (hn1 : n ≤ 9223372036854775807) (w : World) (hlen : len ≤ 1048576) (ha : 0 < len → a = ⟨b, off, none⟩)
    (hc : ∀ k, k < len → w.cell? ⟨b, off + k, none⟩ = some (.int .u8 (f k))) (htab : Lib.TabIs Tryd.prog w Tryd.powName .u64 Lib.pow10Tab) :
    Calls Tryd.prog 3 #[.slice (some a) len cap, .int .i64 n] w fun e w' => e = .returned (.bool true) ∧ Below w.heap.size w w' := by
  have hi : (len : Int) ≤ 1048576 := by omega
  have hT := Lib.tabBelow_of_tabIs htab
  have hl20 := Lib.itoa_length_le n hn0 hn1
  obtain ⟨l, hl⟩ : ∃ l, l = Lib.itoa n := ⟨_, rfl⟩
  have hpos : 0 < l.length := by
    rw [hl]
    exact List.length_pos_iff.2 (itoa_ne n)
  rw [← hl] at hl20
  have HL := Lib.hid hl
  clear hl
  go_enter Tryd.func3, Tryd.ntmps3
  go_wp2_with fail
  refine (bytes_small (some a) len cap n hlen w).mono ?_
  rintro e w ⟨rfl, rfl⟩
  go_wp2_with fail
  refine (clone_some a b off len cap f _ hlen ha hc).mono ?_
  rintro e w1 ⟨rfl, hR1, hB1⟩
  go_wp2_with fail
  refine (dec_any n hn0 hn1 w1).mono ?_
  rintro e w2 ⟨v2, rfl, hO2, hB2⟩
  rw [← HL.out] at hO2
  obtain ⟨g2, c2, hv2, hg2B, hg2, hcell2⟩ := own_row hO2 hpos
  subst hv2
  have hBw2 : Below w.heap.size w w2 := hB1.trans (hB2.mono hB1.size)
  go_wp2_with fail
  refine (enc_any w2.heap.size 0 n hn0 hn1 (.slice none 0 0) [] w2 (World.ownsRow_nil _ _ _ _) (Nat.le_refl _) (by omega) (Lib.tabBelow_of_tabIs (hT.on hBw2).here)).mono ?_
  rintro e w3 ⟨v3, rfl, hO3, hB3⟩
  rw [Nat.zero_add, List.nil_append, ← HL.out] at hO3
  obtain ⟨g3, c3, hv3, hg3B, hg3, hcell3⟩ := own_row hO3 hpos
  subst hv3
  have hBw3 : Below w.heap.size w w3 := hBw2.trans (hB3.mono hBw2.size)
  have hR3 : w3.rowIs w.heap.size 5 len (fun i => .int .u8 (f i)) := (hR1.of_block (hB2.block _ hR1.lt)).of_block (hB3.block _ (Nat.lt_of_lt_of_le hR1.lt hB2.size))
  go_wp2_with fail
  refine (clone_some ⟨w.heap.size, 0, none⟩ w.heap.size 0 len len f w3 hlen (fun _ => rfl) (fun k hk => by rw [Nat.zero_add]; exact hR3.cell hk)).mono ?_
  rintro e w4 ⟨rfl, hR4, hB4⟩
  go_wp2_with fail
  refine (enc_any w3.heap.size len n hn0 hn1 _ _ w4 (own_of_rowIs hR4 hlen) hB4.size (by omega) ((Lib.tabBelow_of_tabIs (hT.on hBw3).here).on hB4)).mono ?_
  rintro e w5 ⟨v5, rfl, hO5, hB5⟩
  rw [← HL.out] at hO5
  obtain ⟨g5, c5, hv5, hg5B, hg5, hcell5⟩ := own_row hO5 (by omega)
  subst hv5
  have hB35 : Below w3.heap.size w3 w5 := hB4.trans hB5
  have hx3 : ∀ k, k < l.length → w5.cell? ⟨g3, k, none⟩ = some (.int .u8 ((l.getD k 0).toNat : Int)) := fun k hk => by
    rw [hB35.cell (p := ⟨g3, k, none⟩) hg3]
    exact hcell3 k _ (byteCells_at l k hk)
  have hx2 : ∀ k, k < l.length → w5.cell? ⟨g2, k, none⟩ = some (.int .u8 ((l.getD k 0).toNat : Int)) := fun k hk => by
    rw [hB35.cell (p := ⟨g2, k, none⟩) (Nat.lt_of_lt_of_le hg2 hB3.size), hB3.cell (p := ⟨g2, k, none⟩) hg2]
    exact hcell2 k _ (byteCells_at l k hk)
  have hxb : ∀ k, k < len → w5.cell? ⟨w.heap.size, k, none⟩ = some (.int .u8 (f k)) := fun k hk => by
    rw [hB35.cell (p := ⟨w.heap.size, k, none⟩) hR3.lt]
    exact hR3.cell hk
  have hxg : ∀ k, k < len → w5.cell? ⟨g5, k, none⟩ = some (.int .u8 (f k)) := fun k hk =>
    hcell5 k _ (by rw [List.getElem?_append_left (by simp; omega), List.getElem?_map, List.getElem?_range hk]; rfl)
  have hxh : ∀ k, k < l.length → w5.cell? ⟨g5, len + k, none⟩ = some (.int .u8 ((l.getD k 0).toNat : Int)) := fun k hk =>
    hcell5 (len + k) _ (by rw [List.getElem?_append_right (by simp), List.length_map, List.length_range, Nat.add_sub_cancel_left]; exact byteCells_at l k hk)
  have hBw5 : Below w.heap.size w w5 := hBw3.trans (hB35.mono hBw3.size)
  go_wp2_with fail
  have hxw := hx2
  refine (same_any g3 g2 l.length c3 c2 (fun k => ((l.getD k 0).toNat : Int)) w5 (by omega) hx3 hx2).mono ?_
  rintro e w6 ⟨rfl, nq, rfl⟩
  have HW := Lib.hid hBw5
  clear hcell2 hcell3 hcell5 hO2 hO3 hO5 hR1 hR3 hR4 hB1 hB2 hB3 hB4 hB5 hB35 hBw2 hBw3 hBw5 hT htab hc ha hx3 hx2 hg2 hg2B hg3 hg3B hg5 hg5B
  have hl21 : (l.length : Int) ≤ 21 := by omega
  go_wp2
  go_loopw [8] (fun i wr => ∃ k nr : Nat, k ≤ len ∧ i = .int .i64 k ∧ wr = w5.drewN nr) (fun i _ => len - (intOf i).toNat)
  case atStart => exact ⟨0, _, Nat.zero_le _, rfl, rfl⟩
  case round =>
    obtain ⟨k, nr, hk, rfl, rfl⟩ := hrel
    by_cases hlt : k < len
    · have hk1 := hxg k hlt
      have hk2 := hxb k hlt
      have hlt' : (k : Int) < (len : Int) := by omega
      have hlt2 : (k : Int) < (len : Int) + (l.length : Int) := by omega
      generalize f k = x at hk1 hk2
      clear hxg hxb hxh hxw
      go_wp2
      go_quiet (fail)
      go_wp2
      go_roundw
      case rel => exact ⟨k + 1, _, by omega, by go_num, rfl⟩
      case measure => simp [intOf]; omega
    · obtain rfl : k = len := by omega
      clear hxg hxb
      go_wp2
      go_loopw [9] (fun i wr => ∃ k nr : Nat, k ≤ l.length ∧ i = .int .i64 k ∧ wr = w5.drewN nr) (fun i _ => l.length - (intOf i).toNat)
      case atStart => exact ⟨0, _, Nat.zero_le _, rfl, rfl⟩
      case round =>
        obtain ⟨j, nr, hj, rfl, rfl⟩ := hrel
        by_cases hlt : j < l.length
        · have hk1 := hxh j hlt
          have hk2 := hxw j hlt
          have hlt' : (j : Int) < (l.length : Int) := by omega
          have hlt2 : (k : Int) + (j : Int) < (k : Int) + (l.length : Int) := by omega
          generalize ((l.getD j 0).toNat : Int) = x at hk1 hk2
          clear hxh hxw
          go_wp2
          go_quiet (fail)
          go_wp2
          go_roundw
          case rel => exact ⟨j + 1, _, by omega, by go_num, rfl⟩
          case measure => simp [intOf]; omega
        · obtain rfl : j = l.length := by omega
          clear hxh hxw
          go_wp2
          go_ret
          exact ⟨rfl, below_drewN HW.out _⟩

set_option maxHeartbeats 1000000 in
set_option maxRecDepth 100000 in
theorem app_nil (n : Int) (hn0 : -9223372036854775808 ≤ n) (hn1 : n ≤ 9223372036854775807) (w : World) (htab : Lib.TabIs Tryd.prog w Tryd.powName .u64 Lib.pow10Tab) :
    Calls Tryd.prog 3 #[.slice none 0 0, .int .i64 n] w fun e w' => e = .returned (.bool true) ∧ Below w.heap.size w w' := by
  have hT := Lib.tabBelow_of_tabIs htab
  have hl20 := Lib.itoa_length_le n hn0 hn1
  obtain ⟨l, hl⟩ : ∃ l, l = Lib.itoa n := ⟨_, rfl⟩
  have hpos : 0 < l.length := by
    rw [hl]
    exact List.length_pos_iff.2 (itoa_ne n)
  rw [← hl] at hl20
  have HL := Lib.hid hl
  clear hl
  go_enter Tryd.func3, Tryd.ntmps3
  go_wp2_with fail
  refine (bytes_small none 0 0 n (by omega) w).mono ?_
  rintro e w ⟨rfl, rfl⟩
  go_wp2_with fail
  refine (clone_nil _).mono ?_
  rintro e w ⟨rfl, rfl⟩
  go_wp2_with fail
  refine (dec_any n hn0 hn1 w).mono ?_
  rintro e w2 ⟨v2, rfl, hO2, hBw2⟩
  rw [← HL.out] at hO2
  obtain ⟨g2, c2, hv2, hg2B, hg2, hcell2⟩ := own_row hO2 hpos
  subst hv2
  go_wp2_with fail
  refine (enc_any w2.heap.size 0 n hn0 hn1 (.slice none 0 0) [] w2 (World.ownsRow_nil _ _ _ _) (Nat.le_refl _) (by omega) (Lib.tabBelow_of_tabIs (hT.on hBw2).here)).mono ?_
  rintro e w3 ⟨v3, rfl, hO3, hB3⟩
  rw [Nat.zero_add, List.nil_append, ← HL.out] at hO3
  obtain ⟨g3, c3, hv3, hg3B, hg3, hcell3⟩ := own_row hO3 hpos
  subst hv3
  have hBw3 : Below w.heap.size w w3 := hBw2.trans (hB3.mono hBw2.size)
  go_wp2_with fail
  refine (clone_nil _).mono ?_
  rintro e w4 ⟨rfl, hw4⟩
  subst hw4
  go_wp2_with fail
  refine (enc_any w4.heap.size 0 n hn0 hn1 (.slice none 0 0) [] w4 (World.ownsRow_nil _ _ _ _) (Nat.le_refl _) (by omega) (Lib.tabBelow_of_tabIs (hT.on hBw3).here)).mono ?_
  rintro e w5 ⟨v5, rfl, hO5, hB35⟩
  rw [Nat.zero_add, List.nil_append, ← HL.out] at hO5
  obtain ⟨g5, c5, hv5, hg5B, hg5, hcell5⟩ := own_row hO5 hpos
  subst hv5
  have hx3 : ∀ k, k < l.length → w5.cell? ⟨g3, k, none⟩ = some (.int .u8 ((l.getD k 0).toNat : Int)) := fun k hk => by
    rw [hB35.cell (p := ⟨g3, k, none⟩) hg3]
    exact hcell3 k _ (byteCells_at l k hk)
  have hx2 : ∀ k, k < l.length → w5.cell? ⟨g2, k, none⟩ = some (.int .u8 ((l.getD k 0).toNat : Int)) := fun k hk => by
    rw [hB35.cell (p := ⟨g2, k, none⟩) (Nat.lt_of_lt_of_le hg2 hB3.size), hB3.cell (p := ⟨g2, k, none⟩) hg2]
    exact hcell2 k _ (byteCells_at l k hk)
  have hxh : ∀ k, k < l.length → w5.cell? ⟨g5, k, none⟩ = some (.int .u8 ((l.getD k 0).toNat : Int)) := fun k hk =>
    hcell5 k _ (byteCells_at l k hk)
  have hBw5 : Below w.heap.size w w5 := hBw3.trans (hB35.mono hBw3.size)
  go_wp2_with fail
  have hxw := hx2
  refine (same_any g3 g2 l.length c3 c2 (fun k => ((l.getD k 0).toNat : Int)) w5 (by omega) hx3 hx2).mono ?_
  rintro e w6 ⟨rfl, nq, rfl⟩
  have HW := Lib.hid hBw5
  clear hcell2 hcell3 hcell5 hO2 hO3 hO5 hB3 hB35 hBw2 hBw3 hBw5 hT htab hx3 hx2 hg2 hg2B hg3 hg3B hg5 hg5B
  have hl21 : (l.length : Int) ≤ 21 := by omega
  go_wp2
  go_loopw [8] (fun i wr => ∃ nr : Nat, i = .int .i64 0 ∧ wr = w5.drewN nr) (fun _ _ => 0)
  case atStart => exact ⟨_, rfl, rfl⟩
  case round =>
      obtain ⟨nr, rfl, rfl⟩ := hrel
      go_wp2
      go_loopw [9] (fun i wr => ∃ k nr : Nat, k ≤ l.length ∧ i = .int .i64 k ∧ wr = w5.drewN nr) (fun i _ => l.length - (intOf i).toNat)
      case atStart => exact ⟨0, _, Nat.zero_le _, rfl, rfl⟩
      case round =>
        obtain ⟨j, nr, hj, rfl, rfl⟩ := hrel
        by_cases hlt : j < l.length
        · have hk1 := hxh j hlt
          have hk2 := hxw j hlt
          have hlt' : (j : Int) < (l.length : Int) := by omega
          generalize ((l.getD j 0).toNat : Int) = x at hk1 hk2
          clear hxh hxw
          go_wp2
          go_quiet (fail)
          go_wp2
          go_roundw
          case rel => exact ⟨j + 1, _, by omega, by go_num, rfl⟩
          case measure => simp [intOf]; omega
        · obtain rfl : j = l.length := by omega
          clear hxh hxw
          go_wp2
          go_ret
          exact ⟨rfl, below_drewN HW.out _⟩

end Go.Proofs.Qxb6614008aDoor
