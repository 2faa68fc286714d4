/-
  The walk of FnIntegerLastDigit (function 4).
-/
import Derived.Test.Qxb6614008aDoorEnc
import Derived.Test.Qxb6614008aDoorPlain
import Derived.WalkLawsBesides
import Derived.BigQuiet
import Derived.Deep.QuietTactic
namespace Go.Proofs.Qxb6614008aDoor
open Go.RowKit

/-- An owned row that is not empty: its slice and its cells. -/
theorem own_cells {w : World} {B n : Nat} {v : Value} {l : List UInt8} (h : w.ownsRow B 5 1 v n (Lib.byteCells l)) (hl : l ≠ []) :
    ∃ g c, v = .slice (some ⟨g, 0, none⟩) l.length c ∧ l.length ≤ c ∧ B ≤ g ∧ g < w.heap.size ∧ ∀ j (hj : j < l.length), w.cell? ⟨g, j, none⟩ = some (.int .u8 (l[j].toNat : Int)) := by
  have hn : n = l.length := by have := h.1; rw [Lib.byteCells_length] at this; omega
  subst hn
  have hpos : 0 < l.length := List.length_pos_iff.2 hl
  have hlt := h.lt
  have hcells := @World.ownsRow.cells _ _ _ _ _ _ _ h
  rcases h.2 with ⟨-, h0⟩ | ⟨g, cap, cur, rfl, hB, hg, hnc, -⟩
  · omega
  · refine ⟨g, cap, rfl, hnc, hB, (hlt g rfl).2, fun j hj => ?_⟩
    have := hcells (g := g) rfl j (.int .u8 (l[j].toNat : Int)) (by simp [Lib.byteCells, hj])
    have hadd : (⟨g, 0, none⟩ : Addr).add j = ⟨g, j, none⟩ := by unfold Addr.add; split <;> simp_all
    rwa [hadd] at this

set_option maxHeartbeats 400000 in
set_option maxRecDepth 100000 in
theorem last_small (n : Int) (hn0 : 0 ≤ n) (hn1 : n < 10) (w : World) (htab : Lib.TabIs Tryd.prog w Tryd.powName .u64 Lib.pow10Tab) :
    Calls Tryd.prog 4 #[.int .i64 n] w fun e w' => e = .returned (.bool true) ∧ Below w.heap.size w w' := by
  go_enter Tryd.func4, Tryd.ntmps4
  go_wp2_with fail
  refine (enc_any w.heap.size 0 n (by omega) (by omega) (.slice none 0 0) [] w (World.ownsRow_nil _ _ _ _) (Nat.le_refl _) (by omega) (Lib.tabBelow_of_tabIs htab)).mono ?_
  rintro e w1 ⟨v1, rfl, hown1, hnx1⟩
  rw [Nat.zero_add, List.nil_append, itoa_small hn0 hn1] at hown1
  obtain ⟨g, c, hv, hc, hB, hgs, hcell⟩ := own_cells hown1 (by simp)
  subst hv
  have hc0 : w1.cell? ⟨g, 0, none⟩ = some (.int .u8 (48 + n)) := by
    have := hcell 0 (by simp)
    rw [this]
    simp only [List.getElem_cons_zero, dig_toNat (show n.toNat < 10 by omega)]
    congr 2
    omega
  have hc1 : 1 ≤ c := hc
  clear hcell hown1 htab hc
  go_wp2
  go_ret
  exact ⟨by rw [show n % 10 = n by omega]; simp, hnx1⟩

set_option maxHeartbeats 400000 in
set_option maxRecDepth 100000 in
theorem last_small_neg (n : Int) (hn0 : n < 0) (hn1 : -10 < n) (w : World) (htab : Lib.TabIs Tryd.prog w Tryd.powName .u64 Lib.pow10Tab) :
    Calls Tryd.prog 4 #[.int .i64 n] w fun e w' => e = .returned (.bool true) ∧ Below w.heap.size w w' := by
  have htm : n.tmod 10 = n := by rw [tmod_ten (by omega)]; omega
  have hnx : n < 10 := by omega
  go_enter Tryd.func4, Tryd.ntmps4
  go_wp2_with fail
  refine (enc_any w.heap.size 0 n (by omega) (by omega) (.slice none 0 0) [] w (World.ownsRow_nil _ _ _ _) (Nat.le_refl _) (by omega) (Lib.tabBelow_of_tabIs htab)).mono ?_
  rintro e w1 ⟨v1, rfl, hown1, hnx1⟩
  rw [Nat.zero_add, List.nil_append, itoa_small_neg hn0 hn1] at hown1
  obtain ⟨g, c, hv, hc, hB, hgs, hcell⟩ := own_cells hown1 (by simp)
  subst hv
  have hc0 : w1.cell? ⟨g, 0, none⟩ = some (.int .u8 45) := hcell 0 (by simp)
  have hc1 : w1.cell? ⟨g, 1, none⟩ = some (.int .u8 (48 + -n)) := by
    have := hcell 1 (by simp)
    rw [this]
    simp only [List.getElem_cons_succ, List.getElem_cons_zero, dig_toNat (show n.natAbs < 10 by omega)]
    congr 2
    omega
  have hc2 : 2 ≤ c := hc
  clear hcell hown1 htab hc
  go_wp2
  go_ret
  exact ⟨by simp, hnx1⟩

set_option maxHeartbeats 400000 in
set_option maxRecDepth 100000 in
theorem last_big (n : Int) (hn0 : 10 ≤ n) (hn1 : n ≤ 9223372036854775807) (w : World) (htab : Lib.TabIs Tryd.prog w Tryd.powName .u64 Lib.pow10Tab) :
    Calls Tryd.prog 4 #[.int .i64 n] w fun e w' => e = .returned (.bool true) ∧ Below w.heap.size w w' := by
  have hT := Lib.tabBelow_of_tabIs htab
  go_enter Tryd.func4, Tryd.ntmps4
  go_wp2_with fail
  refine (enc_any w.heap.size 0 n (by omega) (by omega) (.slice none 0 0) [] w (World.ownsRow_nil _ _ _ _) (Nat.le_refl _) (by omega) hT).mono ?_
  rintro e w1 ⟨v1, rfl, hown1, hnx1⟩
  rw [Nat.zero_add, List.nil_append, itoa_last_pos hn0] at hown1
  have hlen := Lib.itoa_length_le (n / 10) (by omega) (by omega)
  obtain ⟨l, hl⟩ : ∃ l, l = Lib.itoa (n / 10) := ⟨_, rfl⟩
  rw [← hl] at hown1 hlen
  have HL := Lib.hid hl
  clear hl
  obtain ⟨g, c, hv, hc, hB, hgs, hcell⟩ := own_cells hown1 (by simp)
  rw [List.length_append, List.length_singleton] at hv hc
  subst hv
  have hpos : 0 < l.length := by
    by_cases h : l.length = 0
    · have h2 := HL.out
      have h3 : l = [] := List.eq_nil_of_length_eq_zero h
      rw [h3] at h2
      exact absurd h2.symm (itoa_ne _)
    · omega
  go_wp2_with fail
  refine (enc_any w1.heap.size 0 (n / 10) (by omega) (by omega) (.slice none 0 0) [] w1 (World.ownsRow_nil _ _ _ _) (Nat.le_refl _) (by omega) (Lib.tabBelow_of_tabIs (hT.on hnx1).here)).mono ?_
  rintro e w2 ⟨v2, rfl, hown2, hnx2⟩
  rw [Nat.zero_add, List.nil_append, ← HL.out] at hown2
  obtain ⟨g2, c2, hv2, hc2, hB2, hgs2, hcell2⟩ := own_cells hown2 (by intro h; rw [h] at hpos; simp at hpos)
  subst hv2
  have hcell1 : ∀ j (hj : j < l.length), w2.cell? ⟨g, j, none⟩ = some (.int .u8 (l[j].toNat : Int)) := fun j hj => by
    rw [hnx2.cell (p := ⟨g, j, none⟩) hgs, hcell j (by simp; omega), List.getElem_append_left hj]
  have hlast : w2.cell? ⟨g, l.length, none⟩ = some (.int .u8 (48 + n % 10)) := by
    rw [hnx2.cell (p := ⟨g, l.length, none⟩) hgs, hcell l.length (by simp), List.getElem_concat_length rfl, dig_toNat (by omega)]
    congr 2
    omega
  clear hcell hown1 hown2
  have hlI : (l.length : Int) ≤ 21 := by omega
  go_wp2
  go_loopw [7] (fun i wr => ∃ k nq : Nat, k ≤ l.length ∧ i = .int .i64 k ∧ wr = w2.drewN nq) (fun i _ => l.length - (intOf i).toNat)
  case atStart => exact ⟨0, 0, Nat.zero_le _, rfl, rfl⟩
  case round =>
    obtain ⟨k, nq, hk, rfl, rfl⟩ := hrel
    by_cases hlt : k < l.length
    · have hk1 := hcell1 k hlt
      have hk2 := hcell2 k hlt
      have hlt' : (k : Int) < (l.length : Int) := by omega
      have hlt2 : (k : Int) < (l.length : Int) + 1 := by omega
      generalize (l[k].toNat : Int) = x at hk1 hk2
      clear hcell1 hcell2
      go_wp2
      go_quiet (fail)
      go_wp2
      go_roundw
      case rel => exact ⟨k + 1, _, by omega, by go_num, rfl⟩
      case measure => simp [intOf]; omega
    · obtain rfl : k = l.length := by omega
      go_wp2
      go_ret
      exact ⟨by simp, below_drewN (hnx1.trans (hnx2.mono hnx1.size)) _⟩

set_option maxHeartbeats 400000 in
set_option maxRecDepth 100000 in
theorem last_neg_r (n q r : Int) (hn0 : n ≤ -10) (hn1 : -9223372036854775808 ≤ n) (hq0 : 1 ≤ q) (hq1 : q ≤ 922337203685477580) (hr0 : 1 ≤ r) (hr1 : r ≤ 9) (htm : n.tmod 10 = -r) (htd : n.tdiv 10 = -q) (HI : Hid (Lib.itoa n = Lib.itoa (-q) ++ [UInt8.ofNat (48 + r.toNat)])) (w : World) (htab : Lib.TabIs Tryd.prog w Tryd.powName .u64 Lib.pow10Tab) :
    Calls Tryd.prog 4 #[.int .i64 n] w fun e w' => e = .returned (.bool true) ∧ Below w.heap.size w w' := by
  have hT := Lib.tabBelow_of_tabIs htab
  go_enter Tryd.func4, Tryd.ntmps4
  go_wp2_with fail
  refine (enc_any w.heap.size 0 n (by omega) (by omega) (.slice none 0 0) [] w (World.ownsRow_nil _ _ _ _) (Nat.le_refl _) (by omega) hT).mono ?_
  rintro e w1 ⟨v1, rfl, hown1, hnx1⟩
  rw [Nat.zero_add, List.nil_append, HI.out] at hown1
  have hlen := Lib.itoa_length_le (-q) (by omega) (by omega)
  obtain ⟨l, hl⟩ : ∃ l, l = Lib.itoa (-q) := ⟨_, rfl⟩
  rw [← hl] at hown1 hlen
  have HL := Lib.hid hl
  clear hl
  obtain ⟨g, c, hv, hc, hB, hgs, hcell⟩ := own_cells hown1 (by simp)
  rw [List.length_append, List.length_singleton] at hv hc
  subst hv
  have hpos : 0 < l.length := by
    by_cases h : l.length = 0
    · have h2 := HL.out
      have h3 : l = [] := List.eq_nil_of_length_eq_zero h
      rw [h3] at h2
      exact absurd h2.symm (itoa_ne _)
    · omega
  go_wp2_with fail
  refine (enc_any w1.heap.size 0 (-q) (by omega) (by omega) (.slice none 0 0) [] w1 (World.ownsRow_nil _ _ _ _) (Nat.le_refl _) (by omega) (Lib.tabBelow_of_tabIs (hT.on hnx1).here)).mono ?_
  rintro e w2 ⟨v2, rfl, hown2, hnx2⟩
  rw [Nat.zero_add, List.nil_append, ← HL.out] at hown2
  obtain ⟨g2, c2, hv2, hc2, hB2, hgs2, hcell2⟩ := own_cells hown2 (by intro h; rw [h] at hpos; simp at hpos)
  subst hv2
  have hcell1 : ∀ j (hj : j < l.length), w2.cell? ⟨g, j, none⟩ = some (.int .u8 (l[j].toNat : Int)) := fun j hj => by
    rw [hnx2.cell (p := ⟨g, j, none⟩) hgs, hcell j (by simp; omega), List.getElem_append_left hj]
  have hlast : w2.cell? ⟨g, l.length, none⟩ = some (.int .u8 (48 + r)) := by
    rw [hnx2.cell (p := ⟨g, l.length, none⟩) hgs, hcell l.length (by simp), List.getElem_concat_length rfl, dig_toNat (by omega)]
    congr 2
    omega
  clear hcell hown1 hown2
  have hlI : (l.length : Int) ≤ 21 := by omega
  go_wp2
  go_loopw [7] (fun i wr => ∃ k nq : Nat, k ≤ l.length ∧ i = .int .i64 k ∧ wr = w2.drewN nq) (fun i _ => l.length - (intOf i).toNat)
  case atStart => exact ⟨0, 0, Nat.zero_le _, rfl, rfl⟩
  case round =>
    obtain ⟨k, nq, hk, rfl, rfl⟩ := hrel
    by_cases hlt : k < l.length
    · have hk1 := hcell1 k hlt
      have hk2 := hcell2 k hlt
      have hlt' : (k : Int) < (l.length : Int) := by omega
      have hlt2 : (k : Int) < (l.length : Int) + 1 := by omega
      generalize (l[k].toNat : Int) = x at hk1 hk2
      clear hcell1 hcell2
      go_wp2
      go_quiet (fail)
      go_wp2
      go_roundw
      case rel => exact ⟨k + 1, _, by omega, by go_num, rfl⟩
      case measure => simp [intOf]; omega
    · obtain rfl : k = l.length := by omega
      go_wp2
      go_ret
      exact ⟨by simp, below_drewN (hnx1.trans (hnx2.mono hnx1.size)) _⟩

set_option maxHeartbeats 400000 in
set_option maxRecDepth 100000 in
theorem last_neg_0 (n q : Int) (hn0 : n ≤ -10) (hn1 : -9223372036854775808 ≤ n) (hq0 : 1 ≤ q) (hq1 : q ≤ 922337203685477580) (htm : n.tmod 10 = 0) (htd : n.tdiv 10 = -q) (HI : Hid (Lib.itoa n = Lib.itoa (-q) ++ [UInt8.ofNat (48 + 0)])) (w : World) (htab : Lib.TabIs Tryd.prog w Tryd.powName .u64 Lib.pow10Tab) :
    Calls Tryd.prog 4 #[.int .i64 n] w fun e w' => e = .returned (.bool true) ∧ Below w.heap.size w w' := by
  have hT := Lib.tabBelow_of_tabIs htab
  go_enter Tryd.func4, Tryd.ntmps4
  go_wp2_with fail
  refine (enc_any w.heap.size 0 n (by omega) (by omega) (.slice none 0 0) [] w (World.ownsRow_nil _ _ _ _) (Nat.le_refl _) (by omega) hT).mono ?_
  rintro e w1 ⟨v1, rfl, hown1, hnx1⟩
  rw [Nat.zero_add, List.nil_append, HI.out] at hown1
  have hlen := Lib.itoa_length_le (-q) (by omega) (by omega)
  obtain ⟨l, hl⟩ : ∃ l, l = Lib.itoa (-q) := ⟨_, rfl⟩
  rw [← hl] at hown1 hlen
  have HL := Lib.hid hl
  clear hl
  obtain ⟨g, c, hv, hc, hB, hgs, hcell⟩ := own_cells hown1 (by simp)
  rw [List.length_append, List.length_singleton] at hv hc
  subst hv
  have hpos : 0 < l.length := by
    by_cases h : l.length = 0
    · have h2 := HL.out
      have h3 : l = [] := List.eq_nil_of_length_eq_zero h
      rw [h3] at h2
      exact absurd h2.symm (itoa_ne _)
    · omega
  go_wp2_with fail
  refine (enc_any w1.heap.size 0 (-q) (by omega) (by omega) (.slice none 0 0) [] w1 (World.ownsRow_nil _ _ _ _) (Nat.le_refl _) (by omega) (Lib.tabBelow_of_tabIs (hT.on hnx1).here)).mono ?_
  rintro e w2 ⟨v2, rfl, hown2, hnx2⟩
  rw [Nat.zero_add, List.nil_append, ← HL.out] at hown2
  obtain ⟨g2, c2, hv2, hc2, hB2, hgs2, hcell2⟩ := own_cells hown2 (by intro h; rw [h] at hpos; simp at hpos)
  subst hv2
  have hcell1 : ∀ j (hj : j < l.length), w2.cell? ⟨g, j, none⟩ = some (.int .u8 (l[j].toNat : Int)) := fun j hj => by
    rw [hnx2.cell (p := ⟨g, j, none⟩) hgs, hcell j (by simp; omega), List.getElem_append_left hj]
  have hlast : w2.cell? ⟨g, l.length, none⟩ = some (.int .u8 (48)) := by
    rw [hnx2.cell (p := ⟨g, l.length, none⟩) hgs, hcell l.length (by simp), List.getElem_concat_length rfl, dig_toNat (by omega)]
    rfl
  clear hcell hown1 hown2
  have hlI : (l.length : Int) ≤ 21 := by omega
  go_wp2
  go_loopw [7] (fun i wr => ∃ k nq : Nat, k ≤ l.length ∧ i = .int .i64 k ∧ wr = w2.drewN nq) (fun i _ => l.length - (intOf i).toNat)
  case atStart => exact ⟨0, 0, Nat.zero_le _, rfl, rfl⟩
  case round =>
    obtain ⟨k, nq, hk, rfl, rfl⟩ := hrel
    by_cases hlt : k < l.length
    · have hk1 := hcell1 k hlt
      have hk2 := hcell2 k hlt
      have hlt' : (k : Int) < (l.length : Int) := by omega
      have hlt2 : (k : Int) < (l.length : Int) + 1 := by omega
      generalize (l[k].toNat : Int) = x at hk1 hk2
      clear hcell1 hcell2
      go_wp2
      go_quiet (fail)
      go_wp2
      go_roundw
      case rel => exact ⟨k + 1, _, by omega, by go_num, rfl⟩
      case measure => simp [intOf]; omega
    · obtain rfl : k = l.length := by omega
      go_wp2
      go_ret
      exact ⟨by simp, below_drewN (hnx1.trans (hnx2.mono hnx1.size)) _⟩

/-- FnIntegerLastDigit answers true at every int64. -/
theorem last_any (n : Int) (hn0 : -9223372036854775808 ≤ n) (hn1 : n ≤ 9223372036854775807) (w : World) (htab : Lib.TabIs Tryd.prog w Tryd.powName .u64 Lib.pow10Tab) :
    Calls Tryd.prog 4 #[.int .i64 n] w fun e w' => e = .returned (.bool true) ∧ Below w.heap.size w w' := by
  by_cases h1 : 10 ≤ n
  · exact last_big n h1 hn1 w htab
  · by_cases h2 : 0 ≤ n
    · exact last_small n h2 (by omega) w htab
    · by_cases h3 : -10 < n
      · exact last_small_neg n (by omega) h3 w htab
      · have hI := itoa_last_neg (show n ≤ -10 by omega)
        have htm := tmod_ten (show n ≤ 0 by omega)
        have htd := tdiv_ten (show n ≤ 0 by omega)
        by_cases h4 : -n % 10 = 0
        · rw [h4] at hI htm
          exact last_neg_0 n (-n / 10) (by omega) hn0 (by omega) (by omega) htm htd hI w htab
        · exact last_neg_r n (-n / 10) (-n % 10) (by omega) hn0 (by omega) (by omega) (by omega) (by omega) htm htd hI w htab

end Go.Proofs.Qxb6614008aDoor
