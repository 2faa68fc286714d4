/-
  The contracts of zzBytes_FnIntegerAppendsDecimal (5), zzCloneBytes (6) and zzSameBytes (9).
-/
import Derived.Test.Qxb6614008aDoorRows
import Derived.Deep.OwnRows
import Derived.Lib.SliceRun
import Derived.Lib.Slices
import Derived.Lib.Hide
import Derived.OwnWalk
import Derived.WalkKit
import Derived.WalkSpells
import Derived.WalkLawsBesides
import Derived.BigQuiet
import Derived.Deep.QuietTactic
namespace Go.Proofs.Qxb6614008aDoor
open Go.RowKit

theorem info5 : (Tryd.prog.info? 5).map (fun i => (i.zero, i.size, i.bytes)) = some (some (.int .u8 0), 1, 1) := by kernel_rfl

set_option maxHeartbeats 400000 in
theorem bytes_big (a : Option Addr) (len cap : Nat) (n : Int) (h : 1048576 < len) (hm : len ≤ 9223372036854775807) (w : World) :
    Calls Tryd.prog 5 #[.slice a len cap, .int .i64 n] w fun e w' => e = .returned (.bool false) ∧ w' = w := by
  have hi : (1048576 : Int) < (len : Int) := by omega
  go_enter Tryd.func5, Tryd.ntmps5
  go_wp2
  go_ret
  exact ⟨rfl, rfl⟩

set_option maxHeartbeats 400000 in
theorem bytes_small (a : Option Addr) (len cap : Nat) (n : Int) (h : len ≤ 1048576) (w : World) :
    Calls Tryd.prog 5 #[.slice a len cap, .int .i64 n] w fun e w' => e = .returned (.bool true) ∧ w' = w := by
  have hi : (len : Int) ≤ 1048576 := by omega
  go_enter Tryd.func5, Tryd.ntmps5
  go_wp2
  go_ret
  exact ⟨rfl, rfl⟩

set_option maxHeartbeats 400000 in
theorem clone_nil (w : World) :
    Calls Tryd.prog 6 #[.slice none 0 0] w fun e w' => e = .returned (.slice none 0 0) ∧ w' = w := by
  have heq := fun w => Lib.run_eql_slice_nil (P := Tryd.prog) w 22 5 none 0 0 0 0 Tryd.underlying22
  go_enter Tryd.func6, Tryd.ntmps6
  go_wp2
  go_ret
  exact ⟨rfl, rfl⟩

set_option maxHeartbeats 400000 in
set_option maxRecDepth 100000 in
/-- A slice that is not nil: a new row of its bytes. -/
theorem clone_some (a : Addr) (b off len cap : Nat) (f : Nat → Int) (w : World) (hlen : len ≤ 1048576) (ha : 0 < len → a = ⟨b, off, none⟩)
    (hc : ∀ k, k < len → w.cell? ⟨b, off + k, none⟩ = some (.int .u8 (f k))) :
    Calls Tryd.prog 6 #[.slice (some a) len cap] w fun e w' => e = .returned (.slice (some ⟨w.heap.size, 0, none⟩) len len) ∧ w'.rowIs w.heap.size 5 len (fun i => .int .u8 (f i)) ∧ Below w.heap.size w w' := by
  have heq := fun w => Lib.run_eql_slice_nil (P := Tryd.prog) w 22 5 (some a) len cap 0 0 Tryd.underlying22
  have hmk := run_make_row' (P := Tryd.prog) 22 5 (.int .u8 0) 1 Tryd.underlying22 info5 rfl .i64 .i64 len (by omega) (by omega)
  have hi : (len : Int) ≤ 1048576 := by omega
  go_enter Tryd.func6, Tryd.ntmps6
  go_wp2
  have hr0 := World.rowIs_made w (.int .u8 0) len 5
  have hb0 : Below w.heap.size w (w.alloc (.cells (madeCells #[.int .u8 0] len) 5)) := (Below.refl _ _).alloc (Nat.le_refl _) _
  go_loopw [4] (fun i wr => ∃ k : Nat, k ≤ len ∧ i = .int .i64 k ∧ Below w.heap.size w wr ∧ wr.rowIs w.heap.size 5 len (fun j => if j < k then .int .u8 (f j) else .int .u8 0)) (fun i _ => len - (intOf i).toNat)
  case atStart => exact ⟨0, Nat.zero_le _, rfl, hb0, hr0.congr (by intro i hi; simp)⟩
  case round =>
    obtain ⟨k, hk, rfl, hB, hR⟩ := hrel
    clear hr0 hb0 hmk heq
    by_cases hlt : k < len
    · have hlt' : (k : Int) < (len : Int) := by omega
      obtain rfl := ha (by omega)
      have hck := hc k hlt
      have hck' : wr.cell? ⟨b, off + k, none⟩ = some (.int .u8 (f k)) := by rw [hB.cell (p := ⟨b, off + k, none⟩) (World.block_lt_of_cell? _ _ hck)]; exact hck
      have hd : wr.cell? ⟨w.heap.size, k, none⟩ = some (.int .u8 0) := by rw [hR.cell hlt, if_neg (Nat.lt_irrefl _)]
      have hz : wr.frozen? ⟨w.heap.size, k, none⟩ = false := hR.frozen k
      have HB := Lib.hid hB
      have HR := Lib.hid hR
      clear hck hB hR hc
      go_wp2
      go_roundw
      case rel =>
        refine ⟨k + 1, by omega, by go_num, HB.out.setCell (Nat.le_refl _) _, (HR.out.set k _).congr ?_⟩
        intro j hj
        by_cases e1 : j = k
        · subst e1; simp
        · simp only [if_neg e1]
          by_cases e2 : j < k
          · rw [if_pos e2, if_pos (by omega)]
          · rw [if_neg e2, if_neg (by omega)]
      case measure => simp [intOf]; omega
    · obtain rfl : k = len := by omega
      have HB := Lib.hid hB
      have HR := Lib.hid hR
      clear hB hR hc
      go_wp2
      go_ret
      exact ⟨rfl, HR.out.congr (fun i hi => by rw [if_pos hi]), HB.out⟩

set_option maxHeartbeats 400000 in
set_option maxRecDepth 100000 in
/-- Two rows that hold the same bytes. -/
theorem same_any (g g2 len c c2 : Nat) (f : Nat → Int) (w : World) (hlen : len ≤ 1048576)
    (hc1 : ∀ k, k < len → w.cell? ⟨g, k, none⟩ = some (.int .u8 (f k))) (hc2 : ∀ k, k < len → w.cell? ⟨g2, k, none⟩ = some (.int .u8 (f k))) :
    Calls Tryd.prog 9 #[.slice (some ⟨g, 0, none⟩) len c, .slice (some ⟨g2, 0, none⟩) len c2] w fun e w' => e = .returned (.bool true) ∧ ∃ nq, w' = w.drewN nq := by
  have hi : (len : Int) ≤ 1048576 := by omega
  go_enter Tryd.func9, Tryd.ntmps9
  go_wp2
  go_loopw [5] (fun i wr => ∃ k nq : Nat, k ≤ len ∧ i = .int .i64 k ∧ wr = w.drewN nq) (fun i _ => len - (intOf i).toNat)
  case atStart => exact ⟨0, 0, Nat.zero_le _, rfl, rfl⟩
  case round =>
    obtain ⟨k, nq, hk, rfl, rfl⟩ := hrel
    by_cases hlt : k < len
    · have hk1 := hc1 k hlt
      have hk2 := hc2 k hlt
      have hlt' : (k : Int) < (len : Int) := by omega
      generalize f k = x at hk1 hk2
      clear hc1 hc2
      go_wp2
      go_quiet (fail)
      go_wp2
      go_roundw
      case rel => exact ⟨k + 1, _, by omega, by go_num, rfl⟩
      case measure => simp [intOf]; omega
    · obtain rfl : k = len := by omega
      clear hc1 hc2
      go_wp2
      go_ret
      exact ⟨rfl, _, rfl⟩

end Go.Proofs.Qxb6614008aDoor
