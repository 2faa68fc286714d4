/-
  The contract of checkpoint.ZZencoderInteger (function 8) and of the method integer (function 10): the decimal numeral of n behind the cells of b.
-/
import Derived.Test.Qxb6614008aDoorLay
import Derived.Lib.AppendIntMem
import Derived.Lib.ItoaLen
import Derived.Lib.OwnKind
import Derived.Lib.Slices
import Derived.Lib.Hide
import Derived.OwnWalk
import Derived.WalkKit
import Derived.WalkSpells
import Derived.BigCall
namespace Go.Proofs.Qxb6614008aDoor
open Go.RowKit

/-- An owned row's value is a slice. -/
theorem slice_of_own {w : World} {B e k n : Nat} {v : Value} {xs : List Value} (h : w.ownsRow B e k v n xs) : ∃ a c, v = .slice a n c := by
  rcases h.2 with ⟨rfl, rfl⟩ | ⟨g, cap, cur, rfl, _⟩
  · exact ⟨_, _, rfl⟩
  · exact ⟨_, _, rfl⟩

set_option maxHeartbeats 400000 in
set_option maxRecDepth 100000 in
/-- (*encoder).integer: block b is the encoder. -/
theorem integer_any (B m b : Nat) (n : Int) (h0 : -9223372036854775808 ≤ n) (h1 : n ≤ 9223372036854775807) (sv : Value) (xs : List Value) (w : World) (c1 c2 c3 : Value)
    (hb : w.heap[b]? = some (.cells #[sv, c1, c2, c3] 34)) (hown : w.ownsRow B 5 1 sv m xs) (hBw : B ≤ w.heap.size) (hlim : m + 21 ≤ 140737488355328)
    (htab : Lib.TabBelow Tryd.prog B w Tryd.powName .u64 Lib.pow10Tab) :
    Calls Tryd.prog 10 #[.pointer (some ⟨b, 0, none⟩), .int .i64 n] w fun e w' => ∃ v' w1, e = .returned (.tuple #[]) ∧ w' = w1.setCell ⟨b, 0, none⟩ v' ∧ w1.ownsRow B 5 1 v' (m + (Lib.itoa n).length) (xs ++ Lib.byteCells (Lib.itoa n)) ∧ Below B w w1 ∧ w1.heap[b]? = some (.cells #[sv, c1, c2, c3] 34) := by
  have hc : w.cell? ⟨b, 0, none⟩ = some sv := by simp [World.cell?, hb]
  go_enter Tryd.func10, Tryd.ntmps10
  go_wp2_with fail
  refine (Tryd.appendInt10 B m n h0 h1 sv xs w hown hBw hlim htab).mono ?_
  rintro e w1 ⟨v1, rfl, hown1, hnx1, hok1⟩
  have hb1 : w1.heap[b]? = some (.cells #[sv, c1, c2, c3] 34) := hok1 b _ hb (by simp) (fun c fz he => by cases he)
  have hc1 : w1.cell? ⟨b, 0, none⟩ = some sv := by simp [World.cell?, hb1]
  have hz1 : w1.frozen? ⟨b, 0, none⟩ = false := by simp [World.frozen?, hb1]
  obtain ⟨a, c, hv⟩ := slice_of_own hown1
  subst hv
  have HB := Lib.hid hb1
  have HO := Lib.hid hown1
  clear hb1 hown1
  go_wp2
  go_end0
  exact ⟨_, w1, rfl, rfl, HO.out, hnx1, HB.out⟩

/-- A store into a block that bears another tag keeps an owned row. -/
theorem own_setCell {w : World} {B e t n : Nat} {v : Value} {xs : List Value} (h : w.ownsRow B e 1 v n xs) {b : Nat} {cs : Array Value} (hb : w.heap[b]? = some (.cells cs t)) (hte : t ≠ e) (o : Nat) (u : Value) : (w.setCell ⟨b, o, none⟩ u).ownsRow B e 1 v n xs := by
  refine ⟨h.1, ?_⟩
  rcases h.2 with hn | ⟨g, cap, cur, rfl, hB, hg, rest⟩
  · exact .inl hn
  · refine .inr ⟨g, cap, cur, rfl, hB, ?_, rest⟩
    rw [Below.heap_setCell _ _ _ _ ?_]
    · exact hg
    · intro e1
      simp only at e1
      subst e1
      rw [hg] at hb
      injection hb with hb
      injection hb with _ hb
      exact hte hb.symm

set_option maxHeartbeats 400000 in
set_option maxRecDepth 100000 in
/-- checkpoint.ZZencoderInteger. -/
theorem enc_any (B m : Nat) (n : Int) (h0 : -9223372036854775808 ≤ n) (h1 : n ≤ 9223372036854775807) (sv : Value) (xs : List Value) (w : World) (hown : w.ownsRow B 5 1 sv m xs) (hBw : B ≤ w.heap.size) (hlim : m + 21 ≤ 140737488355328)
    (htab : Lib.TabBelow Tryd.prog B w Tryd.powName .u64 Lib.pow10Tab) :
    Calls Tryd.prog 8 #[sv, .int .i64 n] w fun e w' => ∃ v', e = .returned v' ∧ w'.ownsRow B 5 1 v' (m + (Lib.itoa n).length) (xs ++ Lib.byteCells (Lib.itoa n)) ∧ Below B w w' := by
  obtain ⟨a0, c0, hsv⟩ := slice_of_own hown
  subst hsv
  go_enter Tryd.func8, Tryd.ntmps8
  go_wp2_with fail
  have hnx0 : Below B w (w.alloc (.cells #[.slice a0 m c0, .int .i64 0, .nilIface, .bool false] 34)) := (Below.refl B w).alloc hBw _
  refine (integer_any B m w.heap.size n h0 h1 (.slice a0 m c0) xs _ (.int .i64 0) .nilIface (.bool false) (heap_alloc_new w _) (hown.alloc _) (by simp; omega) hlim (htab.on hnx0)).mono ?_
  rintro e w2 ⟨v1, w1, rfl, rfl, hown1, hnx1, hb1⟩
  obtain ⟨a, c, hv⟩ := slice_of_own hown1
  subst hv
  have hc1 : (w1.setCell ⟨w.heap.size, 0, none⟩ (.slice a (m + (Lib.itoa n).length) c)).cell? ⟨w.heap.size, 0, none⟩ = some (.slice a (m + (Lib.itoa n).length) c) :=
    World.cell?_setCell_same' _ _ _ (by simp [World.cell?, hb1])
  have HB := Lib.hid hb1
  have HO := Lib.hid hown1
  clear hb1 hown1
  go_wp2
  go_ret
  exact ⟨_, rfl, own_setCell HO.out HB.out (by decide) 0 _, (hnx0.trans hnx1).setCell hBw _⟩

end Go.Proofs.Qxb6614008aDoor
