/-
  The contract of zzDecimal (7): the decimal numeral of n, in a row of the call's own.
-/
import Derived.Test.Qxb6614008aDoorClone
import Derived.Test.Qxb6614008aDoorDecPlain
import Derived.Lib.Slices
import Derived.OwnWalk
import Derived.BigCall
namespace Go.Proofs.Qxb6614008aDoor
open Go.RowKit

/-- What holds at the loop's head. -/
def Head (w : World) (u : Nat) (sg : List UInt8) (o uu st pp : Value) (wr : World) : Prop :=
  ∃ (k : Nat) (v p : Int) (l : List UInt8) (s : Bool), Inv u k v p l s ∧ l.length + k ≤ 19 ∧ 0 ≤ v ∧ v ≤ 9223372036854775808 ∧ 0 ≤ p ∧ p ≤ 1000000000000000000 ∧ uu = .int .u64 v ∧ st = .bool s ∧ pp = .int .u64 p ∧
    wr.ownsRow w.heap.size 5 1 o (sg.length + l.length) (Lib.byteCells (sg ++ l)) ∧ Below w.heap.size w wr

/-- From a round that wrote its digit to the next head. -/
theorem head_wrote {w w2 : World} {u j : Nat} {sg l : List UInt8} {v p d m x y : Int} {s : Bool} {o : Value} (hI : Inv u (j + 1) v p l s) (hlk : l.length + (j + 1) ≤ 19) (hv1 : v ≤ 9223372036854775808) (hp1 : p ≤ 1000000000000000000)
    (hdd : v / p = d) (hmm : d * p = m) (hc : d ≠ 0 ∨ s = true ∨ p = 1)
    (hown : w2.ownsRow w.heap.size 5 1 o (sg.length + l.length + 1) (Lib.byteCells (sg ++ l) ++ [Value.int .u8 (48 + d)])) (hB : Below w.heap.size w w2) (hx : v - m = x) (hy : p / 10 = y) :
    Head w u sg o (.int .u64 x) (.bool true) (.int .u64 y) w2 := by
  subst hdd; subst hmm; subst hx; subst hy
  obtain ⟨h1, -, h2, h3, h4, h5, -, -⟩ := hI.nums
  refine ⟨j, _, _, _, _, hI.wrote hc, ?_, by omega, by omega, by omega, by omega, rfl, rfl, rfl, ?_, hB⟩
  · rw [List.length_append, List.length_singleton]; omega
  · have e : Lib.byteCells (sg ++ (l ++ [UInt8.ofNat (48 + (v / p).toNat)])) = Lib.byteCells (sg ++ l) ++ [Value.int .u8 (48 + v / p)] := by
      have hd : ((UInt8.ofNat (48 + (v / p).toNat)).toNat : Int) = 48 + v / p := by rw [dig_toNat (by omega)]; omega
      rw [← List.append_assoc, Lib.byteCells_append]
      simp only [Lib.byteCells, List.map_cons, List.map_nil, hd]
    rw [e, List.length_append, List.length_singleton, ← Nat.add_assoc]
    exact hown

/-- From a round that wrote nothing to the next head. -/
theorem head_skip {w w2 : World} {u j : Nat} {sg l : List UInt8} {v p d m x y : Int} {s : Bool} {o : Value} (hI : Inv u (j + 1) v p l s) (hlk : l.length + (j + 1) ≤ 19) (hv1 : v ≤ 9223372036854775808) (hp1 : p ≤ 1000000000000000000)
    (hdd : v / p = d) (hmm : d * p = m) (hc : d = 0) (hs : s = false) (hne : p ≠ 1)
    (hown : w2.ownsRow w.heap.size 5 1 o (sg.length + l.length) (Lib.byteCells (sg ++ l))) (hB : Below w.heap.size w w2) (hx : v - m = x) (hy : p / 10 = y) :
    Head w u sg o (.int .u64 x) (.bool s) (.int .u64 y) w2 := by
  subst hdd; subst hmm; subst hx; subst hy
  obtain ⟨h1, -, h2, h3, h4, h5, -, -⟩ := hI.nums
  exact ⟨j, _, _, _, _, hI.skipped hc hs hne, by omega, by omega, by omega, by omega, by omega, rfl, rfl, rfl, hown, hB⟩

theorem head_start_pos (n : Int) (hn0 : 0 ≤ n) (hn1 : n ≤ 9223372036854775807) (w : World) : Head w n.toNat [] (.slice none 0 0) (.int .u64 n) (.bool false) (.int .u64 1000000000000000000) w := by
  refine ⟨19, n, _, [], false, ?_, by simp, hn0, by omega, by decide, by decide, rfl, rfl, rfl, World.ownsRow_nil _ _ _ _, Below.refl _ _⟩
  have h := Inv.start (u := n.toNat) (by rw [show (10 : Nat) ^ 19 = 10000000000000000000 by decide +kernel]; omega)
  rwa [show (n.toNat : Int) = n by omega] at h

theorem head_start_neg (n : Int) (hn0 : n < 0) (hn1 : -9223372036854775808 ≤ n) {w w0 : World} {v0 : Value} {x : Int} (hO : w0.ownsRow w.heap.size 5 1 v0 1 (Lib.byteCells [45])) (hB : Below w.heap.size w w0) (hx : x = -n) :
    Head w n.natAbs [45] v0 (.int .u64 x) (.bool false) (.int .u64 1000000000000000000) w0 := by
  refine ⟨19, x, _, [], false, ?_, by simp, by omega, by omega, by decide, by decide, rfl, rfl, rfl, hO, hB⟩
  have h := Inv.start (u := n.natAbs) (by rw [show (10 : Nat) ^ 19 = 10000000000000000000 by decide +kernel]; omega)
  rwa [show (n.natAbs : Int) = x by omega] at h

set_option maxHeartbeats 1000000 in
set_option maxRecDepth 100000 in
theorem dec_pos (n : Int) (hn0 : 0 ≤ n) (hn1 : n ≤ 9223372036854775807) (w : World) :
    Calls Tryd.prog 7 #[.int .i64 n] w fun e w' => ∃ v', e = .returned v' ∧ w'.ownsRow w.heap.size 5 1 v' (Lib.itoa n).length (Lib.byteCells (Lib.itoa n)) ∧ Below w.heap.size w w' := by
  obtain ⟨i0, hi, hz0, hz1, hz2⟩ := info_parts info5
  go_enter Tryd.func7, Tryd.ntmps7
  go_wp2
  go_loopw [3, 4, 5, 6] (fun o uu st pp wr => Head w n.toNat [] o uu st pp wr) (fun _ _ _ pp _ => (intOf pp).toNat)
  case atStart => exact head_start_pos n hn0 hn1 w
  case round =>
    obtain ⟨k, v, p, l, s, hI, hlk, hv0, hv1, hp0, hp1, rfl, rfl, rfl, hown, hB⟩ := hrel
    by_cases hp : 0 < p
    · obtain ⟨j, rfl⟩ : ∃ j, k = j + 1 := by
        cases k with
        | zero => have e := hI.pp; simp [pw] at e; omega
        | succ j => exact ⟨j, rfl⟩
      obtain ⟨-, -, -, hd, hm1, hm0, hv', hp'⟩ := hI.nums
      have hd9 : v / p ≤ 9 := by omega
      have hd0 : 0 ≤ v / p := by omega
      have HI := Lib.hid hI
      have HO := Lib.hid hown
      have HB := Lib.hid hB
      clear hd hv' hp' hI hown hB
      obtain ⟨d, hdd⟩ : ∃ d, v / p = d := ⟨_, rfl⟩
      rw [hdd] at hm1 hm0 hd9 hd0
      obtain ⟨m, hmm⟩ : ∃ m, d * p = m := ⟨_, rfl⟩
      rw [hmm] at hm1 hm0
      by_cases hc1 : 1 ≤ d
      · go_wp2_with (at_builtin; refine wpList_append_own _ rfl _ _ 22 rfl w.heap.size 5 i0 (.int .u8 0) 1 1 Tryd.underlying22 hi hz0 hz1 hz2 rfl (by decide) _ _ _ rfl (HO.out.alloc _) ⟨wr.heap.size, 0, none⟩ 1 1 [Value.int .u8 (48 + d)] rfl rfl (cell_one_new _ _ _) (by intro u' hu'; simp at hu'; subst hu'; rfl) (by unfold maxLen; simp; omega) (by simp; omega) (by have := HB.out.size; simp; omega) ?_; intro v2 w2 hown2 hgrow _; refine Hid.out ?_)
        refine Lib.hid ?_
        have hB2 : Below w.heap.size w w2 := (HB.out.alloc HB.out.size _).grown hgrow (by have := HB.out.size; simp; omega) (fun k hk => (HO.out.lt k hk).1)
        have HO2 := Lib.hid hown2
        have HB2 := Lib.hid hB2
        clear hown2 hB2 hgrow
        go_wp2
        go_roundw
        case rel => exact head_wrote HI.out hlk hv1 hp1 hdd hmm (.inl (by omega)) HO2.out HB2.out rfl rfl
        case measure => simp [intOf]; omega

      · obtain rfl : d = 0 := by omega
        obtain rfl : m = 0 := by rw [← hmm, Int.zero_mul]
        clear hmm
        cases s
        · by_cases hc2 : p = 1
          · subst hc2
            go_wp2_with (at_builtin; refine wpList_append_own _ rfl _ _ 22 rfl w.heap.size 5 i0 (.int .u8 0) 1 1 Tryd.underlying22 hi hz0 hz1 hz2 rfl (by decide) _ _ _ rfl (HO.out.alloc _) ⟨wr.heap.size, 0, none⟩ 1 1 [Value.int .u8 48] rfl rfl (cell_one_new _ _ _) (by intro u' hu'; simp at hu'; subst hu'; rfl) (by unfold maxLen; simp; omega) (by simp; omega) (by have := HB.out.size; simp; omega) ?_; intro v2 w2 hown2 hgrow _; refine Hid.out ?_)
            refine Lib.hid ?_
            have hB2 : Below w.heap.size w w2 := (HB.out.alloc HB.out.size _).grown hgrow (by have := HB.out.size; simp; omega) (fun k hk => (HO.out.lt k hk).1)
            have HO2 := Lib.hid hown2
            have HB2 := Lib.hid hB2
            clear hown2 hB2 hgrow
            go_wp2
            go_roundw
            case rel => exact head_wrote HI.out hlk hv1 hp1 hdd (Int.zero_mul 1) (.inr (.inr rfl)) HO2.out HB2.out (by omega) (by omega)
            case measure => simp [intOf]

          · have hc3 : 2 ≤ p := by omega
            go_wp2
            go_roundw
            case rel => exact head_skip HI.out hlk hv1 hp1 hdd (Int.zero_mul p) rfl rfl hc2 HO.out HB.out (by omega) rfl
            case measure => simp [intOf]; omega
        · go_wp2_with (at_builtin; refine wpList_append_own _ rfl _ _ 22 rfl w.heap.size 5 i0 (.int .u8 0) 1 1 Tryd.underlying22 hi hz0 hz1 hz2 rfl (by decide) _ _ _ rfl (HO.out.alloc _) ⟨wr.heap.size, 0, none⟩ 1 1 [Value.int .u8 48] rfl rfl (cell_one_new _ _ _) (by intro u' hu'; simp at hu'; subst hu'; rfl) (by unfold maxLen; simp; omega) (by simp; omega) (by have := HB.out.size; simp; omega) ?_; intro v2 w2 hown2 hgrow _; refine Hid.out ?_)
          refine Lib.hid ?_
          have hB2 : Below w.heap.size w w2 := (HB.out.alloc HB.out.size _).grown hgrow (by have := HB.out.size; simp; omega) (fun k hk => (HO.out.lt k hk).1)
          have HO2 := Lib.hid hown2
          have HB2 := Lib.hid hB2
          clear hown2 hB2 hgrow
          go_wp2
          go_roundw
          case rel => exact head_wrote HI.out hlk hv1 hp1 hdd (Int.zero_mul p) (.inr (.inl rfl)) HO2.out HB2.out (by omega) rfl
          case measure => simp [intOf]; omega

    · have HI := Lib.hid hI
      have HO := Lib.hid hown
      have HB := Lib.hid hB
      clear hI hown hB
      go_wp2
      go_ret
      have hl := HI.out.stop (by omega)
      have hO := HO.out
      rw [hl] at hO
      rw [List.nil_append, List.length_nil, Nat.zero_add] at hO
      rw [Lib.itoa, if_neg (by omega)]
      exact ⟨_, rfl, hO, HB.out⟩

set_option maxHeartbeats 1000000 in
set_option maxRecDepth 100000 in
theorem dec_neg (n : Int) (hn0 : n < 0) (hn1 : -9223372036854775808 ≤ n) (w : World) :
    Calls Tryd.prog 7 #[.int .i64 n] w fun e w' => ∃ v', e = .returned v' ∧ w'.ownsRow w.heap.size 5 1 v' (Lib.itoa n).length (Lib.byteCells (Lib.itoa n)) ∧ Below w.heap.size w w' := by
  obtain ⟨i0, hi, hz0, hz1, hz2⟩ := info_parts info5
  go_enter Tryd.func7, Tryd.ntmps7
  go_wp2_with (at_builtin; refine wpList_append_own _ rfl _ _ 22 rfl w.heap.size 5 i0 (.int .u8 0) 1 1 Tryd.underlying22 hi hz0 hz1 hz2 rfl (by decide) _ _ _ rfl (World.ownsRow_nil _ _ _ _) ⟨w.heap.size, 0, none⟩ 1 1 [Value.int .u8 45] rfl rfl (cell_one_new _ _ _) (by intro u' hu'; simp at hu'; subst hu'; rfl) (by unfold maxLen; omega) (by omega) (by simp) ?_; intro v0 w0 hown0 hgrow0 _; refine Hid.out ?_)
  refine Lib.hid ?_
  have hB0 : Below w.heap.size w w0 := ((Below.refl _ w).alloc (Nat.le_refl _) _).grown hgrow0 (by simp) (fun k hk => (World.ownsRow_nil w w.heap.size 5 1).lt k hk |>.1)
  have hO0 : w0.ownsRow w.heap.size 5 1 v0 1 (Lib.byteCells [45]) := hown0
  have HB0 := Lib.hid hB0
  have HO0 := Lib.hid hO0
  clear hown0 hgrow0 hB0 hO0
  go_wp2
  go_loopw [3, 4, 5, 6] (fun o uu st pp wr => Head w n.natAbs [45] o uu st pp wr) (fun _ _ _ pp _ => (intOf pp).toNat)
  case atStart => exact head_start_neg n hn0 hn1 HO0.out HB0.out (by omega)
  case round =>
    obtain ⟨k, v, p, l, s, hI, hlk, hv0, hv1, hp0, hp1, rfl, rfl, rfl, hown, hB⟩ := hrel
    by_cases hp : 0 < p
    · obtain ⟨j, rfl⟩ : ∃ j, k = j + 1 := by
        cases k with
        | zero => have e := hI.pp; simp [pw] at e; omega
        | succ j => exact ⟨j, rfl⟩
      obtain ⟨-, -, -, hd, hm1, hm0, hv', hp'⟩ := hI.nums
      have hd9 : v / p ≤ 9 := by omega
      have hd0 : 0 ≤ v / p := by omega
      have HI := Lib.hid hI
      have HO := Lib.hid hown
      have HB := Lib.hid hB
      clear hd hv' hp' hI hown hB
      obtain ⟨d, hdd⟩ : ∃ d, v / p = d := ⟨_, rfl⟩
      rw [hdd] at hm1 hm0 hd9 hd0
      obtain ⟨m, hmm⟩ : ∃ m, d * p = m := ⟨_, rfl⟩
      rw [hmm] at hm1 hm0
      by_cases hc1 : 1 ≤ d
      · go_wp2_with (at_builtin; refine wpList_append_own _ rfl _ _ 22 rfl w.heap.size 5 i0 (.int .u8 0) 1 1 Tryd.underlying22 hi hz0 hz1 hz2 rfl (by decide) _ _ _ rfl (HO.out.alloc _) ⟨wr.heap.size, 0, none⟩ 1 1 [Value.int .u8 (48 + d)] rfl rfl (cell_one_new _ _ _) (by intro u' hu'; simp at hu'; subst hu'; rfl) (by unfold maxLen; simp; omega) (by simp; omega) (by have := HB.out.size; simp; omega) ?_; intro v2 w2 hown2 hgrow _; refine Hid.out ?_)
        refine Lib.hid ?_
        have hB2 : Below w.heap.size w w2 := (HB.out.alloc HB.out.size _).grown hgrow (by have := HB.out.size; simp; omega) (fun k hk => (HO.out.lt k hk).1)
        have HO2 := Lib.hid hown2
        have HB2 := Lib.hid hB2
        clear hown2 hB2 hgrow
        go_wp2
        go_roundw
        case rel => exact head_wrote HI.out hlk hv1 hp1 hdd hmm (.inl (by omega)) HO2.out HB2.out rfl rfl
        case measure => simp [intOf]; omega

      · obtain rfl : d = 0 := by omega
        obtain rfl : m = 0 := by rw [← hmm, Int.zero_mul]
        clear hmm
        cases s
        · by_cases hc2 : p = 1
          · subst hc2
            go_wp2_with (at_builtin; refine wpList_append_own _ rfl _ _ 22 rfl w.heap.size 5 i0 (.int .u8 0) 1 1 Tryd.underlying22 hi hz0 hz1 hz2 rfl (by decide) _ _ _ rfl (HO.out.alloc _) ⟨wr.heap.size, 0, none⟩ 1 1 [Value.int .u8 48] rfl rfl (cell_one_new _ _ _) (by intro u' hu'; simp at hu'; subst hu'; rfl) (by unfold maxLen; simp; omega) (by simp; omega) (by have := HB.out.size; simp; omega) ?_; intro v2 w2 hown2 hgrow _; refine Hid.out ?_)
            refine Lib.hid ?_
            have hB2 : Below w.heap.size w w2 := (HB.out.alloc HB.out.size _).grown hgrow (by have := HB.out.size; simp; omega) (fun k hk => (HO.out.lt k hk).1)
            have HO2 := Lib.hid hown2
            have HB2 := Lib.hid hB2
            clear hown2 hB2 hgrow
            go_wp2
            go_roundw
            case rel => exact head_wrote HI.out hlk hv1 hp1 hdd (Int.zero_mul 1) (.inr (.inr rfl)) HO2.out HB2.out (by omega) (by omega)
            case measure => simp [intOf]

          · have hc3 : 2 ≤ p := by omega
            go_wp2
            go_roundw
            case rel => exact head_skip HI.out hlk hv1 hp1 hdd (Int.zero_mul p) rfl rfl hc2 HO.out HB.out (by omega) rfl
            case measure => simp [intOf]; omega
        · go_wp2_with (at_builtin; refine wpList_append_own _ rfl _ _ 22 rfl w.heap.size 5 i0 (.int .u8 0) 1 1 Tryd.underlying22 hi hz0 hz1 hz2 rfl (by decide) _ _ _ rfl (HO.out.alloc _) ⟨wr.heap.size, 0, none⟩ 1 1 [Value.int .u8 48] rfl rfl (cell_one_new _ _ _) (by intro u' hu'; simp at hu'; subst hu'; rfl) (by unfold maxLen; simp; omega) (by simp; omega) (by have := HB.out.size; simp; omega) ?_; intro v2 w2 hown2 hgrow _; refine Hid.out ?_)
          refine Lib.hid ?_
          have hB2 : Below w.heap.size w w2 := (HB.out.alloc HB.out.size _).grown hgrow (by have := HB.out.size; simp; omega) (fun k hk => (HO.out.lt k hk).1)
          have HO2 := Lib.hid hown2
          have HB2 := Lib.hid hB2
          clear hown2 hB2 hgrow
          go_wp2
          go_roundw
          case rel => exact head_wrote HI.out hlk hv1 hp1 hdd (Int.zero_mul p) (.inr (.inl rfl)) HO2.out HB2.out (by omega) rfl
          case measure => simp [intOf]; omega

    · have HI := Lib.hid hI
      have HO := Lib.hid hown
      have HB := Lib.hid hB
      clear hI hown hB
      go_wp2
      go_ret
      have hl := HI.out.stop (by omega)
      have hO := HO.out
      rw [hl] at hO
      rw [← List.length_append] at hO
      rw [Lib.itoa, if_pos hn0]
      exact ⟨_, rfl, hO, HB.out⟩

/-- zzDecimal: the decimal numeral of every int64. -/
theorem dec_any (n : Int) (hn0 : -9223372036854775808 ≤ n) (hn1 : n ≤ 9223372036854775807) (w : World) :
    Calls Tryd.prog 7 #[.int .i64 n] w fun e w' => ∃ v', e = .returned v' ∧ w'.ownsRow w.heap.size 5 1 v' (Lib.itoa n).length (Lib.byteCells (Lib.itoa n)) ∧ Below w.heap.size w w' := by
  by_cases h : n < 0
  · exact dec_neg n h hn0 w
  · exact dec_pos n (by omega) hn1 w

end Go.Proofs.Qxb6614008aDoor
