/-
  The powers-of-ten reckoning of zzDecimal: what stands at each round's head.
-/
import Derived.Test.Qxb6614008aDoorPlain
namespace Go.Proofs.Qxb6614008aDoor
open Go.Lib

/-- The power with which the round begins that leaves k powers to come: 0 behind the last. -/
def pw : Nat → Nat | 0 => 0 | k + 1 => 10 ^ k

/-- At a round's head, k powers to come: the rest v, the power p, the digits so far, whether one is written. -/
structure Inv (u k : Nat) (v p : Int) (l : List UInt8) (s : Bool) : Prop where
  vp : v = ((u % 10 ^ k : Nat) : Int)
  pp : p = ((pw k : Nat) : Int)
  fin0 : k = 0 → l = decDigits u
  out : 0 < k → l = if u / 10 ^ k = 0 then [] else decDigits (u / 10 ^ k)
  st : 0 < k → s = decide (u / 10 ^ k ≠ 0)

theorem Inv.start {u : Nat} (h : u < 10 ^ 19) : Inv u 19 (u : Int) 1000000000000000000 [] false where
  vp := by rw [Nat.mod_eq_of_lt h]
  pp := by decide +kernel
  fin0 := fun h => by cases h
  out := fun _ => by rw [if_pos (Nat.div_eq_of_lt h)]
  st := fun _ => by rw [Nat.div_eq_of_lt h]; rfl

theorem decDigits_snoc {q d : Nat} (hd : d < 10) (h : q ≠ 0) : decDigits (10 * q + d) = decDigits q ++ [UInt8.ofNat (48 + d)] := by
  rw [decDigits_big (by omega), show (10 * q + d) / 10 = q by omega, show (10 * q + d) % 10 = d by omega]

/-- The numbers of a round. -/
theorem Inv.nums {u k : Nat} {v p : Int} {l : List UInt8} {s : Bool} (h : Inv u (k + 1) v p l s) :
    0 < p ∧ p ≤ 10 ^ k ∧ 0 ≤ v ∧ v / p = ((u / 10 ^ k % 10 : Nat) : Int) ∧ v / p * p ≤ v ∧ 0 ≤ v / p * p ∧ v - v / p * p = ((u % 10 ^ k : Nat) : Int) ∧ p / 10 = ((pw k : Nat) : Int) := by
  have hpos : 0 < 10 ^ k := Nat.pow_pos (by decide)
  have hv := h.vp
  have hp : p = ((10 ^ k : Nat) : Int) := h.pp
  have e1 : u % 10 ^ (k + 1) / 10 ^ k = u / 10 ^ k % 10 := by
    rw [Nat.pow_succ, Nat.mod_mul_right_div_self]
  have e2 : u % 10 ^ (k + 1) % 10 ^ k = u % 10 ^ k := by
    rw [Nat.pow_succ, Nat.mod_mul_right_mod]
  have e3 := Nat.div_add_mod' (u % 10 ^ (k + 1)) (10 ^ k)
  have ed : v / p = ((u % 10 ^ (k + 1) / 10 ^ k : Nat) : Int) := by rw [hv, hp]; exact (Int.natCast_ediv _ _).symm
  have em : v / p * p = ((u % 10 ^ (k + 1) / 10 ^ k * 10 ^ k : Nat) : Int) := by rw [ed, hp]; exact (Int.natCast_mul _ _).symm
  have ez : p / 10 = ((10 ^ k / 10 : Nat) : Int) := by rw [hp]; exact (Int.natCast_ediv _ 10).symm
  refine ⟨by rw [hp]; omega, by rw [hp]; simp, by rw [hv]; omega, by rw [ed, e1], by rw [em, hv]; omega, by rw [em]; omega, by rw [em, hv]; omega, ?_⟩
  rw [ez]
  cases k with
  | zero => rfl
  | succ j => rw [Nat.pow_succ, Nat.mul_div_cancel _ (by decide)]; rfl

/-- A round that writes its digit. -/
theorem Inv.wrote {u k : Nat} {v p : Int} {l : List UInt8} {s : Bool} (h : Inv u (k + 1) v p l s) (hc : v / p ≠ 0 ∨ s = true ∨ p = 1) :
    Inv u k (v - v / p * p) (p / 10) (l ++ [UInt8.ofNat (48 + (v / p).toNat)]) true := by
  obtain ⟨hp0, -, -, hd, -, -, hv', hp'⟩ := h.nums
  have hdn : (v / p).toNat = u / 10 ^ k % 10 := by rw [hd]; rfl
  have eq : u / 10 ^ k = 10 * (u / 10 ^ (k + 1)) + u / 10 ^ k % 10 := by
    rw [Nat.pow_succ, ← Nat.div_div_eq_div_mul]; omega
  have hq := h.out (Nat.succ_pos k)
  have hs := h.st (Nat.succ_pos k)
  have hlt : u / 10 ^ k % 10 < 10 := Nat.mod_lt _ (by decide)
  have hk : p = 1 → k = 0 := fun e => by
    have hp : p = ((10 ^ k : Nat) : Int) := h.pp
    cases k with
    | zero => rfl
    | succ j =>
      rw [e, Nat.pow_succ] at hp
      have : 0 < 10 ^ j := Nat.pow_pos (by decide)
      omega
  rw [hdn]
  generalize u / 10 ^ (k + 1) = q at *
  have all : l ++ [UInt8.ofNat (48 + u / 10 ^ k % 10)] = decDigits (u / 10 ^ k) := by
    generalize u / 10 ^ k % 10 = d at *
    rw [eq]
    by_cases h0 : q = 0
    · subst h0
      rw [hq, if_pos rfl, Nat.mul_zero, Nat.zero_add, decDigits_one hlt]
      rfl
    · rw [hq, if_neg h0, decDigits_snoc hlt h0]
  have hne : 0 < k → u / 10 ^ k ≠ 0 := fun h0 => by
    rcases hc with hc | hc | hc
    · rw [hd] at hc
      omega
    · rw [hc] at hs
      have hq0 : q ≠ 0 := of_decide_eq_true hs.symm
      omega
    · have := hk hc
      omega
  refine ⟨hv', hp', fun e => ?_, fun e => ?_, fun e => ?_⟩
  · subst e
    rw [all, Nat.pow_zero, Nat.div_one]
  · rw [all, if_neg (hne e)]
  · rw [decide_eq_true (hne e)]

/-- A round that writes nothing. -/
theorem Inv.skipped {u k : Nat} {v p : Int} {l : List UInt8} {s : Bool} (h : Inv u (k + 1) v p l s) (hd0 : v / p = 0) (hs0 : s = false) (hp1 : p ≠ 1) :
    Inv u k (v - v / p * p) (p / 10) l s := by
  obtain ⟨hp0, -, -, hd, -, -, hv', hp'⟩ := h.nums
  have eq : u / 10 ^ k = 10 * (u / 10 ^ (k + 1)) + u / 10 ^ k % 10 := by
    rw [Nat.pow_succ, ← Nat.div_div_eq_div_mul]; omega
  have hq := h.out (Nat.succ_pos k)
  have hs := h.st (Nat.succ_pos k)
  rw [hs0] at hs
  have hq0 : u / 10 ^ (k + 1) = 0 := by
    have := of_decide_eq_false hs.symm
    omega
  have hz : u / 10 ^ k = 0 := by
    rw [hd0] at hd
    omega
  rw [if_pos hq0] at hq
  refine ⟨hv', hp', fun e => ?_, fun _ => ?_, fun _ => ?_⟩
  · subst e
    exact absurd h.pp hp1
  · rw [if_pos hz, hq]
  · rw [hz, hs0]
    rfl

/-- Behind the last power: the numeral. -/
theorem Inv.stop {u k : Nat} {v p : Int} {l : List UInt8} {s : Bool} (h : Inv u k v p l s) (hp : ¬ 0 < p) : l = decDigits u := by
  cases k with
  | zero => exact h.fin0 rfl
  | succ j =>
    have := h.nums.1
    omega

end Go.Proofs.Qxb6614008aDoor
