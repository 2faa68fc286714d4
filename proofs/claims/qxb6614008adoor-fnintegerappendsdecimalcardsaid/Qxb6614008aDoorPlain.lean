/-
  Plain facts on decimal numerals (no program in sight): a numeral's last digit; the powers-of-ten reckoning.
-/
import Derived.Lib.ItoaLen
namespace Go.Proofs.Qxb6614008aDoor
open Go.Lib

theorem decDigits_big {u : Nat} (h : ¬ u < 10) : decDigits u = decDigits (u / 10) ++ [UInt8.ofNat (48 + u % 10)] := by rw [decDigits, dif_neg h]

theorem itoa_small {n : Int} (h0 : 0 ≤ n) (h1 : n < 10) : itoa n = [UInt8.ofNat (48 + n.toNat)] := by
  rw [itoa, if_neg (by omega), decDigits_one (by omega)]

theorem itoa_small_neg {n : Int} (h0 : n < 0) (h1 : -10 < n) : itoa n = [45, UInt8.ofNat (48 + n.natAbs)] := by
  rw [itoa, if_pos h0, decDigits_one (by omega)]

theorem itoa_last_pos {n : Int} (h : 10 ≤ n) : itoa n = itoa (n / 10) ++ [UInt8.ofNat (48 + (n % 10).toNat)] := by
  rw [itoa, if_neg (by omega), itoa, if_neg (by omega), decDigits_big (by omega)]
  rw [show n.toNat / 10 = (n / 10).toNat by omega, show n.toNat % 10 = (n % 10).toNat by omega]

theorem itoa_last_neg {n : Int} (h : n ≤ -10) : itoa n = itoa (-(-n / 10)) ++ [UInt8.ofNat (48 + (-n % 10).toNat)] := by
  rw [itoa, if_pos (by omega), itoa, if_pos (by omega), decDigits_big (by omega)]
  rw [show n.natAbs / 10 = (-(-n / 10)).natAbs by omega, show n.natAbs % 10 = (-n % 10).toNat by omega]
  rfl

theorem tmod_ten {n : Int} (h : n ≤ 0) : n.tmod 10 = -(-n % 10) := by
  rw [← Int.neg_neg n, Int.neg_tmod, Int.tmod_eq_emod_of_nonneg (by omega), Int.neg_neg]

theorem tdiv_ten {n : Int} (h : n ≤ 0) : n.tdiv 10 = -(-n / 10) := by
  rw [← Int.neg_neg n, Int.neg_tdiv, Int.tdiv_eq_ediv_of_nonneg (by omega), Int.neg_neg]

theorem itoa_ne (n : Int) : itoa n ≠ [] := by
  intro h
  have h1 : (itoa n).length = 0 := by rw [h]; rfl
  by_cases hn : n < 0
  · rw [itoa, if_pos hn] at h1
    simp at h1
  · rw [itoa, if_neg hn, decDigits_length] at h1
    have := nDigits_pos n.toNat
    omega

/-- A digit's byte. -/
theorem dig_toNat {d : Nat} (h : d < 10) : (UInt8.ofNat (48 + d)).toNat = 48 + d := by
  simp only [UInt8.toNat_ofNat']
  omega

end Go.Proofs.Qxb6614008aDoor
