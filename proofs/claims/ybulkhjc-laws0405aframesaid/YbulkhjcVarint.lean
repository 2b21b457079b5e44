import Derived.Lib.Varint
import Derived.Lib.VarintDec
/- what is encoded is what is decoded: the plain law of the unsigned varints. No Go here. -/
namespace Go.Proofs.Ybulkhjc.Fr
open Go.Lib

theorem u8_small {x : Nat} (h : x < 256) : x.toUInt8.toNat = x := by
  rw [Nat.toUInt8, UInt8.toNat_ofNat']; omega

theorem dec_from (r : List UInt8) : ∀ (f x i acc : Nat), x < 2 ^ f → i < 10 → x * 2 ^ (7 * i) < 18446744073709551616 → uvarintFrom i acc (uvarint x ++ r) = (acc + x * 2 ^ (7 * i), ((i + (uvarint x).length : Nat) : Int))
  | 0, x, i, acc, hx, hi, h => by
    obtain rfl : x = 0 := by simpa using hx
    rw [uvarint_small (by omega)]
    simp only [List.cons_append, List.nil_append, uvarintFrom]
    rw [if_neg (by omega), u8_small (by omega), if_pos (by omega), if_neg (by omega)]
    simp
  | f + 1, x, i, acc, hx, hi, h => by
    by_cases h1 : x < 128
    · rw [uvarint_small h1]
      simp only [List.cons_append, List.nil_append, uvarintFrom]
      have h9 : ¬ (i = 9 ∧ 1 < x) := by
        rintro ⟨rfl, h2⟩
        have e : (2 : Nat) ^ (7 * 9) = 9223372036854775808 := by decide
        rw [e] at h
        omega
      rw [if_neg (by omega), u8_small (by omega), if_pos h1, if_neg h9]
      simp
    · have hp : 1 ≤ 2 ^ (7 * i) := Nat.one_le_two_pow
      have e1 : 2 ^ (7 * (i + 1)) = 2 ^ (7 * i) * 128 := by
        rw [show 7 * (i + 1) = 7 * i + 7 from by omega, Nat.pow_add]
      have hi9 : i + 1 < 10 := by
        rcases Nat.lt_or_ge (i + 1) 10 with h2 | h2
        · exact h2
        · exfalso
          obtain rfl : i = 9 := by omega
          have e : (2 : Nat) ^ (7 * 9) = 9223372036854775808 := by decide
          rw [e] at h
          omega
      have hq : x / 128 * 2 ^ (7 * (i + 1)) + x % 128 * 2 ^ (7 * i) = x * 2 ^ (7 * i) := by
        rw [e1]
        have hd := Nat.div_add_mod x 128
        generalize 2 ^ (7 * i) = q
        calc x / 128 * (q * 128) + x % 128 * q = (128 * (x / 128) + x % 128) * q := by
              rw [Nat.add_mul, Nat.mul_comm q 128, ← Nat.mul_assoc, Nat.mul_comm (x / 128) 128]
          _ = x * q := by rw [hd]
      rw [uvarint_big (by omega)]
      simp only [List.cons_append, uvarintFrom]
      rw [if_neg (by omega), u8_small (by omega), if_neg (by omega)]
      have e2 : (x % 128 + 128) % 128 = x % 128 := by omega
      rw [e2, dec_from r f (x / 128) (i + 1) _ (by rw [Nat.pow_succ] at hx; omega) hi9 (by omega)]
      simp only [List.length_cons, Prod.mk.injEq]
      constructor <;> omega

/-- Uvarint behind AppendUvarint -/
theorem dec_enc (x : Nat) (h : x < 18446744073709551616) (r : List UInt8) : uvarintDec (uvarint x ++ r) = (x, ((uvarint x).length : Int)) := by
  unfold uvarintDec
  rw [dec_from r 64 x 0 0 (by have : (2 : Nat) ^ 64 = 18446744073709551616 := by decide
                              omega) (by omega) (by simpa using h)]
  simp
end Go.Proofs.Ybulkhjc.Fr
