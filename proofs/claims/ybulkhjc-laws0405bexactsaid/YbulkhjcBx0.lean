/- the plain side of LawS0405BExact: bits, bytes, counts. No Go here. -/
namespace Go.Proofs.Ybulkhjc.Bx

/-- how many of the k lowest bits are set -/
def popTo (m : Nat) : Nat → Nat
  | 0 => 0
  | k + 1 => popTo m k + if m.testBit k then 1 else 0

theorem popTo_le (m : Nat) : ∀ k, popTo m k ≤ k
  | 0 => Nat.le_refl _
  | k + 1 => by simp only [popTo]; have := popTo_le m k; split <;> omega

/-- a byte read from its high bit on -/
def rev8 (x : Nat) : Nat :=
  (if x.testBit 0 then 128 else 0) + (if x.testBit 1 then 64 else 0) + (if x.testBit 2 then 32 else 0) + (if x.testBit 3 then 16 else 0) + (if x.testBit 4 then 8 else 0) + (if x.testBit 5 then 4 else 0) + (if x.testBit 6 then 2 else 0) + (if x.testBit 7 then 1 else 0)

theorem ite_le' (c : Bool) (v : Nat) : (if c = true then v else 0) ≤ v := by split <;> omega
theorem rev8_lt (x : Nat) : rev8 x < 256 := by
  unfold rev8
  have h0 := ite_le' (x.testBit 0) 128
  have h1 := ite_le' (x.testBit 1) 64
  have h2 := ite_le' (x.testBit 2) 32
  have h3 := ite_le' (x.testBit 3) 16
  have h4 := ite_le' (x.testBit 4) 8
  have h5 := ite_le' (x.testBit 5) 4
  have h6 := ite_le' (x.testBit 6) 2
  have h7 := ite_le' (x.testBit 7) 1
  omega

theorem rev8_bit_fin : ∀ x : Fin 256, ∀ s : Fin 8, (rev8 x.val).testBit s.val = x.val.testBit (7 - s.val) := by decide +kernel
theorem has_fin : ∀ x : Fin 256, ∀ r : Fin 8, ((rev8 x.val &&& (128 >>> r.val)) != 0) = x.val.testBit r.val := by decide +kernel
theorem add_fin : ∀ x : Fin 256, ∀ r : Fin 8, (rev8 x.val ||| (128 >>> r.val)) = rev8 (x.val ||| 2 ^ r.val) := by decide +kernel
theorem pop_fin : ∀ x : Fin 256, popTo (rev8 x.val) 8 = popTo x.val 8 := by decide +kernel

/-- byte i of the set that the mask m stands for -/
def sb (m i : Nat) : Nat := rev8 (m / 2 ^ (8 * i) % 256)
theorem sb_lt (m i : Nat) : sb m i < 256 := rev8_lt _

theorem byte_bit (m i r : Nat) (hr : r < 8) : (m / 2 ^ (8 * i) % 256).testBit r = m.testBit (8 * i + r) := by
  have e : (256 : Nat) = 2 ^ 8 := by decide
  rw [e, Nat.testBit_mod_two_pow, Nat.testBit_div_two_pow]
  simp [hr, Nat.add_comm]

theorem sb_bit (m i s : Nat) (hs : s < 8) : (sb m i).testBit s = m.testBit (8 * i + (7 - s)) := by
  unfold sb
  rw [rev8_bit_fin ⟨m / 2 ^ (8 * i) % 256, Nat.mod_lt _ (by decide)⟩ ⟨s, hs⟩, byte_bit _ _ _ (by omega)]

theorem sb_has (m i r : Nat) (hr : r < 8) : ((sb m i &&& (128 >>> r)) != 0) = m.testBit (8 * i + r) := by
  unfold sb
  rw [has_fin ⟨m / 2 ^ (8 * i) % 256, Nat.mod_lt _ (by decide)⟩ ⟨r, hr⟩, byte_bit _ _ _ hr]

theorem high_bit {x : Nat} (h : x < 256) {s : Nat} (hs : 8 ≤ s) : x.testBit s = false :=
  Nat.testBit_lt_two_pow (Nat.lt_of_lt_of_le h (by rw [show (256 : Nat) = 2 ^ 8 from by decide]; exact Nat.pow_le_pow_right (by decide) hs))

/-- two sets meet byte by byte -/
theorem sb_and (m o i : Nat) : sb m i &&& sb o i = sb (m &&& o) i := by
  refine Nat.eq_of_testBit_eq fun s => ?_
  rw [Nat.testBit_and]
  by_cases hs : s < 8
  · rw [sb_bit _ _ _ hs, sb_bit _ _ _ hs, sb_bit _ _ _ hs, Nat.testBit_and]
  · rw [high_bit (sb_lt _ _) (by omega), high_bit (sb_lt (m &&& o) i) (by omega)]; rfl

theorem popTo_byte (m i : Nat) : ∀ k, k ≤ 8 → popTo (m / 2 ^ (8 * i) % 256) k + popTo m (8 * i) = popTo m (8 * i + k)
  | 0, _ => by simp [popTo]
  | k + 1, h => by
    have := popTo_byte m i k (by omega)
    rw [← Nat.add_assoc]
    simp only [popTo]
    rw [byte_bit _ _ _ (by omega)]
    omega

/-- the members of byte i, counted -/
theorem pop_sb (m i : Nat) : popTo (sb m i) 8 + popTo m (8 * i) = popTo m (8 * (i + 1)) := by
  unfold sb
  rw [pop_fin ⟨m / 2 ^ (8 * i) % 256, Nat.mod_lt _ (by decide)⟩, popTo_byte m i 8 (by omega)]
  rw [show 8 * (i + 1) = 8 * i + 8 from by omega]

/-- beyond a mask's width nothing is set -/
theorem popTo_ext {m n : Nat} (h : m < 2 ^ n) : ∀ k, n ≤ k → popTo m k = popTo m n
  | 0, hk => by rw [Nat.le_zero.1 hk]
  | k + 1, hk => by
    by_cases e : n = k + 1
    · rw [e]
    · simp only [popTo]
      rw [popTo_ext h k (by omega), Nat.testBit_lt_two_pow (Nat.lt_of_lt_of_le h (Nat.pow_le_pow_right (by decide) (by omega)))]
      rfl
end Go.Proofs.Ybulkhjc.Bx
