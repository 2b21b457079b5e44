/- The plain law of waitAfter: what it waits after f failures. No Go here. -/
namespace Go.Proofs.Ybulkhhm.Wait

/-- the wait after k doublings -/
def wt (k : Nat) : Int := 1000000000 * ((2 ^ k : Nat) : Int)

theorem wt_zero : wt 0 = 1000000000 := by decide
theorem wt_succ (k : Nat) : wt (k + 1) = wt k * 2 := by
  unfold wt; rw [Nat.pow_succ]; omega
theorem wt_pos (k : Nat) : 1000000000 ≤ wt k := by
  unfold wt
  have : 1 ≤ 2 ^ k := Nat.one_le_two_pow
  omega
theorem wt_le (k : Nat) (h : k ≤ 13) : wt k ≤ 8192000000000 := by
  unfold wt
  have : 2 ^ k ≤ 2 ^ 13 := Nat.pow_le_pow_right (by decide) h
  have e : (2 : Nat) ^ 13 = 8192 := by decide
  omega
theorem wt_top : wt 14 = 16384000000000 := by decide

/-- what waitAfter answers -/
def wv (f : Int) : Int := if f < 5 then 0 else if 19 ≤ f then 14400000000000 else wt (f - 5).toNat

theorem wv_few {f : Int} (h : f < 5) : wv f = 0 := by unfold wv; rw [if_pos h]
theorem wv_many {f : Int} (h : 19 ≤ f) : wv f = 14400000000000 := by unfold wv; rw [if_neg (by omega), if_pos h]
theorem wv_mid {f : Int} (k : Nat) (h : f = 5 + k) (hk : k ≤ 13) : wv f = wt k := by
  unfold wv
  rw [if_neg (by omega), if_neg (by omega)]
  congr 1; omega

/-- from one failure to the next -/
theorem wv_five : wv 5 = 1000000000 := by rw [wv_mid (f := 5) 0 (by omega) (by omega)]; exact wt_zero
theorem wv_next {f : Int} (h : 5 ≤ f) : wv (f + 1) = if 2 * wv f ≤ 14400000000000 then 2 * wv f else 14400000000000 := by
  by_cases h1 : 19 ≤ f
  · rw [wv_many h1, wv_many (by omega)]; decide
  · obtain ⟨k, hk⟩ := Int.eq_ofNat_of_zero_le (show 0 ≤ f - 5 by omega)
    have hf : f = 5 + (k : Int) := by omega
    rw [wv_mid k hf (by omega)]
    by_cases h2 : k = 13
    · subst h2
      rw [wv_many (by omega)]
      have : wt 14 = wt 13 * 2 := wt_succ 13
      have t := wt_top
      rw [if_neg (by omega)]
    · rw [wv_mid (k + 1) (by omega) (by omega), wt_succ]
      have := wt_le (k + 1) (by omega)
      have := wt_succ k
      rw [if_pos (by omega)]; omega
theorem wv_bound (f : Int) : 0 ≤ wv f ∧ wv f ≤ 14400000000000 := by
  by_cases h0 : f < 5
  · rw [wv_few h0]; omega
  · by_cases h1 : 19 ≤ f
    · rw [wv_many h1]; omega
    · obtain ⟨k, hk⟩ := Int.eq_ofNat_of_zero_le (show 0 ≤ f - 5 by omega)
      rw [wv_mid k (by omega) (by omega)]
      have := wt_pos k
      have := wt_le k (by omega)
      omega
theorem wv_mono (f : Int) : wv f ≤ wv (f + 1) := by
  by_cases h0 : f < 5
  · rw [wv_few h0]; exact (wv_bound _).1
  · rw [wv_next (by omega)]
    have := wv_bound f
    split <;> omega
theorem wv_stop {f : Int} (k : Nat) (hf : f = 5 + (k : Int)) (hk : k ≤ 14) : wv f = if 14400000000000 < wt k then 14400000000000 else wt k := by
  by_cases h14 : k = 14
  · have t := wt_top
    rw [wv_many (by omega), h14, if_pos (by omega)]
  · have := wt_le k (by omega)
    rw [wv_mid k hf (by omega), if_neg (by omega)]
end Go.Proofs.Ybulkhhm.Wait
