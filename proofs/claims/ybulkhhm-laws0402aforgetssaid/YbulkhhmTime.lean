import Derived.Test.YbulkhhmRows
import Derived.WalkKit
import Derived.WalkLawsBesides
import Derived.Below
import Derived.Laws.BitsAllLaws
namespace Go.Proofs.Ybulkhhm.Fg
open Go.RowKit

/-- the time d nanoseconds behind the zero time: its value -/
def tmv (d : Int) : Value := .agg #[.int .u64 (d % 1000000000), .int .i64 (d / 1000000000), .pointer none]

theorem and_low (v : Int) (h0 : 0 ≤ v) (h1 : v < 1000000000) : bits .and .u64 v 1073741823 = v := by
  rw [u64_and v 1073741823 h0 (by omega) (by omega) (by omega)]
  have : (1073741823 : Int).toNat = 2 ^ 30 - 1 := by decide
  rw [this, Nat.and_two_pow_sub_one_of_lt_two_pow (by omega)]
  omega
theorem and_top (v : Int) (h0 : 0 ≤ v) (h1 : v < 1000000000) : bits .and .u64 v 9223372036854775808 = 0 := by
  rw [u64_and v 9223372036854775808 h0 (by omega) (by omega) (by omega)]
  have e : (9223372036854775808 : Int).toNat = 2 ^ 63 := by decide
  rw [e]
  have z : v.toNat &&& 2 ^ 63 = 0 := by
    refine Nat.eq_of_testBit_eq fun i => ?_
    rw [Nat.testBit_and, Nat.testBit_two_pow, Nat.zero_testBit]
    by_cases hi : 63 = i
    · subst hi
      rw [Nat.testBit_lt_two_pow (by have : (2 : Nat) ^ 63 = 9223372036854775808 := by decide
                                     omega)]; rfl
    · simp [hi]
  rw [z]; rfl
theorem andNot_zero : bits .andNot .u64 0 1073741823 = 0 := by
  rw [u64_andNot 0 1073741823 (by omega) (by omega) (by omega) (by omega)]; simp
theorem or_zero (v : Int) (h0 : 0 ≤ v) (h1 : v < 1000000000) : bits .or .u64 0 v = v := by
  rw [u64_or 0 v (by omega) (by omega) (by omega) (by omega)]; simp; omega

set_option maxRecDepth 100000 in
theorem isZero_any (a b : Int) (l : Option Addr) (w : World) :
    Calls Yba.prog 10 #[.agg #[.int .u64 a, .int .i64 b, .pointer l]] w fun e w' => e = .returned (.bool (a == 0 && b == 0)) ∧ Below w.heap.size w w' := by
  cases ha : (a == 0)
  · go_enter Yba.func10, Yba.ntmps10
    go_wp2
    go_ret
    exact ⟨rfl, (Below.refl _ _).alloc (Nat.le_refl _) _⟩
  · go_enter Yba.func10, Yba.ntmps10
    go_wp2
    go_ret
    exact ⟨by simp, (Below.refl _ _).alloc (Nat.le_refl _) _⟩

set_option maxRecDepth 100000 in
theorem nsec_any (b o : Nat) (v : Int) (h0 : 0 ≤ v) (h1 : v < 1000000000) (w : World) (hc : w.cell? ⟨b, o, none⟩ = some (.int .u64 v)) :
    Calls Yba.prog 14 #[.pointer (some ⟨b, o, none⟩)] w fun e w' => e = .returned (.int .i32 v) ∧ w' = w := by
  have ha := and_low v h0 h1
  go_enter Yba.func14, Yba.ntmps14
  go_wp2
  go_ret
  exact ⟨rfl, rfl⟩

set_option maxRecDepth 100000 in
theorem sec_any (b o : Nat) (v x : Int) (h0 : 0 ≤ v) (h1 : v < 1000000000) (w : World) (hc : w.cell? ⟨b, o, none⟩ = some (.int .u64 v)) (hc1 : w.cell? ⟨b, o + 1, none⟩ = some (.int .i64 x)) :
    Calls Yba.prog 18 #[.pointer (some ⟨b, o, none⟩)] w fun e w' => e = .returned (.int .i64 x) ∧ w' = w := by
  have ha := and_top v h0 h1
  go_enter Yba.func18, Yba.ntmps18
  go_wp2
  go_ret
  exact ⟨rfl, rfl⟩

set_option maxRecDepth 100000 in
theorem addSec_any (b o : Nat) (v d : Int) (h0 : 0 ≤ v) (h1 : v < 1000000000) (g0 : -9223372036854775808 ≤ d) (g1 : d ≤ 9223372036854775807) (w : World) (hc : w.cell? ⟨b, o, none⟩ = some (.int .u64 v)) (hc1 : w.cell? ⟨b, o + 1, none⟩ = some (.int .i64 0)) (hf : w.frozen? ⟨b, o + 1, none⟩ = false) :
    Calls Yba.prog 15 #[.pointer (some ⟨b, o, none⟩), .int .i64 d] w fun e w' => e = .returned (.tuple #[]) ∧ w' = w.setCell ⟨b, o + 1, none⟩ (.int .i64 d) := by
  have ha := and_top v h0 h1
  by_cases hd : 0 < d
  · go_enter Yba.func15, Yba.ntmps15
    go_wp2
    go_end0
    exact ⟨rfl, rfl⟩
  · go_enter Yba.func15, Yba.ntmps15
    go_wp2
    go_end0
    exact ⟨rfl, rfl⟩
set_option maxRecDepth 100000 in
theorem add_pos (d : Int) (h0 : 0 ≤ d) (h1 : d ≤ 9223372036854775807) (w : World) :
    Calls Yba.prog 7 #[.agg #[.int .u64 0, .int .i64 0, .pointer none], .int .i64 d] w fun e w' => e = .returned (tmv d) ∧ Below w.heap.size w w' := by
  have a0 := andNot_zero
  have a1 := or_zero (d % 1000000000) (by omega) (by omega)
  have a2 := and_top (d % 1000000000) (by omega) (by omega)
  go_enter Yba.func7, Yba.ntmps7
  go_wp2_with fail
  refine (nsec_any _ _ 0 (by omega) (by omega) _ (by simp)).mono ?_
  rintro e w' ⟨rfl, rfl⟩
  go_wp2_with fail
  refine (addSec_any _ _ (d % 1000000000) _ (by omega) (by omega) (by omega) (by omega) _ (by simp) (by simp) (by simp)).mono ?_
  rintro e w' ⟨rfl, rfl⟩
  go_wp2
  exact bodyPost_ret (v := tmv d) (by simp [results, Yba.results7, go_sem, tmv]) rfl ⟨rfl, ((Below.refl _ _).alloc (Nat.le_refl _) _).alloc (by simp) _⟩
theorem tparts (d : Int) (h1 : d < 0) : ∃ q r : Int, d.tdiv 1000000000 = q ∧ d.tmod 1000000000 = r ∧ -1000000000 < r ∧ r ≤ 0 ∧ d = q * 1000000000 + r := by
  refine ⟨_, _, rfl, rfl, ?_⟩
  obtain ⟨m, hm⟩ : ∃ m : Int, d = -m := ⟨-d, by omega⟩
  subst hm
  rw [Int.neg_tdiv, Int.neg_tmod, Int.tdiv_eq_ediv_of_nonneg (by omega), Int.tmod_eq_emod_of_nonneg (by omega)]
  omega
set_option maxRecDepth 100000 in
theorem add_neg (d : Int) (h0 : -9223372036854775808 ≤ d) (h1 : d < 0) (w : World) :
    Calls Yba.prog 7 #[.agg #[.int .u64 0, .int .i64 0, .pointer none], .int .i64 d] w fun e w' => e = .returned (tmv d) ∧ Below w.heap.size w w' := by
  have a0 := andNot_zero
  obtain ⟨q, r, hq, hr, hr0, hr1, hd⟩ := tparts d h1
  have HD : Hid (d = q * 1000000000 + r) := hd
  have hq1 : -9223372037 ≤ q := by omega
  have hq2 : q ≤ 0 := by omega
  clear hd
  by_cases hz : r < 0
  · have a1 := or_zero (r + 1000000000) (by omega) (by omega)
    have a2 := and_top (r + 1000000000) (by omega) (by omega)
    go_enter Yba.func7, Yba.ntmps7
    go_wp2_with fail
    refine (nsec_any _ _ 0 (by omega) (by omega) _ (by simp)).mono ?_
    rintro e w' ⟨rfl, rfl⟩
    go_wp2_with fail
    refine (addSec_any _ _ (r + 1000000000) _ (by omega) (by omega) (by omega) (by omega) _ (by simp) (by simp) (by simp)).mono ?_
    rintro e w' ⟨rfl, rfl⟩
    go_wp2
    refine bodyPost_ret (v := .agg #[.int .u64 (r + 1000000000), .int .i64 (q - 1), .pointer none]) (by simp [results, Yba.results7, go_sem]) rfl ⟨?_, ((Below.refl _ _).alloc (Nat.le_refl _) _).alloc (by simp) _⟩
    have := HD.out
    rw [show r + 1000000000 = d % 1000000000 from by omega, show q - 1 = d / 1000000000 from by omega]; rfl
  · have hz' : r = 0 := by omega
    subst hz'
    go_enter Yba.func7, Yba.ntmps7
    have a1 := or_zero 0 (by omega) (by omega)
    have a2 := and_top 0 (by omega) (by omega)
    go_wp2_with fail
    refine (nsec_any _ _ 0 (by omega) (by omega) _ (by simp)).mono ?_
    rintro e w' ⟨rfl, rfl⟩
    go_wp2_with fail
    refine (addSec_any _ _ 0 _ (by omega) (by omega) (by omega) (by omega) _ (by simp) (by simp) (by simp)).mono ?_
    rintro e w' ⟨rfl, rfl⟩
    go_wp2
    refine bodyPost_ret (v := .agg #[.int .u64 0, .int .i64 q, .pointer none]) (by simp [results, Yba.results7, go_sem]) rfl ⟨?_, ((Below.refl _ _).alloc (Nat.le_refl _) _).alloc (by simp) _⟩
    have := HD.out
    have e1 : d % 1000000000 = 0 := by omega
    have e2 : d / 1000000000 = q := by omega
    rw [tmv, e1, e2]

theorem add_any (d : Int) (h0 : -9223372036854775808 ≤ d) (h1 : d ≤ 9223372036854775807) (w : World) :
    Calls Yba.prog 7 #[.agg #[.int .u64 0, .int .i64 0, .pointer none], .int .i64 d] w fun e w' => e = .returned (tmv d) ∧ Below w.heap.size w w' := by
  by_cases h : 0 ≤ d
  · exact add_pos d h h1 w
  · exact add_neg d h0 (by omega) w
theorem and2_top (x y : Int) (h0 : 0 ≤ x) (h1 : x < 1000000000) (g0 : 0 ≤ y) (g1 : y < 1000000000) : bits .and .u64 (bits .and .u64 x y) 9223372036854775808 = 0 := by
  rw [u64_and x y h0 (by omega) g0 (by omega)]
  have : x.toNat &&& y.toNat ≤ x.toNat := Nat.and_le_left
  exact and_top _ (by omega) (by omega)
theorem before_law (n p : Int) : (decide (n / 1000000000 < p / 1000000000) || ((n / 1000000000 == p / 1000000000) && decide (n % 1000000000 < p % 1000000000))) = decide (n < p) := by
  rw [Bool.eq_iff_iff]; simp; omega
set_option maxRecDepth 100000 in
theorem before_parts (x1 s1 x2 s2 : Int) (h0 : 0 ≤ x1) (h1 : x1 < 1000000000) (g0 : 0 ≤ x2) (g1 : x2 < 1000000000) (w : World) :
    Calls Yba.prog 20 #[.agg #[.int .u64 x1, .int .i64 s1, .pointer none], .agg #[.int .u64 x2, .int .i64 s2, .pointer none]] w fun e w' =>
      e = .returned (.bool (decide (s1 < s2) || ((s1 == s2) && decide (x1 < x2)))) ∧ Below w.heap.size w w' := by
  have a0 := and2_top x1 x2 h0 h1 g0 g1
  have hb : Below w.heap.size w ((w.alloc (.cells #[.int .u64 x1, .int .i64 s1, .pointer none] 26)).alloc (.cells #[.int .u64 x2, .int .i64 s2, .pointer none] 26)) := ((Below.refl _ _).alloc (Nat.le_refl _) _).alloc (by simp) _
  rcases Int.lt_trichotomy s1 s2 with hs | hs | hs
  · go_enter Yba.func20, Yba.ntmps20
    go_wp2_with fail
    refine (sec_any w.heap.size 0 x1 s1 h0 h1 _ (by simp) (by simp)).mono ?_
    rintro e w' ⟨rfl, rfl⟩
    go_wp2_with fail
    refine (sec_any (w.heap.size + 1) 0 x2 s2 g0 g1 _ (by simp) (by simp)).mono ?_
    rintro e w' ⟨rfl, rfl⟩
    go_wp2
    go_ret
    exact ⟨by simp [*], hb⟩
  · subst hs
    go_enter Yba.func20, Yba.ntmps20
    go_wp2_with fail
    refine (sec_any w.heap.size 0 x1 s1 h0 h1 _ (by simp) (by simp)).mono ?_
    rintro e w' ⟨rfl, rfl⟩
    go_wp2_with fail
    refine (sec_any (w.heap.size + 1) 0 x2 s1 g0 g1 _ (by simp) (by simp)).mono ?_
    rintro e w' ⟨rfl, rfl⟩
    go_wp2_with fail
    refine (nsec_any w.heap.size 0 x1 h0 h1 _ (by simp)).mono ?_
    rintro e w' ⟨rfl, rfl⟩
    go_wp2_with fail
    refine (nsec_any (w.heap.size + 1) 0 x2 g0 g1 _ (by simp)).mono ?_
    rintro e w' ⟨rfl, rfl⟩
    go_wp2
    go_ret
    exact ⟨by simp, hb⟩
  · have hs' : ¬ s1 < s2 := by omega
    have hs2 : (s1 == s2) = false := by simp; omega
    go_enter Yba.func20, Yba.ntmps20
    go_wp2_with fail
    refine (sec_any w.heap.size 0 x1 s1 h0 h1 _ (by simp) (by simp)).mono ?_
    rintro e w' ⟨rfl, rfl⟩
    go_wp2_with fail
    refine (sec_any (w.heap.size + 1) 0 x2 s2 g0 g1 _ (by simp) (by simp)).mono ?_
    rintro e w' ⟨rfl, rfl⟩
    go_wp2
    go_ret
    exact ⟨by simp [*], hb⟩
theorem before_any (n p : Int) (w : World) :
    Calls Yba.prog 20 #[tmv n, tmv p] w fun e w' => e = .returned (.bool (decide (n < p))) ∧ Below w.heap.size w w' := by
  refine (before_parts (n % 1000000000) (n / 1000000000) (p % 1000000000) (p / 1000000000) (by omega) (by omega) (by omega) (by omega) w).mono ?_
  rintro e w' ⟨rfl, hb⟩
  exact ⟨by rw [before_law], hb⟩
end Go.Proofs.Ybulkhhm.Fg
