import Derived.Test.YbulkhhmRows
import Derived.Test.YbulkhhmWaitPlain
import Derived.WalkKit
namespace Go.Proofs.Ybulkhhm.Wait
open Go.RowKit

theorem ret_int {k : IntKind} {a b : Int} (h : a = b) : Ending.returned (.int k a) = .returned (.int k b) := by rw [h]

set_option maxRecDepth 100000 in
theorem wait_any (f : Int) (h0 : -9223372036854775808 ≤ f) (h1 : f ≤ 9223372036854775807) (w : World) :
    Calls Yba.prog 11 #[.int .i64 f] w fun e w' => e = .returned (.int .i64 (wv f)) ∧ w' = w := by
  by_cases h : f < 5
  · go_enter Yba.func11, Yba.ntmps11
    go_wp2
    go_ret
    exact ⟨ret_int (wv_few h).symm, rfl⟩
  · go_enter Yba.func11, Yba.ntmps11
    go_wp2
    go_loop [3, 4] (fun t n => ∃ k : Nat, k ≤ 14 ∧ (5 : Int) + k ≤ f ∧ n = .int .i64 (5 + k) ∧ t = .int .i64 (wt k)) (fun _ n => (f - intOf n).toNat)
    case atStart => exact ⟨0, by omega, by omega, rfl, by rw [wt_zero]⟩
    case round =>
      obtain ⟨k, hk, hkf, rfl, rfl⟩ := hrel
      have hp := wt_pos k
      by_cases hlt : (5 : Int) + k < f
      · by_cases h14 : k = 14
        · have ht : wt k = 16384000000000 := by rw [h14]; exact wt_top
          have ht' : ¬ wt k < 14400000000000 := by omega
          have HT : Hid (wt k = 16384000000000) := ht
          have HF : Hid (wv f = 14400000000000) := wv_many (by omega)
          clear ht h14
          go_wp2
          all_goals
            go_ret
            exact ⟨ret_int (by have := HT.out; have := HF.out; omega), rfl⟩
        · have hl : wt k < 14400000000000 := by have := wt_le k (by omega); omega
          have HS : Hid (wt (k + 1) = wt k * 2) := wt_succ k
          go_wp2
          go_round
          case rel => exact ⟨k + 1, by omega, by omega, by go_num, by rw [HS.out]⟩
          case measure => simp [intOf]; omega
      · have HF : Hid (wv f = if 14400000000000 < wt k then 14400000000000 else wt k) := wv_stop k (by omega) hk
        go_wp2
        all_goals
          go_ret
          exact ⟨ret_int (by rw [HF.out]; split <;> omega), rfl⟩

set_option maxRecDepth 100000 in
theorem expect_any (f : Int) (h0 : -9223372036854775808 ≤ f) (h1 : f ≤ 9223372036854775807) (w : World) :
    Calls Yba.prog 12 #[.int .i64 f] w fun e w' => e = .returned (.int .i64 (wv f)) ∧ w' = w := by
  by_cases h : f < 5
  · go_enter Yba.func12, Yba.ntmps12
    go_wp2
    go_ret
    exact ⟨ret_int (wv_few h).symm, rfl⟩
  · by_cases h19 : 19 ≤ f
    · have HF : Hid (wv f = 14400000000000) := wv_many h19
      go_enter Yba.func12, Yba.ntmps12
      go_wp2
      go_ret
      exact ⟨ret_int HF.out.symm, rfl⟩
    · go_enter Yba.func12, Yba.ntmps12
      go_wp2
      go_loop [4, 5] (fun t n => ∃ k : Nat, (k : Int) ≤ f - 5 ∧ n = .int .i64 k ∧ t = .int .i64 (wt k)) (fun _ n => (f - intOf n).toNat)
      case atStart => exact ⟨0, by omega, rfl, by rw [wt_zero]⟩
      case round =>
        obtain ⟨k, hkf, rfl, rfl⟩ := hrel
        have hp := wt_pos k
        have hl : wt k < 14400000000000 := by have := wt_le k (by omega); omega
        by_cases hlt : (k : Int) < f - 5
        · have HS : Hid (wt (k + 1) = wt k * 2) := wt_succ k
          go_wp2
          go_round
          case rel => exact ⟨k + 1, by omega, by go_num, by rw [HS.out]⟩
          case measure => simp [intOf]; omega
        · have HF : Hid (wv f = wt k) := wv_mid k (by omega) (by omega)
          have hg : ¬ 14400000000000 < wt k := by omega
          clear hl hp
          go_wp2
          go_ret
          exact ⟨ret_int HF.out.symm, rfl⟩
end Go.Proofs.Ybulkhhm.Wait
