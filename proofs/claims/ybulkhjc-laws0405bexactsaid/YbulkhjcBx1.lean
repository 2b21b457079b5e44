import Derived.Test.YbulkhjcRows
import Derived.Test.YbulkhjcShelf
import Derived.Test.YbulkhjcBx0
import Derived.WalkKit
import Derived.WalkLawsBesides
import Derived.BigQuiet
import Derived.Deep.QuietTactic
import Derived.Laws.BitsAllLaws
namespace Go.Proofs.Ybulkhjc.Bx
open Go.RowKit

theorem bit_val (m k : Nat) (hm : m < 65536) : bits .and .u16 ((m : Int) / 2 ^ k) 1 = ((m / 2 ^ k % 2 : Nat) : Int) := by
  have e : (m : Int) / 2 ^ k = ((m / 2 ^ k : Nat) : Int) := by simp
  have hl : m / 2 ^ k < 65536 := Nat.lt_of_le_of_lt (Nat.div_le_self _ _) hm
  rw [e]
  have := u16_and_nat (m / 2 ^ k) 1 hl (by omega)
  rw [show ((1 : Nat) : Int) = 1 from rfl] at this
  rw [this, Nat.and_one_is_mod]
theorem bit_one (m k : Nat) (hm : m < 65536) : (bits .and .u16 ((m : Int) / 2 ^ k) 1 == 1) = m.testBit k := by
  rw [bit_val m k hm, Nat.testBit_eq_decide_div_mod_eq]
  have h2 : m / 2 ^ k % 2 < 2 := Nat.mod_lt _ (by decide)
  generalize m / 2 ^ k % 2 = r at h2 ⊢
  rcases (show r = 0 ∨ r = 1 by omega) with rfl | rfl <;> rfl
theorem bit_zero (m k : Nat) (hm : m < 65536) : (bits .and .u16 ((m : Int) / 2 ^ k) 1 == 0) = !m.testBit k := by
  rw [bit_val m k hm, Nat.testBit_eq_decide_div_mod_eq]
  have h2 : m / 2 ^ k % 2 < 2 := Nat.mod_lt _ (by decide)
  generalize m / 2 ^ k % 2 = r at h2 ⊢
  rcases (show r = 0 ∨ r = 1 by omega) with rfl | rfl <;> rfl

theorem wrap_mask_fin : ∀ n : Fin 17, IntKind.u16.wrap (IntKind.u16.wrap (2 ^ n.val) - 1) = ((2 ^ n.val - 1 : Nat) : Int) := by decide +kernel
theorem mask_val (z n : Nat) (hz : z < 65536) (hn : n ≤ 16) : bits .and .u16 (z : Int) (IntKind.u16.wrap (IntKind.u16.wrap (2 ^ n) - 1)) = ((z &&& (2 ^ n - 1) : Nat) : Int) := by
  rw [wrap_mask_fin ⟨n, by omega⟩]
  refine u16_and_nat z (2 ^ n - 1) hz ?_
  have : 2 ^ n ≤ 2 ^ 16 := Nat.pow_le_pow_right (by decide) hn
  have e : (2 : Nat) ^ 16 = 65536 := by decide
  omega

/-- what a slice of uint16 that came in holds at i, cut to n bits; nothing beyond its end -/
def mk (z : Nat → Nat) (len n i : Nat) : Nat := if i < len then z i &&& (2 ^ n - 1) else 0
theorem mk_lt (z : Nat → Nat) (len n i : Nat) : mk z len n i < 2 ^ n := by
  unfold mk
  have h : 0 < 2 ^ n := Nat.two_pow_pos n
  split
  · have : z i &&& (2 ^ n - 1) ≤ 2 ^ n - 1 := Nat.and_le_right
    omega
  · exact h

/-- a slice of uint16 that came in -/
def Row16 (w : World) (a : Option Addr) (len : Nat) (z : Nat → Nat) : Prop :=
  len ≤ 9223372036854775807 ∧ (∀ i, z i < 65536) ∧ (0 < len → ∃ b o, a = some ⟨b, o, none⟩ ∧ b < w.heap.size ∧ ∀ i, i < len → w.cell? ⟨b, o + i, none⟩ = some (.int .u16 (z i)))

set_option maxRecDepth 100000 in
theorem mask_in (b o len cap i n : Nat) (z : Nat) (w : World) (hi : i < len) (_hl : len ≤ 9223372036854775807) (hn : n ≤ 16) (hc : w.cell? ⟨b, o + i, none⟩ = some (.int .u16 z)) (hz : z < 65536) :
    Calls Yba.prog 13 #[.slice (some ⟨b, o, none⟩) len cap, .int .i64 i, .int .i64 n] w fun e w' => e = .returned (.int .u16 (z &&& (2 ^ n - 1) : Nat)) ∧ w' = w := by
  go_enter Yba.func13, Yba.ntmps13
  go_wp2
  go_ret
  exact ⟨congrArg (fun x => Ending.returned (.int .u16 x)) (mask_val z n hz hn), rfl⟩
set_option maxRecDepth 100000 in
theorem mask_out (a : Option Addr) (len cap i n : Nat) (w : World) (hi : len ≤ i) :
    Calls Yba.prog 13 #[.slice a len cap, .int .i64 i, .int .i64 n] w fun e w' => e = .returned (.int .u16 0) ∧ w' = w := by
  go_enter Yba.func13, Yba.ntmps13
  go_wp2
  go_ret
  exact ⟨rfl, rfl⟩
theorem mask_any (a : Option Addr) (len cap i n : Nat) (z : Nat → Nat) (w : World) (hR : Row16 w a len z) (hn : n ≤ 16) :
    Calls Yba.prog 13 #[.slice a len cap, .int .i64 i, .int .i64 n] w fun e w' => e = .returned (.int .u16 (mk z len n i)) ∧ w' = w := by
  unfold mk
  by_cases hi : i < len
  · obtain ⟨hl, hz, h⟩ := hR
    obtain ⟨b, o, rfl, _, hc⟩ := h (by omega)
    rw [if_pos hi]
    exact mask_in b o len cap i n (z i) w hi hl hn (hc i hi) (hz i)
  · rw [if_neg hi]
    exact mask_out a len cap i n w (by omega)

set_option maxRecDepth 100000 in
theorem pop_any (m : Nat) (hm : m < 65536) (w : World) :
    Calls Yba.prog 14 #[.int .u16 m] w fun e w' => e = .returned (.int .i64 (popTo m 16)) ∧ w' = w := by
  go_enter Yba.func14, Yba.ntmps14
  go_wp2
  go_loop [3, 4] (fun c i => ∃ k : Nat, k ≤ 16 ∧ i = .int .i64 k ∧ c = .int .i64 (popTo m k)) (fun _ i => 16 - (intOf i).toNat)
  case atStart => exact ⟨0, by omega, rfl, rfl⟩
  case round =>
    obtain ⟨k, hk, rfl, rfl⟩ := hrel
    have hp := popTo_le m k
    by_cases hlt : k < 16
    · have hb := bit_one m k hm
      cases hbit : m.testBit k
      · have HS : Hid (popTo m (k + 1) = popTo m k) := by show _ = _; simp [popTo, hbit]
        rw [hbit] at hb
        clear hbit
        go_wp2
        go_round
        case rel => exact ⟨k + 1, by omega, by go_num, by rw [HS.out]⟩
        case measure => simp [intOf]; omega
      · have HS : Hid (popTo m (k + 1) = popTo m k + 1) := by show _ = _; simp [popTo, hbit]
        rw [hbit] at hb
        clear hbit
        go_wp2
        go_round
        case rel => exact ⟨k + 1, by omega, by go_num, by rw [HS.out]; go_num⟩
        case measure => simp [intOf]; omega
    · obtain rfl : k = 16 := by omega
      go_wp2
      go_ret
      exact ⟨rfl, rfl⟩

def tieA (x : Nat) : Nat := (x * 2654435761 % 4294967296) ^^^ (x * 2654435761 % 4294967296 / 32768)
def tieB (u : Nat) : Nat := (u * 2246822519 % 4294967296) ^^^ (u * 2246822519 % 4294967296 / 8192)
/-- tieOrder -/
def tie (f j k : Nat) : Nat :=
  tieB (tieA (f ||| (j * 256) ||| (k * 65536)))
theorem tie_def (f j k : Nat) : tie f j k = tieB (tieA (f ||| (j * 256) ||| (k * 65536))) := rfl
theorem xor_lt32 {a b : Nat} (ha : a < 4294967296) (hb : b < 4294967296) : a ^^^ b < 4294967296 := by
  have e : (4294967296 : Nat) = 2 ^ 32 := by decide
  rw [e] at *
  exact Nat.xor_lt_two_pow ha hb
theorem tie_lt (f j k : Nat) : tie f j k < 4294967296 := by
  unfold tie tieB
  exact xor_lt32 (Nat.mod_lt _ (by decide)) (Nat.lt_of_le_of_lt (Nat.div_le_self _ _) (Nat.mod_lt _ (by decide)))
theorem tie_inj_fin : ∀ j k : Fin 17, ((List.range 17).map (fun f => tie f j.val k.val)).Pairwise (· ≠ ·) := by decide +kernel

theorem or_lt32 {a b : Nat} (ha : a < 4294967296) (hb : b < 4294967296) : a ||| b < 4294967296 := by
  have e : (4294967296 : Nat) = 2 ^ 32 := by decide
  rw [e] at *
  exact Nat.or_lt_two_pow ha hb

set_option maxRecDepth 100000 in
theorem tieA_val (x : Nat) : bits .xor .u32 ((x : Int) * 2654435761 % 4294967296) ((x : Int) * 2654435761 % 4294967296 / 32768) = (tieA x : Int) := by
  have e3 : ((x : Int) * 2654435761 % 4294967296) = ((x * 2654435761 % 4294967296 : Nat) : Int) := by omega
  have l3 : x * 2654435761 % 4294967296 < 4294967296 := Nat.mod_lt _ (by decide)
  unfold tieA
  rw [e3]
  generalize x * 2654435761 % 4294967296 = y at l3 ⊢
  have e4 : (y : Int) / 32768 = ((y / 32768 : Nat) : Int) := by omega
  rw [e4, u32_xor_nat y (y / 32768) l3 (by omega)]
set_option maxRecDepth 100000 in
theorem tieB_val (x : Nat) : bits .xor .u32 ((x : Int) * 2246822519 % 4294967296) ((x : Int) * 2246822519 % 4294967296 / 8192) = (tieB x : Int) := by
  have e3 : ((x : Int) * 2246822519 % 4294967296) = ((x * 2246822519 % 4294967296 : Nat) : Int) := by omega
  have l3 : x * 2246822519 % 4294967296 < 4294967296 := Nat.mod_lt _ (by decide)
  unfold tieB
  rw [e3]
  generalize x * 2246822519 % 4294967296 = y at l3 ⊢
  have e4 : (y : Int) / 8192 = ((y / 8192 : Nat) : Int) := by omega
  rw [e4, u32_xor_nat y (y / 8192) l3 (by omega)]
set_option maxRecDepth 100000 in
theorem tie_val (f j k : Nat) (hf : f ≤ 16) (hj : j ≤ 16) (hk : k ≤ 16) :
    bits .xor .u32 (bits .xor .u32 (bits .or .u32 (bits .or .u32 (f : Int) ((j : Int) * 256)) ((k : Int) * 65536) * 2654435761 % 4294967296) (bits .or .u32 (bits .or .u32 (f : Int) ((j : Int) * 256)) ((k : Int) * 65536) * 2654435761 % 4294967296 / 32768) * 2246822519 % 4294967296)
      (bits .xor .u32 (bits .or .u32 (bits .or .u32 (f : Int) ((j : Int) * 256)) ((k : Int) * 65536) * 2654435761 % 4294967296) (bits .or .u32 (bits .or .u32 (f : Int) ((j : Int) * 256)) ((k : Int) * 65536) * 2654435761 % 4294967296 / 32768) * 2246822519 % 4294967296 / 8192) = (tie f j k : Int) := by
  have c1 : ((j * 256 : Nat) : Int) = (j : Int) * 256 := by omega
  have c2 : ((k * 65536 : Nat) : Int) = (k : Int) * 65536 := by omega
  have e1 : bits .or .u32 (f : Int) ((j : Int) * 256) = ((f ||| (j * 256) : Nat) : Int) := by
    rw [← c1]; exact u32_or_nat f (j * 256) (by omega) (by omega)
  have l1 : f ||| (j * 256) < 4294967296 := or_lt32 (by omega) (by omega)
  have e2 : bits .or .u32 ((f ||| (j * 256) : Nat) : Int) ((k : Int) * 65536) = ((f ||| (j * 256) ||| (k * 65536) : Nat) : Int) := by
    rw [← c2]; exact u32_or_nat (f ||| (j * 256)) (k * 65536) l1 (by omega)
  rw [e1, e2]
  rw [tie_def]
  generalize f ||| (j * 256) ||| (k * 65536) = x
  rw [tieA_val, tieB_val]

set_option maxRecDepth 100000 in
theorem tie_any (f j k : Nat) (hf : f ≤ 16) (hj : j ≤ 16) (hk : k ≤ 16) (w : World) :
    Calls Yba.prog 15 #[.int .i64 f, .int .i64 j, .int .i64 k] w fun e w' => e = .returned (.int .u32 (tie f j k)) ∧ w' = w := by
  have HV : Hid (_ = _) := tie_val f j k hf hj hk
  go_enter Yba.func15, Yba.ntmps15
  go_wp2
  go_ret
  exact ⟨congrArg (fun x => Ending.returned (.int .u32 x)) HV.out, rfl⟩

theorem tie_inj {f f' j k : Nat} (hf : f ≤ 16) (hf' : f' ≤ 16) (hj : j ≤ 16) (hk : k ≤ 16) (h : tie f j k = tie f' j k) : f = f' := by
  have hp := tie_inj_fin ⟨j, by omega⟩ ⟨k, by omega⟩
  rw [List.pairwise_iff_getElem] at hp
  simp only [List.length_map, List.length_range, List.getElem_map, List.getElem_range] at hp
  rcases Nat.lt_trichotomy f f' with h1 | h1 | h1
  · exact absurd h (hp f f' (by omega) (by omega) h1)
  · exact h1
  · exact absurd h.symm (hp f' f (by omega) (by omega) h1)

/-! sets -/
/-- the set that mask m stands for, L bytes at the head of block g -/
def SetAt (w : World) (g L m : Nat) : Prop := ∀ i, i < L → w.cell? ⟨g, i, none⟩ = some (.int .u8 (sb m i))

theorem has_val (m i r : Nat) (hr : r < 8) : (bits .and .u8 (sb m i : Int) (128 / 2 ^ r) != 0) = m.testBit (8 * i + r) := by
  have e : (128 : Int) / (2 : Int) ^ r = ((128 >>> r : Nat) : Int) := by
    rw [Nat.shiftRight_eq_div_pow]
    have h : ((128 / 2 ^ r : Nat) : Int) = 128 / (2 : Int) ^ r := by simp
    exact h.symm
  have hl : 128 >>> r < 256 := by rw [Nat.shiftRight_eq_div_pow]; exact Nat.lt_of_le_of_lt (Nat.div_le_self _ _) (by decide)
  rw [e, u8_and_nat _ _ (sb_lt m i) hl, ← sb_has m i r hr, Bool.eq_iff_iff]
  simp

set_option maxRecDepth 100000 in
theorem has_any (g L m j c : Nat) (w : World) (hj : 1 ≤ j) (hj2 : j ≤ 16) (hL : (j - 1) / 8 < L) (_hL2 : L ≤ 2) (hS : SetAt w g L m) :
    Calls Yba.prog 16 #[.slice (some ⟨g, 0, none⟩) L c, .int .i64 j] w fun e w' => e = .returned (.bool (m.testBit (j - 1))) ∧ ∃ q, w' = w.drewN q := by
  have hc := hS ((j - 1) / 8) hL
  have hv := has_val m ((j - 1) / 8) ((j - 1) % 8) (by omega)
  rw [show 8 * ((j - 1) / 8) + (j - 1) % 8 = j - 1 from by omega] at hv
  have HV : Hid (_ = _) := hv
  clear hv hS
  go_enter Yba.func16, Yba.ntmps16
  go_wp2
  go_quiet (fail)
  go_wp2
  go_ret
  exact ⟨congrArg (fun x => Ending.returned (.bool x)) HV.out, _, rfl⟩
end Go.Proofs.Ybulkhjc.Bx
