import Derived.Test.YbulkhjcBx1
import Derived.Deep.OwnRows
import Derived.Below
namespace Go.Proofs.Ybulkhjc.Bx
open Go.RowKit

/-- the cells of the set that mask m stands for -/
def setV (m : Nat) (i : Nat) : Value := .int .u8 (sb m i)
theorem setAt_of {w : World} {g L m : Nat} (h : w.rowIs g 5 L (setV m)) : SetAt w g L m := fun _ hi => h.cell hi
theorem info5 : (Yba.prog.info? 5).map (fun i => (i.zero, i.size, i.bytes)) = some (some (.int .u8 0), 1, 1) := by kernel_rfl
theorem sb_zero (i : Nat) : sb 0 i = 0 := by unfold sb; simp [rev8]

set_option maxRecDepth 100000 in
theorem newSet_any (n : Nat) (hn : n ≤ 16) (w : World) :
    Calls Yba.prog 24 #[.int .i64 n] w fun e w' => e = .returned (.slice (some ⟨w.heap.size, 0, none⟩) ((n + 7) / 8) ((n + 7) / 8)) ∧ w'.rowIs w.heap.size 5 ((n + 7) / 8) (setV 0) ∧ Below w.heap.size w w' := by
  have hmk : ∀ w : World, (Instr.makeSlice 70 (.int .i64 (((n : Int) + 7) / 8)) (.int .i64 (((n : Int) + 7) / 8))).run Yba.prog w = .ok (.slice (some ⟨w.heap.size, 0, none⟩) ((n + 7) / 8) ((n + 7) / 8)) (w.alloc (.cells (madeCells #[.int .u8 0] ((n + 7) / 8)) 5)) := fun w => by
    have := run_make_row' (P := Yba.prog) 70 5 (.int .u8 0) 1 Yba.underlying70 info5 rfl .i64 .i64 ((n + 7) / 8) (by omega) (by omega) w
    rw [show ((((n + 7) / 8 : Nat)) : Int) = ((n : Int) + 7) / 8 from by omega] at this
    exact this
  have HR : Hid (∀ w : World, (w.alloc (.cells (madeCells #[.int .u8 0] ((n + 7) / 8)) 5)).rowIs w.heap.size 5 ((n + 7) / 8) (setV 0)) := fun w =>
    (World.rowIs_made w (.int .u8 0) ((n + 7) / 8) 5).congr (fun i _ => by simp [setV, sb_zero])
  go_enter Yba.func24, Yba.ntmps24
  go_wp2
  go_ret
  exact ⟨rfl, HR.out _, (Below.refl _ _).alloc (Nat.le_refl _) _⟩

theorem add_val (m i r : Nat) (hr : r < 8) : bits .or .u8 (sb m i : Int) (128 / (2 : Int) ^ r) = (sb (m ||| 2 ^ (8 * i + r)) i : Int) := by
  have e : (128 : Int) / (2 : Int) ^ r = ((128 >>> r : Nat) : Int) := by
    rw [Nat.shiftRight_eq_div_pow]
    have h : ((128 / 2 ^ r : Nat) : Int) = 128 / (2 : Int) ^ r := by simp
    exact h.symm
  have hl : 128 >>> r < 256 := by rw [Nat.shiftRight_eq_div_pow]; exact Nat.lt_of_le_of_lt (Nat.div_le_self _ _) (by decide)
  rw [e, u8_or_nat _ _ (sb_lt m i) hl]
  refine congrArg Int.ofNat ?_
  unfold sb
  rw [add_fin ⟨m / 2 ^ (8 * i) % 256, Nat.mod_lt _ (by decide)⟩ ⟨r, hr⟩]
  refine congrArg rev8 ?_
  refine Nat.eq_of_testBit_eq fun s => ?_
  simp only [show (256 : Nat) = 2 ^ 8 from by decide, Nat.testBit_or, Nat.testBit_mod_two_pow, Nat.testBit_div_two_pow, Nat.testBit_two_pow]
  by_cases hs : s < 8
  · simp [hs]
    refine congrArg _ ?_
    rw [Bool.eq_iff_iff]; simp; omega
  · simp [hs]; omega
theorem add_other (m j i : Nat) (h : i ≠ j / 8) : sb (m ||| 2 ^ j) i = sb m i := by
  unfold sb
  refine congrArg rev8 ?_
  refine Nat.eq_of_testBit_eq fun s => ?_
  simp only [show (256 : Nat) = 2 ^ 8 from by decide, Nat.testBit_or, Nat.testBit_mod_two_pow, Nat.testBit_div_two_pow, Nat.testBit_two_pow]
  by_cases hs : s < 8
  · simp [hs]; omega
  · simp [hs]

set_option maxRecDepth 100000 in
theorem add_any (g L m j c B : Nat) (w : World) (hj : 1 ≤ j) (hj2 : j ≤ 16) (hL : (j - 1) / 8 < L) (hB : B ≤ g) (hS : w.rowIs g 5 L (setV m)) :
    Calls Yba.prog 25 #[.slice (some ⟨g, 0, none⟩) L c, .int .i64 j] w fun e w' => e = .returned (.tuple #[]) ∧ w'.rowIs g 5 L (setV (m ||| 2 ^ (j - 1))) ∧ Below B w w' := by
  have hc : w.cell? ⟨g, (j - 1) / 8, none⟩ = some (.int .u8 (sb m ((j - 1) / 8))) := hS.cell hL
  have hf := hS.frozen ((j - 1) / 8)
  have hv := add_val m ((j - 1) / 8) ((j - 1) % 8) (by omega)
  rw [show 8 * ((j - 1) / 8) + (j - 1) % 8 = j - 1 from by omega] at hv
  have HV : Hid (_ = _) := hv
  have HS : Hid (w.rowIs g 5 L (setV m)) := hS
  clear hv hS
  go_enter Yba.func25, Yba.ntmps25
  go_region
  refine bodyPost_end (v := .tuple #[]) (by simp [results, Yba.f25]) rfl ?_
  rw [HV.out]
  refine ⟨rfl, ?_, (((Below.refl B w).setCell (p := ⟨g, (j - 1) / 8, none⟩) hB _)).drew⟩
  refine World.rowIs.drew ((HS.out.set ((j - 1) / 8) _).congr fun i _ => ?_)
  by_cases h : i = (j - 1) / 8
  · subst h; simp [setV]
  · simp [setV, h, add_other m (j - 1) i h]

/-- the k lowest bits of m -/
def cut (m k : Nat) : Nat := m % 2 ^ k
theorem cut_zero (m : Nat) : cut m 0 = 0 := by simp [cut, Nat.mod_one]
theorem cut_set (m k : Nat) (h : m.testBit k = true) : cut m k ||| 2 ^ k = cut m (k + 1) := by
  refine Nat.eq_of_testBit_eq fun s => ?_
  simp only [cut, Nat.testBit_or, Nat.testBit_mod_two_pow, Nat.testBit_two_pow]
  by_cases hs : s = k
  · subst hs; simp [h]
  · have : ¬ k = s := fun e => hs e.symm
    by_cases h2 : s < k
    · simp [this, h2, Nat.lt_succ_of_lt h2]
    · simp [this, h2, show ¬ s < k + 1 from by omega]
theorem cut_clear (m k : Nat) (h : m.testBit k = false) : cut m k = cut m (k + 1) := by
  refine Nat.eq_of_testBit_eq fun s => ?_
  simp only [cut, Nat.testBit_mod_two_pow]
  by_cases hs : s = k
  · subst hs; simp [h]
  · by_cases h2 : s < k
    · simp [h2, Nat.lt_succ_of_lt h2]
    · simp [h2, show ¬ s < k + 1 from by omega]
theorem cut_all {m n : Nat} (h : m < 2 ^ n) : cut m n = m := Nat.mod_eq_of_lt h

/-- what zzs0405bset hands back -/
def SetPost (w : World) (L m : Nat) (e : Ending) (w' : World) : Prop :=
  e = .returned (.slice (some ⟨w.heap.size, 0, none⟩) L L) ∧ w'.rowIs w.heap.size 5 L (setV m) ∧ Below w.heap.size w w'

def SetRel (w : World) (n m : Nat) (i : Value) (wr : World) : Prop :=
  ∃ f : Nat, 1 ≤ f ∧ f ≤ n + 1 ∧ i = .int .i64 f ∧ wr.rowIs w.heap.size 5 ((n + 7) / 8) (setV (cut m (f - 1))) ∧ Below w.heap.size w wr

set_option maxRecDepth 100000 in
theorem bset_any (n m : Nat) (hn : n ≤ 16) (hm : m < 2 ^ n) (w : World) :
    Calls Yba.prog 20 #[.int .i64 n, .int .u16 m] w (SetPost w ((n + 7) / 8) m) := by
  have hm16 : m < 65536 := Nat.lt_of_lt_of_le hm (by rw [show (65536 : Nat) = 2 ^ 16 from by decide]; exact Nat.pow_le_pow_right (by decide) hn)
  go_enter Yba.func20, Yba.ntmps20
  go_wp2_with fail
  refine (newSet_any n hn _).mono ?_
  rintro e w1 ⟨rfl, hr1, hb1⟩
  have HR1 : Hid (w1.rowIs w.heap.size 5 ((n + 7) / 8) (setV 0)) := hr1
  have HB1 : Hid (Below w.heap.size w w1) := hb1
  clear hr1 hb1
  go_wp2
  go_loopw [6] (fun i wr => SetRel w n m i wr) (fun i _ => n + 1 - (intOf i).toNat)
  case atStart => exact ⟨1, by omega, by omega, rfl, by rw [show 1 - 1 = 0 from rfl, cut_zero]; exact HR1.out, HB1.out⟩
  case round =>


    obtain ⟨f, hf1, hf2, rfl, hr, hb⟩ := hrel
    by_cases hlt : f ≤ n
    · have hb1 := bit_one m (f - 1) hm16
      have HR : Hid (wr.rowIs w.heap.size 5 ((n + 7) / 8) (setV (cut m (f - 1)))) := hr
      have HB : Hid (Below w.heap.size w wr) := hb
      clear hr hb
      cases hbit : m.testBit (f - 1)
      · have HS : Hid (cut m (f - 1) = cut m (f + 1 - 1)) := by
          have := cut_clear m (f - 1) hbit
          rw [show f - 1 + 1 = f + 1 - 1 from by omega] at this
          exact this
        rw [hbit] at hb1
        clear hbit
        go_wp2
        go_round
        case rel => exact ⟨f + 1, by omega, by omega, by go_num, by rw [← HS.out]; exact HR.out, HB.out⟩
        case measure => simp [intOf]; omega
      · have HS : Hid (cut m (f - 1) ||| 2 ^ (f - 1) = cut m (f + 1 - 1)) := by
          have := cut_set m (f - 1) hbit
          rw [show f - 1 + 1 = f + 1 - 1 from by omega] at this
          exact this
        rw [hbit] at hb1
        clear hbit
        go_wp2_with fail
        refine (add_any w.heap.size ((n + 7) / 8) (cut m (f - 1)) f _ w.heap.size _ hf1 (by omega) (by omega) (Nat.le_refl _) HR.out).mono ?_
        rintro e w2 ⟨rfl, hr2, hb2⟩
        have HR2 : Hid (w2.rowIs w.heap.size 5 ((n + 7) / 8) (setV (cut m (f - 1) ||| 2 ^ (f - 1)))) := hr2
        have HB2 : Hid (Below w.heap.size wr w2) := hb2
        clear hr2 hb2
        go_wp2
        go_round
        case rel => exact ⟨f + 1, by omega, by omega, by go_num, by rw [← HS.out]; exact HR2.out, HB.out.trans HB2.out⟩
        case measure => simp [intOf]; omega
    · obtain rfl : f = n + 1 := by omega
      have HR : Hid (wr.rowIs w.heap.size 5 ((n + 7) / 8) (setV (cut m (n + 1 - 1)))) := hr
      have HB : Hid (Below w.heap.size w wr) := hb
      clear hr hb
      go_wp2
      go_ret
      refine ⟨rfl, ?_, HB.out⟩
      have := HR.out
      rw [show n + 1 - 1 = n from by omega, cut_all hm] at this
      exact this

/-! common -/
theorem ones_fin : ∀ x : Fin 256, Lib.onesCount x.val = popTo x.val 8 := by decide +kernel
set_option maxRecDepth 100000 in
theorem common_any (g g' L m o c c' : Nat) (w : World) (hL2 : L ≤ 2) (h1 : SetAt w g L m) (h2 : SetAt w g' L o) :
    Calls Yba.prog 21 #[.slice (some ⟨g, 0, none⟩) L c, .slice (some ⟨g', 0, none⟩) L c'] w fun e w' => e = .returned (.int .i64 (popTo (m &&& o) (8 * L))) ∧ ∃ q, w' = w.drewN q := by
  have H1 : Hid (SetAt w g L m) := h1
  have H2 : Hid (SetAt w g' L o) := h2
  clear h1 h2
  go_enter Yba.func21, Yba.ntmps21
  go_wp2
  go_loopw [5, 9] (fun s i wr => ∃ k q : Nat, k ≤ L ∧ wr = w.drewN q ∧ i = .int .i64 k ∧ s = .int .i64 (popTo (m &&& o) (8 * k))) (fun _ i _ => L - (intOf i).toNat)
  case atStart => exact ⟨0, 0, by omega, rfl, rfl, rfl⟩
  case round =>
    obtain ⟨k, q, hk, hw, rfl, rfl⟩ := hrel
    have hpl := popTo_le (m &&& o) (8 * k)
    by_cases hlt : k < L
    · have hc1 : wr.cell? ⟨g, k, none⟩ = some (.int .u8 (sb m k)) := by rw [hw, World.cell?_drewN]; exact H1.out k hlt
      have hc2 : wr.cell? ⟨g', k, none⟩ = some (.int .u8 (sb o k)) := by rw [hw, World.cell?_drewN]; exact H2.out k hlt
      have HW : Hid (wr = w.drewN q) := hw
      clear hw
      have hv : bits .and .u8 (sb m k : Int) (sb o k : Int) = (sb (m &&& o) k : Int) := by rw [u8_and_nat _ _ (sb_lt m k) (sb_lt o k), sb_and]
      have HP : Hid (popTo (sb (m &&& o) k) 8 + popTo (m &&& o) (8 * k) = popTo (m &&& o) (8 * (k + 1))) := pop_sb (m &&& o) k
      have h8 := popTo_le (sb (m &&& o) k) 8
      have hcall : ∀ w : World, Calls Yba.prog 26 #[.int .u8 (sb (m &&& o) k)] w fun e w' => e = .returned (.int .i64 (popTo (sb (m &&& o) k) 8)) ∧ w' = w := fun w => by
        have h := Yba.bits_OnesCount8 (sb (m &&& o) k : Int) w (by omega) (by have := sb_lt (m &&& o) k; omega)
        rw [show (sb (m &&& o) k : Int).toNat = sb (m &&& o) k from by omega, ones_fin ⟨sb (m &&& o) k, sb_lt _ _⟩] at h
        exact h
      go_wp2
      go_quiet (exact Calls.quiet_of_same (hcall _))
      go_wp2
      go_round
      case rel => exact ⟨k + 1, _, by omega, by rw [HW.out, World.drewN_drewN], by go_num, by rw [← HP.out]; go_num⟩
      case measure => simp [intOf]; omega
    · obtain rfl : k = L := by omega
      go_wp2
      go_ret
      exact ⟨rfl, q, rfl⟩
end Go.Proofs.Ybulkhjc.Bx
