import Derived.Test.YbulkhjcBx2
namespace Go.Proofs.Ybulkhjc.Bx
open Go.RowKit

/-- a slice of bytes that came in -/
def Row8 (w : World) (a : Option Addr) (len : Nat) (z : Nat → Nat) : Prop :=
  len ≤ 9223372036854775807 ∧ (∀ i, z i < 256) ∧ (0 < len → ∃ b o, a = some ⟨b, o, none⟩ ∧ b < w.heap.size ∧ ∀ i, i < len → w.cell? ⟨b, o + i, none⟩ = some (.int .u8 (z i)))

/-- wanted -/
def wv (z : Nat → Nat) (len n i : Nat) : Nat := if i < len then z i % (n + 1) else 0
theorem wv_le (z : Nat → Nat) (len n i : Nat) : wv z len n i ≤ n := by
  unfold wv; split
  · have := Nat.mod_lt (z i) (show 0 < n + 1 by omega); omega
  · omega
theorem info3 : (Yba.prog.info? 3).map (fun i => (i.zero, i.size, i.bytes)) = some (some (.int .i64 0), 1, 8) := by kernel_rfl

def WantV (z : Nat → Nat) (len n k i : Nat) : Value := .int .i64 (if i < k then wv z len n i else 0 : Nat)
def WantPost (w : World) (z : Nat → Nat) (len n : Nat) (e : Ending) (w' : World) : Prop :=
  e = .returned (.slice (some ⟨w.heap.size, 0, none⟩) n n) ∧ w'.rowIs w.heap.size 3 n (WantV z len n n) ∧ Below w.heap.size w w'
def WantRel (w : World) (z : Nat → Nat) (len n : Nat) (i : Value) (wr : World) : Prop :=
  ∃ k : Nat, k ≤ n ∧ i = .int .i64 k ∧ wr.rowIs w.heap.size 3 n (WantV z len n k) ∧ Below w.heap.size w wr

set_option maxRecDepth 100000 in
theorem wanted_any (n : Nat) (a : Option Addr) (len cap : Nat) (z : Nat → Nat) (hn : n ≤ 16) (w : World) (hR : Row8 w a len z) :
    Calls Yba.prog 10 #[.int .i64 n, .slice a len cap] w (WantPost w z len n) := by
  have hmk := fun w => run_make_row' (P := Yba.prog) 32 3 (.int .i64 0) 8 Yba.underlying32 info3 rfl .i64 .i64 n (by omega) (by omega) w
  have HRow : Hid (Row8 w a len z) := hR
  clear hR
  have HR0 : Hid (∀ w : World, (w.alloc (.cells (madeCells #[.int .i64 0] n) 3)).rowIs w.heap.size 3 n (WantV z len n 0)) := fun w =>
    (World.rowIs_made w (.int .i64 0) n 3).congr (fun i _ => by simp [WantV])
  go_enter Yba.func10, Yba.ntmps10
  go_wp2
  go_loopw [6] (fun i wr => WantRel w z len n i wr) (fun i _ => n - (intOf i).toNat)
  case atStart => exact ⟨0, by omega, rfl, HR0.out _, (Below.refl _ _).alloc (Nat.le_refl _) _⟩
  case round =>
    obtain ⟨k, hk, rfl, hr, hb⟩ := hrel
    have hll := HRow.out.1
    have HR : Hid (wr.rowIs w.heap.size 3 n (WantV z len n k)) := hr
    have HB : Hid (Below w.heap.size w wr) := hb
    clear hr hb
    by_cases hlt : k < n
    · by_cases hkl : k < len
      · obtain ⟨b, o, rfl, hbw, hcs⟩ := HRow.out.2.2 (by omega)
        have hz := HRow.out.2.1 k
        have hc : wr.cell? ⟨b, o + k, none⟩ = some (.int .u8 (z k)) := (HB.out.cell (p := ⟨b, o + k, none⟩) hbw).trans (hcs k hkl)
        have hf := HR.out.frozen k
        have hc2 : wr.cell? ⟨w.heap.size, k, none⟩ = some (WantV z len n k k) := HR.out.cell hlt
        have HW : Hid (wv z len n k = z k % (n + 1)) := by show _ = _; simp [wv, hkl]
        clear hcs
        go_wp2
        go_round
        case rel =>
          refine ⟨k + 1, by omega, by go_num, ?_, HB.out.setCell (Nat.le_refl _) _⟩
          refine (HR.out.set k _).congr fun i _ => ?_
          by_cases h : i = k
          · subst h; simp [WantV, HW.out]
          · simp [WantV, h, show (i < k + 1) = (i < k) from by rw [eq_iff_iff]; omega]
        case measure => simp [intOf]; omega
      · have HW : Hid (wv z len n k = 0) := by show _ = _; simp [wv, hkl]
        go_wp2
        go_round
        case rel =>
          refine ⟨k + 1, by omega, by go_num, ?_, HB.out⟩
          refine HR.out.congr fun i _ => ?_
          by_cases h : i = k
          · subst h; simp [WantV, HW.out]
          · simp [WantV, show (i < k + 1) = (i < k) from by rw [eq_iff_iff]; omega]
        case measure => simp [intOf]; omega
    · obtain rfl : k = n := by omega
      go_wp2
      go_ret
      exact ⟨rfl, HR.out, HB.out⟩
end Go.Proofs.Ybulkhjc.Bx
