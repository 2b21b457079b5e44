import Derived.Test.YbulkhjcRows
import Derived.WalkKit
import Derived.WalkLawsBesides
import Derived.BigQuiet
import Derived.Deep.QuietTactic
namespace Go.Proofs.Ybulkhjc.Fr
open Go.RowKit

set_option maxRecDepth 100000 in
/-- slices.Equal of two slices without elements -/
theorem equal_none (a1 a2 : Option Addr) (c1 c2 : Nat) (w : World) :
    Calls Yba.prog 9 #[.slice a1 0 c1, .slice a2 0 c2] w fun e w' => e = .returned (.bool true) ∧ Below w.heap.size w w' := by
  go_enter Yba.func9, Yba.ntmps9
  go_wp2
  refine wp_loop_rounds 1 ?_
  rw [rounds_succ]
  go_wp2
  go_ret
  exact ⟨rfl, Below.refl _ _⟩

set_option maxRecDepth 100000 in
/-- .. of two that hold the same numbers -/
theorem equal_same (g1 o1 c1 g2 o2 c2 n : Nat) (z : Nat → Int) (w : World) (hn : n ≤ 1024) (h1 : ∀ i, i < n → w.cell? ⟨g1, o1 + i, none⟩ = some (.int .u8 (z i))) (h2 : ∀ i, i < n → w.cell? ⟨g2, o2 + i, none⟩ = some (.int .u8 (z i))) :
    Calls Yba.prog 9 #[.slice (some ⟨g1, o1, none⟩) n c1, .slice (some ⟨g2, o2, none⟩) n c2] w fun e w' => e = .returned (.bool true) ∧ Below w.heap.size w w' := by
  have H1 : Hid (∀ i, i < n → w.cell? ⟨g1, o1 + i, none⟩ = some (.int .u8 (z i))) := h1
  have H2 : Hid (∀ i, i < n → w.cell? ⟨g2, o2 + i, none⟩ = some (.int .u8 (z i))) := h2
  clear h1 h2
  go_enter Yba.func9, Yba.ntmps9
  go_wp2
  go_loopw [13] (fun i wr => ∃ k : Nat, k ≤ n ∧ i = .int .i64 (k : Nat) ∧ Below w.heap.size w wr ∧ ∀ a, wr.cell? a = w.cell? a) (fun i _ => n - (intOf i).toNat)
  case atStart => exact ⟨0, by omega, rfl, Below.refl _ _, fun _ => rfl⟩
  case round =>
    obtain ⟨k, hk, rfl, hb, hc⟩ := hrel
    by_cases hlt : k < n
    · have d1 := (hc ⟨g1, o1 + k, none⟩).trans (H1.out k hlt)
      have d2 := (hc ⟨g2, o2 + k, none⟩).trans (H2.out k hlt)
      have hki : (k : Int) < (n : Int) := by omega
      have HC : Hid (∀ a, wr.cell? a = w.cell? a) := hc
      clear hc
      go_wp2
      go_quiet (fail)
      go_wp2
      go_roundw
      case rel => exact ⟨k + 1, by omega, by go_num, ⟨hb.os, hb.tape, hb.output, hb.size, hb.block⟩, fun a => HC.out a⟩
      case measure => simp [intOf]; omega
    · clear hc
      go_wp2
      go_ret
      exact ⟨rfl, hb⟩
end Go.Proofs.Ybulkhjc.Fr
