import Derived.Test.YbulkhjcPre
namespace Go.Proofs.Ybulkhjc.Fr
open Go.RowKit Go.Lib

theorem elem23 : Yba.prog.elem 23 = 5 := by kernel_rfl
theorem size5 (w : World) : (sizeOf 5).run Yba.prog w = .ok 1 w := by kernel_rfl

theorem index23 (qb qo len cap i : Nat) (z : Int) (hz : z = (i : Int)) (hi : i < len) (w : World) : (Instr.indexAt 23 (.slice (some ⟨qb, qo, none⟩) len cap) (.int .i64 z)).run Yba.prog w = .ok (.pointer (some ⟨qb, qo + i, none⟩)) w := by
  subst hz
  rw [run_indexAt_slice w 23 ⟨qb, qo, none⟩ len cap .i64 i (by rw [elem23]; exact Yba.underlying23), if_pos ⟨by omega, by omega⟩, elem23, size5]
  simp [Result.andThen, Addr.add]

/-- a payload that is not empty lies behind a plain address -/
theorem pay_at {w : World} {a : Option Addr} {len cap : Nat} {P : List UInt8} (h : Pay w a len cap P) (h1 : 1 ≤ len) : ∃ qb qo, a = some ⟨qb, qo, none⟩ ∧ qb < w.heap.size ∧ ∀ j, j < len → w.cell? ⟨qb, qo + j, none⟩ = some (.int .u8 (P.getD j 0).toNat) := by
  obtain ⟨hl, h⟩ := h
  rcases h with ⟨_, h0, _⟩ | ⟨⟨qb, qo, spot⟩, rfl, hc⟩
  · omega
  · have hspot : spot = none := by simpa [Addr.add] using World.cell?_spot (hc 0 (by omega))
    subst hspot
    have hx : qb < w.heap.size := by simpa [Addr.add] using block_lt (hc 0 (by omega))
    refine ⟨qb, qo, rfl, hx, fun j hj => ?_⟩
    have := hc j (by omega)
    rw [show (⟨qb, qo, none⟩ : Addr).add j = ⟨qb, qo + j, none⟩ from by unfold Addr.add; split <;> simp_all] at this
    rw [this]
    simp [show j < P.length from by omega]

/-- what the walk is told of the payload's last byte -/
theorem pay_last {w w' : World} {a : Option Addr} {len cap : Nat} {P : List UInt8} (h : Pay w a len cap P) (hb : Below w.heap.size w w') (h1 : 1 ≤ len) : ∃ ad, (∀ W, (Instr.indexAt 23 (.slice a len cap) (.int .i64 ((len : Int) - 1))).run Yba.prog W = .ok (.pointer (some ad)) W) ∧ w'.cell? ad = some (.int .u8 (P.getD (len - 1) 0).toNat) := by
  obtain ⟨qb, qo, rfl, hq, hc⟩ := pay_at h h1
  exact ⟨⟨qb, qo + (len - 1), none⟩, fun W => index23 qb qo len cap (len - 1) _ (by omega) (by omega) W, (hb.cell (p := ⟨qb, qo + (len - 1), none⟩) hq).trans (hc _ (by omega))⟩
end Go.Proofs.Ybulkhjc.Fr
