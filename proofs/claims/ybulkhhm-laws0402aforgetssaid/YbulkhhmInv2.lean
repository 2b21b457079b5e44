import Derived.Test.YbulkhhmInv
namespace Go.Proofs.Ybulkhhm.Fg
open Go.RowKit Go.Maps

theorem inv_start (w : World) (len : Nat) (p : Nat → Int) (iss : Nat → ByteArray) (o2 : Array Value) (h2 : o2[2]? = some (.map (some (w.heap.size + 1)))) :
    Inv w.heap.size (w.heap.size + 1) (w.heap.size + 1 + 1) (w.heap.size + 1 + 1 + 1) w len p iss 0 (fun _ => true) (fun _ => 0) (.map [])
      ((((w.alloc (.cells #[.int .u64 0, .int .i64 0, .pointer none] 26)).alloc (.map #[] 0)).alloc (.cells o2 41)).alloc (.cells (madeCells #[.pointer none] len) 43)) := by
  have hb : Below w.heap.size w ((((w.alloc (.cells #[.int .u64 0, .int .i64 0, .pointer none] 26)).alloc (.map #[] 0)).alloc (.cells o2 41)).alloc (.cells (madeCells #[.pointer none] len) 43)) := by
    refine Below.alloc (Below.alloc (Below.alloc (Below.alloc (Below.refl _ _) (Nat.le_refl _) _) ?_ _) ?_ _) ?_ _
    · simp
    · simp; omega
    · simp; omega
  have e1 : (w.alloc (.cells #[.int .u64 0, .int .i64 0, .pointer none] 26)).heap.size = w.heap.size + 1 := by simp
  have e2 : ((w.alloc (.cells #[.int .u64 0, .int .i64 0, .pointer none] 26)).alloc (.map #[] 0)).heap.size = w.heap.size + 1 + 1 := by simp
  have e3 : (((w.alloc (.cells #[.int .u64 0, .int .i64 0, .pointer none] 26)).alloc (.map #[] 0)).alloc (.cells o2 41)).heap.size = w.heap.size + 1 + 1 + 1 := by simp
  have own := ((World.ownsMap_made (w.alloc (.cells #[.int .u64 0, .int .i64 0, .pointer none] 26)) Yba.prog 9 ptrElem).alloc (.cells o2 41)).alloc (.cells (madeCells #[.pointer none] len) 43)
  rw [e1] at own
  have c0 : ∀ j, j < 3 → ((((w.alloc (.cells #[.int .u64 0, .int .i64 0, .pointer none] 26)).alloc (.map #[] 0)).alloc (.cells o2 41)).alloc (.cells (madeCells #[.pointer none] len) 43)).cell? ⟨w.heap.size, j, none⟩ = (#[.int .u64 0, .int .i64 0, .pointer none] : Array Value)[j]? := fun j hj => by
    rw [World.cell?_alloc_past _ _ _ (by omega), World.cell?_alloc_past _ _ _ (by omega), World.cell?_alloc_past _ _ _ (by omega)]
    exact World.cell?_alloc_at _ _ _ _ rfl
  have cs : ((((w.alloc (.cells #[.int .u64 0, .int .i64 0, .pointer none] 26)).alloc (.map #[] 0)).alloc (.cells o2 41)).alloc (.cells (madeCells #[.pointer none] len) 43)).cell? ⟨w.heap.size + 1 + 1, 2, none⟩ = some (.map (some (w.heap.size + 1))) := by
    rw [World.cell?_alloc_past _ _ _ (by omega), World.cell?_alloc_at _ _ _ _ e2.symm, h2]
  have cp : ∀ i, i < len → ((((w.alloc (.cells #[.int .u64 0, .int .i64 0, .pointer none] 26)).alloc (.map #[] 0)).alloc (.cells o2 41)).alloc (.cells (madeCells #[.pointer none] len) 43)).cell? ⟨w.heap.size + 1 + 1 + 1, i, none⟩ = some (.pointer none) := fun i hi => by
    rw [World.cell?_alloc_at _ _ _ _ e3.symm, ← Array.getElem?_toList, toList_madeCells_one]
    simp [hi]
  refine ⟨hb, c0 0 (by omega), c0 1 (by omega), c0 2 (by omega), own, mapIs_empty _ _, cs, fun i hi => by rw [cp i hi, if_neg (by omega)], fun i hi => ?_, fun i hi => absurd hi (by omega), by simp⟩
  exact World.frozen?_alloc_at _ _ _ _ e3.symm

theorem pend_zero {wr : World} {x0 x1 x2 x3 x4 x8 x9 x10 x11 x12 x13 : Value} {p : Int} (h : p = 0) :
    Pend (wr.alloc (.cells #[x0, x1, x2, x3, x4, .int .u64 0, .int .i64 0, .pointer none, x8, x9, x10, x11, x12, x13] 50)) wr.heap.size p := by
  subst h
  exact ⟨by simp, by simp, by simp⟩
theorem below_bare {w2 w4 : World} {a : Addr} {v : Value} (hb : Below (w2.setCell a v).heap.size (w2.setCell a v).drew w4) : Below w2.heap.size (w2.setCell a v) w4 := by
  have hz : (w2.setCell a v).heap.size = w2.heap.size := by simp [World.setCell]
  rw [← hz]
  exact ⟨hb.os, hb.tape, hb.output, hb.size, hb.block⟩
/-- the store's cell behind the store into the row of pointers -/
theorem Inv.storeAt {B0 B1 B2 B3 : Nat} {w : World} {len : Nat} {p : Nat → Int} {iss : Nat → ByteArray} {k : Nat} {a : Nat → Bool} {b : Nat → Nat} {D : DataW Unit} {w2 : World}
    (h2 : Inv B0 B1 B2 B3 w len p iss k a b D w2) (hl : Lay w B0 B1 B2 B3) (v : Value) : (w2.setCell ⟨B3, k, none⟩ v).cell? ⟨B2, 2, none⟩ = some (.map (some B1)) := by
  rw [World.cell?_setCell_other _ _ _ _ (fun e => by have h1 : B3 = B2 := congrArg Addr.block e; have := hl.2.2.2; omega)]
  exact h2.store
/-- behind the name's making: the store's cell, and what the map's store does -/
theorem Inv.afterName {B0 B1 B2 B3 : Nat} {w : World} {len : Nat} {p : Nat → Int} {iss : Nat → ByteArray} {k : Nat} {a : Nat → Bool} {b : Nat → Nat} {D : DataW Unit} {w2 w4 : World} {nb : Nat}
    (h2 : Inv B0 B1 B2 B3 w len p iss k a b D w2) (hl : Lay w B0 B1 B2 B3) (hk : k < len) (hlen : len ≤ 1024)
    (hb4 : Below (w2.setCell ⟨B3, k, none⟩ (.pointer (some ⟨nb, 0, none⟩))).heap.size (w2.setCell ⟨B3, k, none⟩ (.pointer (some ⟨nb, 0, none⟩))).drew w4) :
    w4.cell? ⟨B2, 2, none⟩ = some (.map (some B1)) ∧ ∃ w5, (Instr.mapUpdate 28 (.map (some B1)) (.string (nameOf k)) (.pointer (some ⟨nb, 0, none⟩))).run Yba.prog w4 = .ok () w5 ∧
      w5.ownsMap Yba.prog 9 ptrElem B1 (k + 1) (D.put (key k) (.lit (.int .i64 nb))) ∧ w4.mapTurned w5 B1 := by
  have hs := h2.size
  have hz : (w2.setCell ⟨B3, k, none⟩ (.pointer (some ⟨nb, 0, none⟩))).heap.size = w2.heap.size := by simp [World.setCell]
  have l := hl
  obtain ⟨l0, l1, l2, l3⟩ := l
  refine ⟨(hb4.cell (p := ⟨B2, 2, none⟩) (by rw [hz]; simp; omega)).trans (h2.storeAt hl _), ?_⟩
  have own3 : (w2.setCell ⟨B3, k, none⟩ (.pointer (some ⟨nb, 0, none⟩))).ownsMap Yba.prog 9 ptrElem B1 k D := h2.own.setCell (by simp; omega) _
  have own4 : w4.ownsMap Yba.prog 9 ptrElem B1 k D := own3.kept (w' := w4) (row := none) ⟨hb4.os, hb4.tape, hb4.output, hb4.size, fun i hi _ => hb4.block i hi⟩ (by simp)
  exact own4.store law Yba.underlying28 (by unfold maxLen; omega) (nameKey k) (ptrElem_mk nb)


/-- the account's time laid in behind Add -/
theorem acct_stored {wr w1 : World} {o : Obj} {u5 u6 u7 : Value} {iss : ByteArray} {p : Int} (hb : Below (wr.alloc o).heap.size (wr.alloc o).drew w1)
    (f1 : w1.cell? ⟨wr.heap.size, 1, none⟩ = some (.string iss)) (f5 : w1.cell? ⟨wr.heap.size, 5, none⟩ = some u5) (f6 : w1.cell? ⟨wr.heap.size, 6, none⟩ = some u6) (f7 : w1.cell? ⟨wr.heap.size, 7, none⟩ = some u7) :
    ∃ w2, (((w1.setCell ⟨wr.heap.size, 5, none⟩ (.int .u64 (p % 1000000000))).setCell ⟨wr.heap.size, 6, none⟩ (.int .i64 (p / 1000000000))).setCell ⟨wr.heap.size, 7, none⟩ (.pointer none)) = w2 ∧
      Below wr.heap.size wr w2 ∧ wr.heap.size < w2.heap.size ∧ w2.cell? ⟨wr.heap.size, 1, none⟩ = some (.string iss) ∧ Pend w2 wr.heap.size p := by
  refine ⟨_, rfl, ?_, ?_, ?_, ?_, ?_, ?_⟩
  · have b0 : Below wr.heap.size wr (wr.alloc o).drew := ((Below.refl _ _).alloc (Nat.le_refl _) _).drew
    have b1 := b0.trans (hb.mono (by simp))
    exact ((b1.setCell (Nat.le_refl _) _).setCell (Nat.le_refl _) _).setCell (Nat.le_refl _) _
  · have := hb.size
    simp [World.setCell] at this ⊢
    omega
  · rw [World.cell?_setCell_other _ _ _ _ (by simp), World.cell?_setCell_other _ _ _ _ (by simp), World.cell?_setCell_other _ _ _ _ (by simp)]; exact f1
  · rw [World.cell?_setCell_other _ _ _ _ (by simp), World.cell?_setCell_other _ _ _ _ (by simp)]; exact World.cell?_setCell_same _ _ _ f5
  · rw [World.cell?_setCell_other _ _ _ _ (by simp)]; exact World.cell?_setCell_same (u := u6) _ _ _ (by rw [World.cell?_setCell_other _ _ _ _ (by simp)]; exact f6)
  · exact World.cell?_setCell_same (u := u7) _ _ _ (by rw [World.cell?_setCell_other _ _ _ _ (by simp), World.cell?_setCell_other _ _ _ _ (by simp)]; exact f7)
end Go.Proofs.Ybulkhhm.Fg
