import Derived.Test.YbulkhhmForget
import Derived.Deep.OwnRows
namespace Go.Proofs.Ybulkhhm.Fg
open Go.RowKit Go.Maps
theorem info43 : (Yba.prog.info? 43).map (fun i => (i.zero, i.size, i.bytes)) = some (some (.pointer none), 1, 8) := by kernel_rfl

/-- what has been laid when k accounts are in: B0 the zero time, B1 the map, B2 the store, B3 the row of pointers -/
structure Inv (B0 B1 B2 B3 : Nat) (w : World) (len : Nat) (p : Nat → Int) (iss : Nat → ByteArray) (k : Nat) (a : Nat → Bool) (b : Nat → Nat) (D : DataW Unit) (wr : World) : Prop where
  below : Below w.heap.size w wr
  base0 : wr.cell? ⟨B0, 0, none⟩ = some (.int .u64 0)
  base1 : wr.cell? ⟨B0, 1, none⟩ = some (.int .i64 0)
  base2 : wr.cell? ⟨B0, 2, none⟩ = some (.pointer none)
  own : wr.ownsMap Yba.prog 9 ptrElem B1 k D
  map : MapIs D a b k
  store : wr.cell? ⟨B2, 2, none⟩ = some (.map (some B1))
  ptrs : ∀ i, i < len → wr.cell? ⟨B3, i, none⟩ = some (if i < k then .pointer (some ⟨b i, 0, none⟩) else .pointer none)
  free : ∀ i, i < len → wr.frozen? ⟨B3, i, none⟩ = false
  acc : ∀ i, i < k → B3 < b i ∧ b i < wr.heap.size ∧ wr.cell? ⟨b i, 1, none⟩ = some (.string (iss i)) ∧ Pend wr (b i) (p i)
  size : B3 < wr.heap.size

/-- the four blocks lie so -/
def Lay (w : World) (B0 B1 B2 B3 : Nat) : Prop := w.heap.size ≤ B0 ∧ B0 < B1 ∧ B1 < B2 ∧ B2 < B3

theorem Inv.kept {B0 B1 B2 B3 : Nat} {w : World} {len : Nat} {p : Nat → Int} {iss : Nat → ByteArray} {k : Nat} {a : Nat → Bool} {b : Nat → Nat} {D : DataW Unit} {wr wr' : World}
    (h : Inv B0 B1 B2 B3 w len p iss k a b D wr) (hl : Lay w B0 B1 B2 B3) (hb : Below wr.heap.size wr wr') : Inv B0 B1 B2 B3 w len p iss k a b D wr' := by
  obtain ⟨l0, l1, l2, l3⟩ := hl
  have hs := h.size
  have hw := h.below.size
  refine ⟨h.below.trans (hb.mono hw), (hb.cell (p := ⟨B0, 0, none⟩) (by simp; omega)).trans h.base0, (hb.cell (p := ⟨B0, 1, none⟩) (by simp; omega)).trans h.base1, (hb.cell (p := ⟨B0, 2, none⟩) (by simp; omega)).trans h.base2,
    h.own.kept (below_grown hb none) (by simp), h.map, (hb.cell (p := ⟨B2, 2, none⟩) (by simp; omega)).trans h.store, fun i hi => (hb.cell (p := ⟨B3, i, none⟩) hs).trans (h.ptrs i hi),
    fun i hi => (hb.frozen (p := ⟨B3, i, none⟩) hs).trans (h.free i hi), fun i hi => ?_, Nat.lt_of_lt_of_le hs hb.size⟩
  obtain ⟨h1, h2, h3, h4⟩ := h.acc i hi
  exact ⟨h1, Nat.lt_of_lt_of_le h2 hb.size, (hb.cell (p := ⟨b i, 1, none⟩) h2).trans h3, h4.below hb h2⟩

/-- one account more: nb is its block, w2 the world in which it lies, w3 behind the store into the row of pointers, w5 behind the map's store -/
theorem Inv.step {B0 B1 B2 B3 : Nat} {w : World} {len : Nat} {p : Nat → Int} {iss : Nat → ByteArray} {k : Nat} {a : Nat → Bool} {b : Nat → Nat} {D : DataW Unit} {wr w2 w4 w5 : World}
    (h : Inv B0 B1 B2 B3 w len p iss k a b D wr) (hl : Lay w B0 B1 B2 B3) (hk : k < len) (hlen : len ≤ 1024) (hb2 : Below wr.heap.size wr w2) (hnb : wr.heap.size < w2.heap.size)
    (hi' : w2.cell? ⟨wr.heap.size, 1, none⟩ = some (.string (iss k))) (hp : Pend w2 wr.heap.size (p k))
    (hb4 : Below w2.heap.size (w2.setCell ⟨B3, k, none⟩ (.pointer (some ⟨wr.heap.size, 0, none⟩))) w4)
    (hown : w5.ownsMap Yba.prog 9 ptrElem B1 (k + 1) (D.put (key k) (.lit (.int .i64 wr.heap.size)))) (hturn : w4.mapTurned w5 B1) (ha : ∀ i, a i = true) :
    Inv B0 B1 B2 B3 w len p iss (k + 1) a (fun i => if i = k then wr.heap.size else b i) (D.put (key k) (.lit (.int .i64 wr.heap.size))) w5 := by
  have h2 := h.kept hl hb2
  obtain ⟨l0, l1, l2, l3⟩ := hl
  have hs := h.size
  have hs2 := h2.size
  have hgt := hturn.grown
  have z4 : w2.heap.size ≤ w4.heap.size := by have := hb4.size; simpa [World.setCell] using this
  have z5 : w4.heap.size ≤ w5.heap.size := hgt.size
  -- a cell but the one that is written, of a block other than the map's
  have cell : ∀ (x : Addr), x.block < w2.heap.size → x.block ≠ B1 → x ≠ ⟨B3, k, none⟩ → w5.cell? x = w2.cell? x := fun x hx n1 n3 => by
    rw [cell_grown hgt (by omega) (by simpa using n1), hb4.cell hx, World.cell?_setCell_other _ _ _ _ (fun e => n3 e.symm)]
  have ne : ∀ x : Addr, x.block ≠ B3 → x ≠ ⟨B3, k, none⟩ := fun x hx e => hx (by rw [e])
  refine ⟨?_, (cell ⟨B0, 0, none⟩ (by simp; omega) (by simp; omega) (ne _ (by simp; omega))).trans h2.base0, (cell ⟨B0, 1, none⟩ (by simp; omega) (by simp; omega) (ne _ (by simp; omega))).trans h2.base1,
    (cell ⟨B0, 2, none⟩ (by simp; omega) (by simp; omega) (ne _ (by simp; omega))).trans h2.base2, hown, ?_, (cell ⟨B2, 2, none⟩ (by simp; omega) (by simp; omega) (ne _ (by simp; omega))).trans h2.store, fun i hi => ?_, fun i hi => ?_, fun i hi => ?_, by omega⟩
  · have hw := h.below.size
    have b1 : Below w.heap.size w w4 := (h2.below.setCell (by simp; omega) _).trans (hb4.mono (by omega))
    exact b1.grown hgt (by omega) (fun j hj => by cases hj; omega)
  · have := (h.map.congr (a' := a) (b' := fun i => if i = k then wr.heap.size else b i) (fun _ _ => rfl) (fun i hi => by
      rw [if_neg (by omega)])).put (by omega) (ha k)
    simpa using this
  · by_cases e : i = k
    · subst e
      rw [cell_grown hgt (by simp; omega) (by simp; omega), hb4.cell (p := ⟨B3, i, none⟩) hs2, World.cell?_setCell_same _ _ _ (h2.ptrs i hk)]
      simp
    · rw [cell ⟨B3, i, none⟩ hs2 (by simp; omega) (fun e2 => e (congrArg Addr.off e2)), h2.ptrs i hi]
      by_cases e3 : i < k
      · rw [if_pos e3, if_pos (by omega), if_neg e]
      · rw [if_neg e3, if_neg (by omega)]
  · rw [World.frozen?_of_block (w := w4) (hgt.block B3 (by omega) (by simp; omega)), hb4.frozen (p := ⟨B3, i, none⟩) hs2, World.frozen?_setCell]
    exact h2.free i hi
  · by_cases e : i = k
    · subst e
      simp only [if_true]
      exact ⟨hs, by omega, (cell ⟨wr.heap.size, 1, none⟩ hnb (by simp; omega) (ne _ (by simp; omega))).trans hi',
        (cell ⟨wr.heap.size, 5, none⟩ hnb (by simp; omega) (ne _ (by simp; omega))).trans hp.1, (cell ⟨wr.heap.size, 6, none⟩ hnb (by simp; omega) (ne _ (by simp; omega))).trans hp.2.1, (cell ⟨wr.heap.size, 7, none⟩ hnb (by simp; omega) (ne _ (by simp; omega))).trans hp.2.2⟩
    · simp only [if_neg e]
      obtain ⟨q1, q2, q3, q4⟩ := h2.acc i (by omega)
      exact ⟨q1, by omega, (cell ⟨b i, 1, none⟩ q2 (by simp; omega) (ne _ (by simp; omega))).trans q3,
        (cell ⟨b i, 5, none⟩ q2 (by simp; omega) (ne _ (by simp; omega))).trans q4.1, (cell ⟨b i, 6, none⟩ q2 (by simp; omega) (ne _ (by simp; omega))).trans q4.2.1, (cell ⟨b i, 7, none⟩ q2 (by simp; omega) (ne _ (by simp; omega))).trans q4.2.2⟩
end Go.Proofs.Ybulkhhm.Fg
