import Derived.Test.YbulkhhmInv2
import Derived.Lib.QuietBelow
import Derived.Lib.Builder
namespace Go.Proofs.Ybulkhhm.Fg
open Go.RowKit Go.Maps Go.Sort

/-- what forgetLapsed is handed -/
theorem Inv.handed {B0 B1 B2 B3 : Nat} {w : World} {len : Nat} {p : Nat → Int} {iss : Nat → ByteArray} {a : Nat → Bool} {b : Nat → Nat} {D : DataW Unit} {wr : World}
    (h : Inv B0 B1 B2 B3 w len p iss len a b D wr) (hl : Lay w B0 B1 B2 B3) : ∀ i, i < len → b i < wr.heap.size ∧ b i ≠ B1 ∧ Pend wr (b i) (p i) := fun i hi => by
  obtain ⟨l0, l1, l2, l3⟩ := hl
  obtain ⟨h1, h2, h3, h4⟩ := h.acc i hi
  exact ⟨h2, by omega, h4⟩

/-- behind forgetLapsed -/
theorem Inv.forgot {B0 B1 B2 B3 : Nat} {w : World} {len : Nat} {p : Nat → Int} {iss : Nat → ByteArray} {a a' : Nat → Bool} {b : Nat → Nat} {D D' : DataW Unit} {wr w2 : World}
    (h : Inv B0 B1 B2 B3 w len p iss len a b D wr) (hl : Lay w B0 B1 B2 B3) (hg : wr.grownBy w2 (some B1)) (hown : w2.ownsMap Yba.prog 9 ptrElem B1 len D') (hm : MapIs D' a' b len) :
    Inv B0 B1 B2 B3 w len p iss len a' b D' w2 := by
  obtain ⟨l0, l1, l2, l3⟩ := hl
  have hs := h.size
  have hw := h.below.size
  have cell : ∀ (x : Addr), x.block < wr.heap.size → x.block ≠ B1 → w2.cell? x = wr.cell? x := fun x hx n1 => cell_grown hg hx (by simpa using n1)
  refine ⟨h.below.grown hg hw (fun j hj => by cases hj; omega), (cell ⟨B0, 0, none⟩ (by simp; omega) (by simp; omega)).trans h.base0, (cell ⟨B0, 1, none⟩ (by simp; omega) (by simp; omega)).trans h.base1,
    (cell ⟨B0, 2, none⟩ (by simp; omega) (by simp; omega)).trans h.base2, hown, hm, (cell ⟨B2, 2, none⟩ (by simp; omega) (by simp; omega)).trans h.store, fun i hi => (cell ⟨B3, i, none⟩ hs (by simp; omega)).trans (h.ptrs i hi),
    fun i hi => by rw [World.frozen?_of_block (w := wr) (hg.block B3 hs (by simp; omega))]; exact h.free i hi, fun i hi => ?_, Nat.lt_of_lt_of_le hs hg.size⟩
  obtain ⟨h1, h2, h3, h4⟩ := h.acc i hi
  exact ⟨h1, Nat.lt_of_lt_of_le h2 hg.size, (cell ⟨b i, 1, none⟩ h2 (by simp; omega)).trans h3, h4.grown hg h2 (by simp; omega)⟩

/-- the look-up, in whatever world behind -/
theorem Inv.look_yes {B0 B1 B2 B3 : Nat} {w : World} {len : Nat} {p : Nat → Int} {iss : Nat → ByteArray} {a : Nat → Bool} {b : Nat → Nat} {D : DataW Unit} {wr : World}
    (h : Inv B0 B1 B2 B3 w len p iss len a b D wr) {k : Nat} (hk : k < len) (ha : a k = true) (d : Nat) (os : Array Obj) :
    (Instr.lookup 28 (.map (some B1)) (.string (nameOf k)) true).run Yba.prog (grow (redrawn wr d) os) = .ok (.tuple #[.pointer (some ⟨b k, 0, none⟩), .bool true]) (grow (redrawn wr d) os) := by
  have own := h.own.kept (below_grown (below_regrown wr d os) none) (by simp)
  obtain ⟨v, ps, hrun, hv⟩ := own.look_ok law Yba.underlying28 (zeroE _) ptrElem_nil (nameKey k)
  rw [h.map.elem k hk ha] at hv
  obtain rfl := ptrElem_inv hv
  rw [hrun, (h.map.keys _).2 ⟨k, hk, ha, rfl⟩]
theorem Inv.look_no {B0 B1 B2 B3 : Nat} {w : World} {len : Nat} {p : Nat → Int} {iss : Nat → ByteArray} {a : Nat → Bool} {b : Nat → Nat} {D : DataW Unit} {wr : World}
    (h : Inv B0 B1 B2 B3 w len p iss len a b D wr) {k : Nat} (hk : k < len) (hlen : len ≤ 1024) (ha : a k = false) (d : Nat) (os : Array Obj) :
    (Instr.lookup 28 (.map (some B1)) (.string (nameOf k)) true).run Yba.prog (grow (redrawn wr d) os) = .ok (.tuple #[.pointer none, .bool false]) (grow (redrawn wr d) os) := by
  have own := h.own.kept (below_grown (below_regrown wr d os) none) (by simp)
  obtain ⟨v, ps, hrun, hv⟩ := own.look_ok law Yba.underlying28 (zeroE _) ptrElem_nil (nameKey k)
  have hno : has D (key k) = false := by
    cases e : has D (key k)
    · rfl
    · obtain ⟨i, hi, hai, e2⟩ := (h.map.keys _).1 e
      obtain rfl := key_inj (by omega) (by omega) e2
      rw [ha] at hai; cases hai
  rw [atKey_of_not_has hno] at hv
  obtain rfl := ptrElem_inv_nil hv
  rw [hrun, hno]

theorem info50 : (Yba.prog.info? 50).isSome = true := by kernel_rfl
theorem neqSame (a : Addr) (w : World) : (binOp .neq 43 (.pointer (some a)) (.pointer (some a))).run Yba.prog w = .ok (.bool false) w := by
  obtain ⟨j, hj⟩ := Option.isSome_iff_exists.1 info50
  exact Lib.run_neq_ptr_same w a Yba.underlying43 hj
theorem isZero_time (p : Int) (w : World) :
    Calls Yba.prog 10 #[.agg #[.int .u64 (p % 1000000000), .int .i64 (p / 1000000000), .pointer none]] w fun e w' => e = .returned (.bool (p == 0)) ∧ Below w.heap.size w w' := by
  refine (isZero_any (p % 1000000000) (p / 1000000000) none w).mono ?_
  rintro e w' ⟨rfl, hb⟩
  exact ⟨by rw [zero_law], hb⟩
end Go.Proofs.Ybulkhhm.Fg
