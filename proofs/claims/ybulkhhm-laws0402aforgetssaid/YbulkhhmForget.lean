import Derived.Test.YbulkhhmMap
import Derived.Test.YbulkhhmLapsed
namespace Go.Proofs.Ybulkhhm.Fg
open Go.RowKit Go.Maps

theorem cell_grown {w w' : World} {row : Option Nat} (hg : w.grownBy w' row) {a : Addr} (hlt : a.block < w.heap.size) (hne : some a.block ≠ row) : w'.cell? a = w.cell? a := World.cell?_of_block (w := w) (hg.block a.block hlt hne)
theorem Pend.grown {w w' : World} {row : Option Nat} {b : Nat} {p : Int} (h : Pend w b p) (hg : w.grownBy w' row) (hlt : b < w.heap.size) (hne : some b ≠ row) : Pend w' b p :=
  ⟨(cell_grown hg (a := ⟨b, 5, none⟩) hlt hne).trans h.1, (cell_grown hg (a := ⟨b, 6, none⟩) hlt hne).trans h.2.1, (cell_grown hg (a := ⟨b, 7, none⟩) hlt hne).trans h.2.2⟩
theorem below_grown {w w' : World} (h : Below w.heap.size w w') (row : Option Nat) : w.grownBy w' row := ⟨h.os, h.tape, h.output, h.size, fun i hi _ => h.block i hi⟩

set_option maxRecDepth 100000 in
/-- forgetLapsed -/
theorem forget_any (sb bm N : Nat) (n : Int) (p : Nat → Int) (b : Nat → Nat) (D : DataW Unit) (w : World) (hN : N ≤ 1024) (hs : w.cell? ⟨sb, 2, none⟩ = some (.map (some bm))) (hsb : sb < w.heap.size) (hne : sb ≠ bm)
    (hown : w.ownsMap Yba.prog 9 ptrElem bm N D) (hD : MapIs D (fun _ => true) b N) (hp : ∀ i, i < N → b i < w.heap.size ∧ b i ≠ bm ∧ Pend w (b i) (p i)) :
    Calls Yba.prog 9 #[.pointer (some ⟨sb, 0, none⟩), tmv n] w fun e w' => e = .returned (.tuple #[]) ∧ w.grownBy w' (some bm) ∧ ∃ D', w'.ownsMap Yba.prog 9 ptrElem bm N D' ∧ MapIs D' (fun i => !lapB n (p i)) b N := by
  have hs1 : ∀ o, (w.alloc o).cell? ⟨sb, 2, none⟩ = some (.map (some bm)) := fun o => by rw [World.cell?_alloc_past _ _ _ hsb]; exact hs
  have hbm := hown.lt
  have HP := hp
  clear hp
  unfold tmv
  go_enter Yba.func9, Yba.ntmps9
  go_wp2_with (first | (at_range; refine wpList_range_own _ rfl _ 28 rfl 9 43 law Yba.underlying28 _ bm N D rfl (hown.alloc _) ?_; intro w0 hrg0 hg0 hs0))
  go_frame
  simp only [World.size_alloc] at hrg0 hs0 ⊢
  have hgw0 := (World.grownBy_alloc w (.cells #[.int .u64 (n % 1000000000), .int .i64 (n / 1000000000), .pointer none] 26) (some bm)).andThen (hg0.but (some bm)) (fun j hj => .inr hj)
  have hc0 := (cell_grown hg0 (a := ⟨w.heap.size, 0, none⟩) (by simp) (by simp)).trans (by simp : _ = some (.int .u64 (n % 1000000000)))
  have hc1 := (cell_grown hg0 (a := ⟨w.heap.size, 1, none⟩) (by simp) (by simp)).trans (by simp : _ = some (.int .i64 (n / 1000000000)))
  have hc2 := (cell_grown hg0 (a := ⟨w.heap.size, 2, none⟩) (by simp) (by simp)).trans (by simp : _ = some (.pointer none))
  clear hs1 hg0
  go_loopw [4] (fun _ wr => ∃ left c D', wr.ranges Yba.prog 9 ptrElem bm (w.heap.size + 1) N D' left c ∧ MapIs D' (fun i => !lapB n (p i) || left (key i)) b N ∧ w.grownBy wr (some bm) ∧ w.heap.size + 2 ≤ wr.heap.size ∧
      wr.cell? ⟨w.heap.size, 0, none⟩ = some (.int .u64 (n % 1000000000)) ∧ wr.cell? ⟨w.heap.size, 1, none⟩ = some (.int .i64 (n / 1000000000)) ∧ wr.cell? ⟨w.heap.size, 2, none⟩ = some (.pointer none))
    (fun _ wr => wr.rangeLeft bm (w.heap.size + 1))
  case atStart => exact ⟨_, _, D, hrg0, hD.start _, hgw0, by omega, hc0, hc1, hc2⟩
  case round =>
    obtain ⟨left, c, D1, hrg, hD1, hgw, hsz, k0, k1, k2⟩ := hrel
    go_wp2_with (first | (at_next; refine wpList_next_acc _ rfl _ rfl bm (w.heap.size + 1) N N D1 left c _ b rfl hrg hD1 ?_ ?_))
    · intro hl0
      go_wp2
      go_end0
      exact ⟨rfl, hgw, D1, hrg.owns, hD1.done hl0⟩
    · intro j w1 c1 hj hlj hrg1 hlt hg1 hs1 hen
      have hgw1 := hgw.andThen hg1 (fun i hi => by cases hi; left; omega)
      have j0 := (cell_grown hg1 (a := ⟨w.heap.size, 0, none⟩) (by simp; omega) (by simp)).trans k0
      have j1 := (cell_grown hg1 (a := ⟨w.heap.size, 1, none⟩) (by simp; omega) (by simp)).trans k1
      have j2 := (cell_grown hg1 (a := ⟨w.heap.size, 2, none⟩) (by simp; omega) (by simp)).trans k2
      have js := (cell_grown hgw1 (a := ⟨sb, 2, none⟩) hsb (by simpa using hne)).trans hs
      have hpj := (HP j hj).2.2.grown hgw1 (HP j hj).1 (by simpa using (HP j hj).2.1)
      have hbj : b j < w1.heap.size := by have := (HP j hj).1; omega
      clear k0 k1 k2 hg1
      go_wp2_with fail
      refine (lapsed_any (b j) n (p j) _ hpj hbj).mono ?_
      rintro e w2 ⟨rfl, hb2⟩
      have hgw2 : w.grownBy w2 (some bm) := hgw1.andThen (below_grown hb2 none) (fun i hi => by cases hi)
      have hrg2 := hrg1.kept (below_grown hb2 none) (by simp) (by simp)
      have i0 := (hb2.cell (p := ⟨w.heap.size, 0, none⟩) (by simp; omega)).trans j0
      have i1 := (hb2.cell (p := ⟨w.heap.size, 1, none⟩) (by simp; omega)).trans j1
      have i2 := (hb2.cell (p := ⟨w.heap.size, 2, none⟩) (by simp; omega)).trans j2
      have is := (hb2.cell (p := ⟨sb, 2, none⟩) (by simp; omega)).trans js
      have hsz2 : w.heap.size + 2 ≤ w2.heap.size := by have := hb2.size; omega
      clear j0 j1 j2 js hb2 hpj hbj hen hs1 HP hD hown hrg0 hgw0 hs
      cases hl : lapB n (p j)
      · have hD2 := hD1.skip (j := j) (by omega) hj hl
        have HM : Hid (w2.rangeLeft bm (w.heap.size + 1) < wr.rangeLeft bm (w.heap.size + 1)) := by
          show _ < _
          rw [hrg2.left_eq, hrg.left_eq]; exact hlt
        clear hl hrg hrg1
        go_wp2
        go_roundw
        case rel => exact ⟨_, _, D1, hrg2, hD2, hgw2, hsz2, i0, i1, i2⟩
        case measure => exact HM.out
      · have hD2 := hD1.drop (j := j) (by omega) hj hl hlj
        go_wp2_with (first | (at_delete; refine wpList_delete_ranges _ rfl _ _ 28 9 rfl 43 law Yba.underlying28 _ bm (w.heap.size + 1) N D1 _ _ rfl hrg2 _ _ rfl (nameKey j) ?_; intro w3 c3 hrg3 hle hturn; go_frame))
        rw [strike_twice] at hrg3
        have hg3 := hturn.grown
        have HM : Hid (w3.rangeLeft bm (w.heap.size + 1) < wr.rangeLeft bm (w.heap.size + 1)) := by
          show _ < _
          rw [hrg3.left_eq, hrg.left_eq]; omega
        go_roundw
        case rel => exact ⟨_, _, D1.del (key j), hrg3, hD2, hgw2.andThen hg3 (fun i hi => .inr hi), by have := hg3.size; omega,
          (cell_grown hg3 (a := ⟨w.heap.size, 0, none⟩) (by simp; omega) (by simp; omega)).trans i0, (cell_grown hg3 (a := ⟨w.heap.size, 1, none⟩) (by simp; omega) (by simp; omega)).trans i1, (cell_grown hg3 (a := ⟨w.heap.size, 2, none⟩) (by simp; omega) (by simp; omega)).trans i2⟩
        case measure => exact HM.out
end Go.Proofs.Ybulkhhm.Fg
