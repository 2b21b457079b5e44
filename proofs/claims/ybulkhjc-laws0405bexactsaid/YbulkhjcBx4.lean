import Derived.Test.YbulkhjcBx3
import Derived.Deep.DeepCutAuto
import Derived.Deep.LoopGhost
import Derived.BigRegion
namespace Go.Proofs.Ybulkhjc.Bx
open Go.RowKit
theorem info70 : (Yba.prog.info? 70).map (fun i => (i.zero, i.size, i.bytes)) = some (some (.slice none 0 0), 1, 24) := by kernel_rfl

/-- a row of n sets, of which the first k are told -/
def SetRow (w : World) (b n k L : Nat) (G m : Nat → Nat) (lo : Nat) : Prop :=
  w.rowIs b 70 n (fun i => if i < k then .slice (some ⟨G i, 0, none⟩) L L else .slice none 0 0) ∧ ∀ i, i < k → lo ≤ G i ∧ w.rowIs (G i) 5 L (setV (m i))

theorem rowIs_below {w w' : World} {b : Nat} {t : TypeId} {n B : Nat} {f : Nat → Value} (h : w.rowIs b t n f) (hb : Below B w w') (hB : b < B) : w'.rowIs b t n f := h.of_block (hb.block b hB)

theorem SetRow.below {w w' : World} {b n k L lo : Nat} {G m : Nat → Nat} (h : SetRow w b n k L G m lo) (hb : Below w.heap.size w w') : SetRow w' b n k L G m lo :=
  ⟨rowIs_below h.1 hb h.1.lt, fun i hi => ⟨(h.2 i hi).1, rowIs_below (h.2 i hi).2 hb (h.2 i hi).2.lt⟩⟩
theorem SetRow.setOther {w : World} {b n k L lo : Nat} {G m : Nat → Nat} (h : SetRow w b n k L G m lo) {a : Addr} (v : Value) (h1 : b ≠ a.block) (h2 : a.block < lo) : SetRow (w.setCell a v) b n k L G m lo :=
  ⟨h.1.setOther h1 v, fun i hi => ⟨(h.2 i hi).1, (h.2 i hi).2.setOther (by have := (h.2 i hi).1; omega) v⟩⟩
theorem SetRow.step {w : World} {b n k L lo g : Nat} {G m : Nat → Nat} (h : SetRow w b n k L G m lo) (hb : b < lo) (hg : lo ≤ g) (hr : w.rowIs g 5 L (setV (m k))) :
    SetRow (w.setCell ⟨b, k, none⟩ (.slice (some ⟨g, 0, none⟩) L L)) b n (k + 1) L (fun j => if j = k then g else G j) m lo := by
  refine ⟨(h.1.set k _).congr fun i _ => ?_, fun i hi => ?_⟩
  · by_cases e : i = k
    · subst e; simp
    · simp [e, show (i < k + 1) = (i < k) from by rw [eq_iff_iff]; omega]
  · by_cases e : i = k
    · subst e; simp only [if_true]; exact ⟨hg, hr.setOther (by show g ≠ b; omega) _⟩
    · have := h.2 i (by omega)
      simp only [e, if_false]; exact ⟨this.1, this.2.setOther (by show G i ≠ b; omega) _⟩
theorem SetRow.drew {w : World} {b n k L lo : Nat} {G m : Nat → Nat} (h : SetRow w b n k L G m lo) : SetRow w.drew b n k L G m lo := h

structure PInv (h n t s wb L : Nat) (hm rm : Nat → Nat) (w0 : World) (kh kr hb rb : Nat) (wr : World) : Prop where
  h1 : h ≤ hb
  h2 : hb < h + 2
  r1 : h ≤ rb
  r2 : rb < h + 2
  ne : hb ≠ rb
  cN : wr.cell? ⟨h + 2, 0, none⟩ = some (.int .i64 n)
  cT : wr.cell? ⟨h + 2, 1, none⟩ = some (.int .i64 t)
  cS : wr.cell? ⟨h + 2, 2, none⟩ = some (.int .i64 s)
  cH : wr.cell? ⟨h + 2, 8, none⟩ = some (.slice (some ⟨hb, 0, none⟩) n n)
  cR : wr.cell? ⟨h + 2, 16, none⟩ = some (.slice (some ⟨rb, 0, none⟩) n n)
  cW : wr.cell? ⟨h + 2, 21, none⟩ = some (.slice (some ⟨wb, 0, none⟩) n n)
  sz : h + 3 ≤ wr.heap.size
  H : ∃ G, SetRow wr hb n kh L G hm (h + 3)
  R : ∃ G, SetRow wr rb n kr L G rm (h + 3)
  below : Below h w0 wr

theorem PInv.drew {h n t s wb L : Nat} {hm rm : Nat → Nat} {w0 : World} {kh kr hb rb : Nat} {wr : World} (i : PInv h n t s wb L hm rm w0 kh kr hb rb wr) : PInv h n t s wb L hm rm w0 kh kr hb rb wr.drew :=
  ⟨i.h1, i.h2, i.r1, i.r2, i.ne, i.cN, i.cT, i.cS, i.cH, i.cR, i.cW, i.sz, i.H, i.R, i.below.drew⟩
theorem PInv.belowed {h n t s wb L : Nat} {hm rm : Nat → Nat} {w0 : World} {kh kr hb rb : Nat} {wr w' : World} (i : PInv h n t s wb L hm rm w0 kh kr hb rb wr) (b : Below wr.heap.size wr w') : PInv h n t s wb L hm rm w0 kh kr hb rb w' := by
  have hs := i.sz
  have hc : ∀ o v, wr.cell? ⟨h + 2, o, none⟩ = some v → w'.cell? ⟨h + 2, o, none⟩ = some v := fun o v e => (b.cell (p := ⟨h + 2, o, none⟩) (by show h + 2 < _; omega)).trans e
  obtain ⟨G, hG⟩ := i.H
  obtain ⟨R, hR⟩ := i.R
  exact ⟨i.h1, i.h2, i.r1, i.r2, i.ne, hc _ _ i.cN, hc _ _ i.cT, hc _ _ i.cS, hc _ _ i.cH, hc _ _ i.cR, hc _ _ i.cW, Nat.le_trans hs b.size, ⟨G, hG.below b⟩, ⟨R, hR.below b⟩, i.below.trans (b.mono (by omega))⟩
theorem cell_set_ne (w : World) {a p : Addr} (v : Value) (h : p.block ≠ a.block) : (w.setCell a v).cell? p = w.cell? p := World.cell?_of_block (w := w) (Below.heap_setCell w a v p.block h)
theorem PInv.stepH {h n t s wb L : Nat} {hm rm : Nat → Nat} {w0 : World} {k kr hb rb g : Nat} {wr : World} (i : PInv h n t s wb L hm rm w0 k kr hb rb wr) (hg : h + 3 ≤ g) (hr : wr.rowIs g 5 L (setV (hm k))) :
    PInv h n t s wb L hm rm w0 (k + 1) kr hb rb (wr.setCell ⟨hb, k, none⟩ (.slice (some ⟨g, 0, none⟩) L L)) := by
  have h2 := i.h2
  have hc : ∀ o v, wr.cell? ⟨h + 2, o, none⟩ = some v → (wr.setCell ⟨hb, k, none⟩ (.slice (some ⟨g, 0, none⟩) L L)).cell? ⟨h + 2, o, none⟩ = some v := fun o v e => (cell_set_ne wr _ (by show h + 2 ≠ hb; omega)).trans e
  obtain ⟨G, hG⟩ := i.H
  obtain ⟨R, hR⟩ := i.R
  exact ⟨i.h1, i.h2, i.r1, i.r2, i.ne, hc _ _ i.cN, hc _ _ i.cT, hc _ _ i.cS, hc _ _ i.cH, hc _ _ i.cR, hc _ _ i.cW, by simpa using i.sz, ⟨_, hG.step (by omega) hg hr⟩, ⟨R, hR.setOther _ (fun e => i.ne e.symm) (by show hb < _; omega)⟩, i.below.setCell i.h1 _⟩
theorem PInv.stepR {h n t s wb L : Nat} {hm rm : Nat → Nat} {w0 : World} {kh k hb rb g : Nat} {wr : World} (i : PInv h n t s wb L hm rm w0 kh k hb rb wr) (hg : h + 3 ≤ g) (hr : wr.rowIs g 5 L (setV (rm k))) :
    PInv h n t s wb L hm rm w0 kh (k + 1) hb rb (wr.setCell ⟨rb, k, none⟩ (.slice (some ⟨g, 0, none⟩) L L)) := by
  have r2 := i.r2
  have hc : ∀ o v, wr.cell? ⟨h + 2, o, none⟩ = some v → (wr.setCell ⟨rb, k, none⟩ (.slice (some ⟨g, 0, none⟩) L L)).cell? ⟨h + 2, o, none⟩ = some v := fun o v e => (cell_set_ne wr _ (by show h + 2 ≠ rb; omega)).trans e
  obtain ⟨G, hG⟩ := i.H
  obtain ⟨R, hR⟩ := i.R
  exact ⟨i.h1, i.h2, i.r1, i.r2, i.ne, hc _ _ i.cN, hc _ _ i.cT, hc _ _ i.cS, hc _ _ i.cH, hc _ _ i.cR, hc _ _ i.cW, by simpa using i.sz, ⟨G, hG.setOther _ i.ne (by show rb < _; omega)⟩, ⟨_, hR.step (by omega) hg hr⟩, i.below.setCell i.r1 _⟩

def PRel (h n t s wb L : Nat) (hm rm : Nat → Nat) (w0 : World) (i : Value) (wr : World) : Prop :=
  ∃ k hb rb, k ≤ n ∧ i = .int .i64 (k : Nat) ∧ PInv h n t s wb L hm rm w0 k k hb rb wr

def PPost (h n t s wb L : Nat) (hm rm : Nat → Nat) (w0 : World) (e : Ending) (wr : World) : Prop :=
  ∃ hb rb, e = .returned (.pointer (some ⟨h + 2, 0, none⟩)) ∧ PInv h n t s wb L hm rm w0 n n hb rb wr
end Go.Proofs.Ybulkhjc.Bx
