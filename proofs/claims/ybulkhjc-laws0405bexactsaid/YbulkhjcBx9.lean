import Derived.Test.YbulkhjcBx8
namespace Go.Proofs.Ybulkhjc.Bx
open Go.RowKit

/-! what the law's walk asks of the plain side -/
theorem stepL_pre (n s j b : Nat) (hm : Nat → Nat) (rj k : Nat) (l : List (Nat × Nat)) : ∃ t, stepL n s j b hm rj k l = l ++ t := by
  unfold stepL
  split
  · exact ⟨[], by simp⟩
  · split
    · exact ⟨[], by simp⟩
    · split
      · exact ⟨[], by simp⟩
      · exact ⟨_, rfl⟩
theorem outL_pre (n s j b : Nat) (hm : Nat → Nat) (rj lo : Nat) (l0 : List (Nat × Nat)) (c : Nat) : ∀ d, ∃ t, outL n s j b hm rj lo l0 (c + d) = outL n s j b hm rj lo l0 c ++ t
  | 0 => ⟨[], by simp⟩
  | d + 1 => by
    obtain ⟨t, h⟩ := outL_pre n s j b hm rj lo l0 c d
    obtain ⟨t', h'⟩ := stepL_pre n s j b hm rj (lo + (c + d)) (outL n s j b hm rj lo l0 (c + d))
    refine ⟨t ++ t', ?_⟩
    show stepL n s j b hm rj (lo + (c + d)) (outL n s j b hm rj lo l0 (c + d)) = _
    rw [h', h, List.append_assoc]
theorem outL_pre' (n s j b : Nat) (hm : Nat → Nat) (rj lo : Nat) (l0 : List (Nat × Nat)) {c C : Nat} (h : c ≤ C) : ∃ t, outL n s j b hm rj lo l0 C = outL n s j b hm rj lo l0 c ++ t := by
  have := outL_pre n s j b hm rj lo l0 c (C - c)
  rwa [show c + (C - c) = C from by omega] at this
theorem res_pre (n t s j b a : Nat) (hm : Nat → Nat) (rj : Nat) (l0 : List (Nat × Nat)) : ∃ u, res n t s j b a hm rj l0 = l0 ++ u := by
  unfold res
  split
  · exact ⟨[], by simp⟩
  · exact outL_pre' n s j b hm rj _ l0 (c := 0) (by omega)

/-! the row of designations that the law lays -/
def preL (px py : Nat → Nat) (pl : Nat) : List (Nat × Nat) := (List.range pl).map (fun i => (px i, py i % 17))
theorem preL_len (px py : Nat → Nat) (pl : Nat) : (preL px py pl).length = pl := by simp [preL]
theorem preL_get (px py : Nat → Nat) (pl i : Nat) (h : i < (preL px py pl).length) : (preL px py pl)[i] = (px i, py i % 17) := by simp [preL]
def preV (px py : Nat → Nat) (k c : Nat) : Value := .int .i64 (if c < k * 2 then (if c % 2 = 0 then px (c / 2) else py (c / 2) % 17) else 0 : Nat)

theorem own_of_row {w : World} {B pl : Nat} {px py : Nat → Nat} (hl : pl ≤ 1024) (h : w.rowIs B 57 (pl * 2) (preV px py pl)) :
    w.ownsRow B 57 2 (.slice (some ⟨B, 0, none⟩) (preL px py pl).length pl) (preL px py pl).length (cellsD (preL px py pl)) := by
  obtain ⟨c, hc, hs, hv⟩ := h
  refine ⟨cellsD_len _, .inr ⟨B, pl, c, rfl, Nat.le_refl _, hc, by rw [preL_len]; exact Nat.le_refl _, by unfold maxLen; omega, hs, ?_⟩⟩
  rw [preL_len, List.take_of_length_le (by simp [hs])]
  refine List.ext_getElem? fun i => ?_
  by_cases hi : i < pl * 2
  · rw [Array.getElem?_toList, hv i hi]
    have hq : i / 2 < (preL px py pl).length := by rw [preL_len]; omega
    have hg := cellsD_get (preL px py pl) (i / 2) hq
    rw [preL_get] at hg
    rcases Nat.mod_two_eq_zero_or_one i with e | e
    · have : i / 2 * 2 = i := by omega
      rw [this] at hg
      rw [hg.1]; simp [preV, hi, e]
    · have : i / 2 * 2 + 1 = i := by omega
      rw [this] at hg
      rw [hg.2]; simp [preV, hi, e]
  · rw [List.getElem?_eq_none (by simp [hs]; omega), List.getElem?_eq_none (by rw [cellsD_len, preL_len]; omega)]

theorem made_row (w : World) (pl : Nat) (px py : Nat → Nat) : (w.alloc (.cells (madeCells #[.int .i64 0, .int .i64 0] (pl * 2)) 57)).rowIs w.heap.size 57 (pl * 2) (preV px py 0) :=
  ⟨_, Deep.blk_alloc_new _ _, size_madeCells _ _, fun i hi => by
    rcases Nat.mod_two_eq_zero_or_one i with e | e <;> simp [madeCells, hi, e, preV]⟩

theorem pre_step {w : World} {B pl k : Nat} {px py : Nat → Nat} (h : w.rowIs B 57 (pl * 2) (preV px py k)) :
    ((w.setCell ⟨B, k * 2, none⟩ (.int .i64 (px k))).setCell ⟨B, k * 2 + 1, none⟩ (.int .i64 (py k % 17 : Nat))).rowIs B 57 (pl * 2) (preV px py (k + 1)) := by
  refine ((h.set (k * 2) _).set (k * 2 + 1) _).congr fun i _ => ?_
  by_cases e1 : i = k * 2 + 1
  · subst e1
    have a1 : k * 2 + 1 < (k + 1) * 2 := by omega
    have a2 : (k * 2 + 1) % 2 = 1 := by omega
    have a3 : (k * 2 + 1) / 2 = k := by omega
    simp [preV, a1, a2, a3]
  · by_cases e2 : i = k * 2
    · subst e2
      have a1 : k * 2 < (k + 1) * 2 := by omega
      have a2 : (k * 2) % 2 = 0 := by omega
      have a3 : (k * 2) / 2 = k := by omega
      simp [preV, a1]
    · have a1 : (i < (k + 1) * 2) = (i < k * 2) := by rw [eq_iff_iff]; omega
      simp [preV, e1, e2, a1]

theorem pw_of {h n t s wb L : Nat} {hm rm : Nat → Nat} {w0 : World} {hb rb j a : Nat} {w2 : World} (i : PInv h n t s wb L hm rm w0 n n hb rb w2) (cA : w2.cell? ⟨wb, j - 1, none⟩ = some (.int .i64 a)) (hwb : wb < w2.heap.size) :
    PW w2.heap.size w2 (h + 2) hb rb wb n t s j a L hm rm := by
  have hs := i.sz
  have h2 := i.h2
  have r2 := i.r2
  refine ⟨i.cN, i.cT, i.cS, i.cH, i.cR, i.cW, cA, fun x hx => ?_, fun x hx => ?_, by omega, by omega, by omega, hwb, Nat.le_refl _⟩
  · obtain ⟨G, hG⟩ := i.H
    have hc := hG.1.cell hx
    rw [if_pos hx] at hc
    exact ⟨G x, hc, setAt_of (hG.2 x hx).2, (hG.2 x hx).2.lt⟩
  · obtain ⟨G, hG⟩ := i.R
    have hc := hG.1.cell hx
    rw [if_pos hx] at hc
    exact ⟨G x, hc, setAt_of (hG.2 x hx).2, (hG.2 x hx).2.lt⟩

/-- the comparison that the law makes is the one of the ranks -/
theorem key_lt (l : List (Nat × Nat)) (j k f b : Nat) : key l j k f < key l j k b ↔ (cntD l f < cntD l b ∨ (cntD l f = cntD l b ∧ tie f j k < tie b j k)) := by
  have h1 := tie_lt f j k
  have h2 := tie_lt b j k
  unfold key
  omega

theorem run_make53 (pl : Nat) (hl : pl ≤ 1024) (w : World) : (Instr.makeSlice 53 (.int .i64 (pl : Int)) (.int .i64 (pl : Int))).run Yba.prog w = .ok (.slice (some ⟨w.heap.size, 0, none⟩) pl pl) (w.alloc (.cells (madeCells #[.int .i64 0, .int .i64 0] (pl * 2)) 57)) := by
  obtain ⟨i57, hi57, hz57⟩ := Option.map_eq_some_iff.1 info57
  simp only [Prod.mk.injEq] at hz57
  obtain ⟨hz, hs, hb⟩ := hz57
  have hr := run_make (P := Yba.prog) w 53 57 i57 _ Yba.underlying53 hi57 hz .i64 .i64 pl pl (by omega) (Int.le_refl _) (by rw [hb]; omega) (by omega)
  simp only [Int.toNat_natCast] at hr
  rw [hr, hs]
  rfl
end Go.Proofs.Ybulkhjc.Bx
